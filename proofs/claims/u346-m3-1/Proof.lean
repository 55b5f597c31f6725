import JvmDerived
import JvmDerived.Pilot.@@N@@Statement
import JvmDerived.Pilot.@@N@@Code
set_option linter.unusedVariables false
set_option linter.unusedSimpArgs false
namespace Jvm.RoadKit
open Sem ClassFile Op Lib Jvm.Stand Jvm.Free Jvm.LawKit
section New
variable {p : Program} {l : Launch} {e : Env} {R : Room} {s : State} {m : MethodId} {args : Array Value} {below : List Frame} {meth : Method} {c : Code} {T : State} {locs : List Loc} {cells slots : Nat}
theorem retI (X : Stand p l e R s m args below meth c T locs cells slots) (hx : p.tables.exec = Jvm.exec) {pc : Nat} {Ls : Array Slot} {z : Int32} {rest : List Value} (hret : meth.sig.returnType = some .int) (hd : decode c.code pc = .ok (.ireturn, 1)) {fs : List Frame}
    (hl : ∀ (f : JFrame) (acts : List Action), f.method = m → f.locked = none → f.entered = [] → (doReturn e (T.setTop f) acts (some (.int z))).1 = T.setFrames fs) : Steps p.tables e below (T.setTop (mkF m pc Ls (.int z :: rest))) (T.setFrames fs) := by
  have hm' : T.vm.method? m = some meth := X.method'
  have hn : narrow .int (.int z) = .int z := rfl
  show Steps p.tables e below (T.setTop { method := m, pc := pc, locals := Ls, stack := _ :: rest, locked := none }) _
  jvm_step X.here [X.here.top, hx, hd, hm', hret, hn]
  first | (intro acts; rw [hl _ acts rfl rfl rfl]) | rw [hl _ _ rfl rfl rfl]
  exact Steps.refl _
end New
end Jvm.RoadKit
namespace Jvm.Pilot.@@N@@
open Jvm Jvm.ClassFile Sem Op Lib Jvm.Free Jvm.Stand Jvm.LawKit Jvm.RoadKit Bundle Jvm.Pilot.@@N@@.Jvm.D
/-! 0. the walk's goal: from the state S the body ends, and Q says what it leaves -/
def own_G (p : Program) (e : Env) (below : List Frame) (s : State) (Q : Option Value → Heap → List Loc → Prop) (k n : Nat) (S : State) : Prop :=
  ∃ s₂ o, Steps p.tables e below S s₂ ∧ s₂.status = .running ∧ Ended s₂ below o ∧ ∃ v L, o = .returned v ∧ Q v s₂.heap L ∧ FrameEnd s o s₂ L k n
theorem own_go {p : Program} {e : Env} {below : List Frame} {s : State} {Q : Option Value → Heap → List Loc → Prop} {k n : Nat} {S S' : State} (h : ∀ t, Steps p.tables e below S' t → Steps p.tables e below S t) (g : own_G p e below s Q k n S') : own_G p e below s Q k n S := by
  obtain ⟨t, o, h1, h2⟩ := g
  exact ⟨t, o, h t h1, h2⟩
theorem own_G0 {p : Program} {e : Env} {below : List Frame} {s : State} {Q : Option Value → Heap → List Loc → Prop} {k n : Nat} {S : State} (g : own_G p e below s Q k n S) :
    ∃ s₂ o, Steps p.tables e below S s₂ ∧ s₂.status = .running ∧ Ended s₂ below o ∧ ∃ v L, o = .returned v ∧ Q v s₂.heap L ∧ FrameEnd s o s₂ L k n := g
/-- a body that writes nothing and returns r -/
def own_Q (r : Option Value) (h0 : Heap) (v : Option Value) (h : Heap) (L : List Loc) : Prop := v = r ∧ L = [] ∧ h = h0
/-- Java's x % y, x >>> y on ints and longs, (char) x -/
def own_rem (x y : Int32) : Int32 := x - (x / y) * y
def own_us (x y : Int32) : Int32 := (x.toUInt32 >>> (y &&& 31).toUInt32).toInt32
def own_usL (x : Int64) (y : Int32) : Int64 := (x.toUInt64 >>> (y &&& 0x3f).toInt64.toUInt64).toInt64
def own_c (x : Int32) : Int32 := x.toUInt32.toUInt16.toUInt32.toInt32
theorem own_eq {p : Program} {e : Env} {below : List Frame} {s : State} {h0 : Heap} {k n : Nat} {S : State} {a b : Int32} (h : a = b) (g : own_G p e below s (own_Q (some (.int b)) h0) k n S) : own_G p e below s (own_Q (some (.int a)) h0) k n S := h ▸ g
section Own
variable {p : Program} {l : Launch} {e : Env} {R : Room} {s : State} {m : MethodId} {args : Array Value} {below : List Frame} {meth : Method} {c : Code} {T : State} {locs : List Loc} {cells slots : Nat} {Q : Option Value → Heap → List Loc → Prop} {k n : Nat}
theorem own_retI (X : Stand p l e R s m args below meth c T locs cells slots) (hx : p.tables.exec = Jvm.exec) (hlk : meth.locks = false) {pc : Nat} {Ls : Array Slot} {z : Int32} {rest : List Value} (hret : meth.sig.returnType = some .int) (hd : decode c.code pc = .ok (.ireturn, 1)) (hc : cells ≤ k) (hs : slots ≤ n) (hq : Q (some (.int z)) T.heap locs) :
    own_G p e below s Q k n (T.setTop (mkF m pc Ls (.int z :: rest))) := by
  obtain ⟨fs, hr, hrun, hended, hW, hsame⟩ := X.leave (v := some (.int z)) (fun h => by rw [hret] at h; cases h) hlk
  exact ⟨_, _, retI X hx hret hd hr, hrun, hended, _, _, rfl, hq, ⟨_, rfl⟩, hW, hsame.mono hc hs⟩
theorem own_retN (X : Stand p l e R s m args below meth c T locs cells slots) (hx : p.tables.exec = Jvm.exec) (hlk : meth.locks = false) {pc : Nat} {Ls : Array Slot} {z : Int32} {t : FieldType} {rest : List Value} (hret : meth.sig.returnType = some t) (ht : t = .boolean ∨ t = .byte ∨ t = .char ∨ t = .short) (hd : decode c.code pc = .ok (.ireturn, 1)) (hc : cells ≤ k) (hs : slots ≤ n) (hq : Q (some (.int (nar t z))) T.heap locs) :
    own_G p e below s Q k n (T.setTop (mkF m pc Ls (.int z :: rest))) := by
  obtain ⟨fs, hr, hrun, hended, hW, hsame⟩ := X.leave (v := some (.int (nar t z))) (fun h => by rw [hret] at h; cases h) hlk
  exact ⟨_, _, retN X hx hret ht hd hr, hrun, hended, _, _, rfl, hq, ⟨_, rfl⟩, hW, hsame.mono hc hs⟩
theorem own_retJ (X : Stand p l e R s m args below meth c T locs cells slots) (hx : p.tables.exec = Jvm.exec) (hlk : meth.locks = false) {pc : Nat} {Ls : Array Slot} {z : Int64} (hret : meth.sig.returnType = some .long) (hd : decode c.code pc = .ok (.lreturn, 1)) (hc : cells ≤ k) (hs : slots ≤ n) (hq : Q (some (.long z)) T.heap locs) :
    own_G p e below s Q k n (T.setTop (mkF m pc Ls [.long z])) := by
  obtain ⟨fs, hr, hrun, hended, hW, hsame⟩ := X.leave (v := some (.long z)) (fun h => by rw [hret] at h; cases h) hlk
  exact ⟨_, _, X.lreturnOut hx hret hd hr, hrun, hended, _, _, rfl, hq, ⟨_, rfl⟩, hW, hsame.mono hc hs⟩
theorem own_retA (X : Stand p l e R s m args below meth c T locs cells slots) (hx : p.tables.exec = Jvm.exec) (hlk : meth.locks = false) {pc : Nat} {Ls : Array Slot} {w : Value} {t : FieldType} (hw : w.isRef = true) (hret : meth.sig.returnType = some t) (ht : t.isReference = true) (hd : decode c.code pc = .ok (.areturn, 1)) (hc : cells ≤ k) (hs : slots ≤ n) (hq : Q (some w) T.heap locs) :
    own_G p e below s Q k n (T.setTop (mkF m pc Ls [w])) := by
  obtain ⟨fs, hr, hrun, hended, hW, hsame⟩ := X.leave (v := some w) (fun h => by rw [hret] at h; cases h) hlk
  exact ⟨_, _, X.areturnOut hx hw hret ht hd hr, hrun, hended, _, _, rfl, hq, ⟨_, rfl⟩, hW, hsame.mono hc hs⟩
theorem own_retV (X : Stand p l e R s m args below meth c T locs cells slots) (hx : p.tables.exec = Jvm.exec) (hlk : meth.locks = false) {pc : Nat} {Ls : Array Slot} (hret : meth.sig.returnType = none) (hd : decode c.code pc = .ok (.return_, 1)) (hc : cells ≤ k) (hs : slots ≤ n) (hq : Q none T.heap locs) :
    own_G p e below s Q k n (T.setTop (mkF m pc Ls [])) := by
  obtain ⟨fs, hr, hrun, hended, hW, hsame⟩ := X.leave (v := none) (fun _ => rfl) hlk
  exact ⟨_, _, X.returnOut hx hret hd hr, hrun, hended, _, _, rfl, hq, ⟨_, rfl⟩, hW, hsame.mono hc hs⟩
/-- a static call of a body that writes nothing -/
theorem own_call (X : Stand p l e R s m args below meth c T locs cells slots) (hx : p.tables.exec = Jvm.exec) {Z : State} (hZ : Z.Warmed39 s.vm) {a0 : Array Value} {own : String} {index : Nat} {y : MethodName} {bytes : ByteArray} {maxL : Nat} {ret : Option FieldType} {rm : Room} (hown : s.vm.findClass own = some m.cls)
    (w1 : (Cond.methodLink own index y).before a0 Z = true) (w2 : (Cond.static y).before a0 Z = true) (w3 : (Cond.initialized y.cls).before a0 Z = true) (w4 : (Cond.code y bytes maxL ret).before a0 Z = true) (hy : y.cls ≠ "java/lang/invoke/MethodHandle" ∧ y.cls ≠ "java/lang/invoke/VarHandle")
    {as' : Array Value} {h : Heap} {r : Option Value} (hM : MetFree l y (head1 [Cond.code y bytes maxL ret] rm) (fun a U => a = as' ∧ Z.Warmed39 U.vm ∧ U.heap = h) (fun _ _ _ _ _ => True) (fun _ U o U' => ∃ v L, o = .returned v ∧ own_Q r h v U'.heap L ∧ FrameEnd U o U' L rm.cells rm.slots)) (hc0 : rm.cells = 0) (hs0 : rm.slots = 0) (eT : T.heap = h)
    {W : Nat} (hf : rm.frames + 1 ≤ R.frames) (hl : W + (maxL + 11) + rm.locals ≤ R.locals) (hcR : cells ≤ R.cells) (hsR : slots ≤ R.slots) {g : JFrame} (hg : g.method = m) (hsize : g.locals.size = c.maxLocals) {argsL rest : List Value} (hlen : ∀ sig, parseMethodDescriptor y.desc = some sig → argsL.length = sig.parameters.length) (has : argsL.toArray = as') (hstack : g.stack = argsL.reverse ++ rest)
    (hW : 2 * g.monitorRoom + (rest.map fun v => v.category).sum ≤ W) (hdg : decode c.code g.pc = .ok (.invokestatic index, 3)) :
    ∃ T', Stand p l e R s m args below meth c T' locs cells slots ∧ T'.heap = h ∧ ∀ t, Steps p.tables e below (T'.setTop { g with pc := g.pc + 3, stack := r.toList ++ rest }) t → Steps p.tables e below (T.setTop g) t := by
  obtain ⟨_, _, ⟨T2, L2, k2, n2⟩, -, X2, ⟨Lc2, hQ2, l2, y2, z2⟩, st2⟩ := Jvm.LawKit.callS X hx hown (mvT hZ w1) (mvT hZ w2) (mvT hZ w3) (mvT hZ w4) hy (backOf (W := W) hM hZ w4 w3 hf hl) hg hsize hlen hstack hW hdg (fun _ _ => ⟨has, eT, (by show cells + rm.cells ≤ R.cells; rw [hc0]; exact hcR), (by show slots + rm.slots ≤ R.slots; rw [hs0]; exact hsR)⟩)
  dsimp only [Pt.U, Pt.locs, Pt.cells, Pt.slots] at X2 l2 y2 z2 st2 hQ2
  obtain ⟨rfl, rfl, e2⟩ := hQ2
  rw [hc0] at y2
  rw [hs0] at z2
  rw [List.append_nil] at l2
  subst l2 y2 z2
  exact ⟨T2, X2, e2, st2⟩
end Own

def own_QF (r : Option Value) (n0 : Nat) (v : Option Value) (h : Heap) (L : List Loc) : Prop := v = r ∧ Fr n0 L
theorem own_eqF {p : Program} {e : Env} {below : List Frame} {s : State} {n0 : Nat} {k n : Nat} {S : State} {a b : Int32} (h : a = b) (g : own_G p e below s (own_QF (some (.int b)) n0) k n S) : own_G p e below s (own_QF (some (.int a)) n0) k n S := h ▸ g
/-! arrays: at a stands an array of n values, the j-th f j -/
def own_A (Z : State) (h : Heap) (a : Addr) (ty : FieldType) (n : Int32) (f : Int32 → Int32) : Prop :=
  ∃ c : Cell, Arr Z h a c ty ∧ c.slots.size = n.toNatClampNeg ∧ ¬ n < 0 ∧ ∀ j : Int32, ¬ j < 0 → j < n → c.slots[j.toNatClampNeg]? = some (.int (f j))
def own_set (f : Int32 → Int32) (j v : Int32) (i : Int32) : Int32 := if i = j then v else f i
theorem own_clamp {j n : Int32} (h0 : ¬ j < 0) (h1 : j < n) : j.toNatClampNeg < n.toNatClampNeg := by
  rw [Int32.lt_iff_toInt_lt] at h0 h1
  have : (0 : Int32).toInt = 0 := rfl
  show j.toInt.toNat < n.toInt.toNat
  omega
theorem own_clinj {i j : Int32} (h0 : ¬ i < 0) (h1 : ¬ j < 0) (h : i.toNatClampNeg = j.toNatClampNeg) : i = j := by
  rw [Int32.lt_iff_toInt_lt] at h0 h1
  have z : (0 : Int32).toInt = 0 := rfl
  have e : i.toInt.toNat = j.toInt.toNat := h
  apply Int32.toInt_inj.mp
  omega
theorem own_A_new {Z : State} {h : Heap} {a : Addr} {k : ClassId} {ty : FieldType} {n : Int32} (A : Arr Z h a (newA k ty n) ty) (q : ¬ n < 0) (hd : defaultValue ty = .int 0) : own_A Z h a ty n (fun _ => 0) := by
  obtain ⟨c, h1, -, h3, h4, h5, -⟩ := Arv.new A q
  refine ⟨c, h1, h3, q, fun j h0 hj => ?_⟩
  have := h5 j.toNatClampNeg (by rw [h3]; exact own_clamp h0 hj)
  rw [this, hd]
  rfl
theorem own_A_set {Z : State} {h h' : Heap} {a : Addr} {ty : FieldType} {n j v : Int32} {f : Int32 → Int32} (A : own_A Z h a ty n f) (h0 : ¬ j < 0) (h1 : j < n) (W : Wr h h' a j.toNatClampNeg (.int v)) : own_A Z h' a ty n (own_set f j v) := by
  obtain ⟨c, A1, A2, A3, A4⟩ := A
  refine ⟨_, A1.same W, by rw [← A2]; simp [Cell.setSlot], A3, fun i i0 i1 => ?_⟩
  show (c.slots.setIfInBounds j.toNatClampNeg (.int v))[i.toNatClampNeg]? = _
  by_cases e : i = j
  · subst e
    rw [Array.getElem?_setIfInBounds_self_of_lt (by rw [A2]; exact own_clamp h0 h1)]
    simp [own_set]
  · rw [Array.getElem?_setIfInBounds_ne (fun q => e (own_clinj i0 h0 q.symm)), A4 i i0 i1]
    simp [own_set, e]
theorem own_A_other {Z : State} {h h' : Heap} {a b : Addr} {ty : FieldType} {n : Int32} {f : Int32 → Int32} {sl : Nat} {v : Value} (A : own_A Z h a ty n f) (W : Wr h h' b sl v) (q : a ≠ b) : own_A Z h' a ty n f := by
  obtain ⟨c, A1, A2⟩ := A
  exact ⟨c, A1.other W q, A2⟩
theorem own_A_ext {Z : State} {h h' : Heap} {a : Addr} {ty : FieldType} {n : Int32} {f : Int32 → Int32} (A : own_A Z h a ty n f) (E : Ext h h') : own_A Z h' a ty n f := by
  obtain ⟨c, A1, A2⟩ := A
  exact ⟨c, A1.ext E, A2⟩
theorem own_A_lt {Z : State} {h : Heap} {a : Addr} {ty : FieldType} {n : Int32} {f : Int32 → Int32} (A : own_A Z h a ty n f) : a < h.size := by
  obtain ⟨c, A1, A2⟩ := A
  exact A1.lt
section OwnA
variable {p : Program} {l : Launch} {e : Env} {R : Room} {s : State} {m : MethodId} {args : Array Value} {below : List Frame} {meth : Method} {c : Code} {T : State} {locs : List Loc} {cells slots : Nat} {Z : State} {h : Heap} {n0 : Nat}
theorem own_new (X : Stand p l e R s m args below meth c T locs cells slots) (hx : p.tables.exec = Jvm.exec) (hZ : Z.Warmed39 s.vm) {a0 : Array Value} {aty : ArrayType} (w : (Cond.arrayClass (newarray.typeOf aty)).before a0 Z = true) (eT : T.heap = h) (hn0 : n0 ≤ h.size) (hdv : defaultValue (newarray.typeOf aty) = .int 0) {g : JFrame} (hg : g.method = m) (hd : decode c.code g.pc = .ok (.newarray aty, 2)) {n : Int32} {rest : List Value} (hs : g.stack = .int n :: rest)
    (hn : ¬ n < 0) {cap : Nat} (hcap : n.toNatClampNeg ≤ cap) (hb : cap * 8 ≤ 536870912) (hc : cells + 1 ≤ R.cells) (hl : slots + cap ≤ R.slots) :
    ∃ T' h' a, Stand p l e R s m args below meth c T' locs (cells + 1) (slots + cap) ∧ T'.heap = h' ∧ Ext h h' ∧ a = h.size ∧ n0 ≤ a ∧ own_A Z h' a (newarray.typeOf aty) n (fun _ => 0) ∧
      ∀ target, Steps p.tables e below (T'.setTop { g with pc := g.pc + 2, stack := .ref a :: rest }) target → Steps p.tables e below (T.setTop g) target := by
  obtain ⟨T', h', cA, X', e', E', A', st⟩ := newP X hx hZ w eT hg hd hs hn hcap hb hc hl
  exact ⟨T', h', h.size, X', e', E', rfl, hn0, own_A_new A' hn hdv, st⟩
theorem own_stC (X : Stand p l e R s m args below meth c T locs cells slots) (hx : p.tables.exec = Jvm.exec) (hZ : Z.Warmed39 s.vm) (eT : T.heap = h) {a : Addr} {n : Int32} {f : Int32 → Int32} (A : own_A Z h a .char n f) (N : Fr n0 locs) (ha : n0 ≤ a) {j x : Int32} (h0 : ¬ j < 0) (h1 : j < n) {g : JFrame} (hg : g.method = m) {rest : List Value} (hs : g.stack = .int x :: .int j :: .ref a :: rest) (hd : decode c.code g.pc = .ok (.castore, 1)) :
    ∃ T' h' locs', Stand p l e R s m args below meth c T' locs' cells slots ∧ T'.heap = h' ∧ Fr n0 locs' ∧ own_A Z h' a .char n (own_set f j (nar .char x)) ∧ Wr h h' a j.toNatClampNeg (.int (nar .char x)) ∧
      ∀ target, Steps p.tables e below (T'.setTop { g with pc := g.pc + 1, stack := rest }) target → Steps p.tables e below (T.setTop g) target := by
  obtain ⟨cl, Ar, Sz, Hn, Hf⟩ := A
  obtain ⟨T', h', X', e', W', st⟩ := stC X hx hZ eT Ar (inb_of Sz ⟨h0, h1⟩) hg hs hd
  exact ⟨T', h', _, X', e', Fr.snoc X' N ha, own_A_set ⟨cl, Ar, Sz, Hn, Hf⟩ h0 h1 W', W', st⟩
theorem own_stI (X : Stand p l e R s m args below meth c T locs cells slots) (hx : p.tables.exec = Jvm.exec) (hZ : Z.Warmed39 s.vm) (eT : T.heap = h) {a : Addr} {n : Int32} {f : Int32 → Int32} (A : own_A Z h a .int n f) (N : Fr n0 locs) (ha : n0 ≤ a) {j x : Int32} (h0 : ¬ j < 0) (h1 : j < n) {g : JFrame} (hg : g.method = m) {rest : List Value} (hs : g.stack = .int x :: .int j :: .ref a :: rest) (hd : decode c.code g.pc = .ok (.iastore, 1)) :
    ∃ T' h' locs', Stand p l e R s m args below meth c T' locs' cells slots ∧ T'.heap = h' ∧ Fr n0 locs' ∧ own_A Z h' a .int n (own_set f j x) ∧ Wr h h' a j.toNatClampNeg (.int x) ∧
      ∀ target, Steps p.tables e below (T'.setTop { g with pc := g.pc + 1, stack := rest }) target → Steps p.tables e below (T.setTop g) target := by
  obtain ⟨cl, Ar, Sz, Hn, Hf⟩ := A
  obtain ⟨T', h', X', e', W', st⟩ := stI X hx hZ eT Ar (inb_of Sz ⟨h0, h1⟩) hg hs hd
  exact ⟨T', h', _, X', e', Fr.snoc X' N ha, own_A_set ⟨cl, Ar, Sz, Hn, Hf⟩ h0 h1 W', W', st⟩
theorem own_stB (X : Stand p l e R s m args below meth c T locs cells slots) (hx : p.tables.exec = Jvm.exec) (hZ : Z.Warmed39 s.vm) (eT : T.heap = h) {a : Addr} {n : Int32} {f : Int32 → Int32} (A : own_A Z h a .byte n f) (N : Fr n0 locs) (ha : n0 ≤ a) {j x : Int32} (h0 : ¬ j < 0) (h1 : j < n) {g : JFrame} (hg : g.method = m) {rest : List Value} (hs : g.stack = .int x :: .int j :: .ref a :: rest) (hd : decode c.code g.pc = .ok (.bastore, 1)) :
    ∃ T' h' locs', Stand p l e R s m args below meth c T' locs' cells slots ∧ T'.heap = h' ∧ Fr n0 locs' ∧ own_A Z h' a .byte n (own_set f j (nar .byte x)) ∧ Wr h h' a j.toNatClampNeg (.int (nar .byte x)) ∧
      ∀ target, Steps p.tables e below (T'.setTop { g with pc := g.pc + 1, stack := rest }) target → Steps p.tables e below (T.setTop g) target := by
  obtain ⟨cl, Ar, Sz, Hn, Hf⟩ := A
  obtain ⟨T', h', X', e', W', st⟩ := stB X hx hZ eT Ar (inb_of Sz ⟨h0, h1⟩) hg hs hd
  exact ⟨T', h', _, X', e', Fr.snoc X' N ha, own_A_set ⟨cl, Ar, Sz, Hn, Hf⟩ h0 h1 W', W', st⟩
theorem own_ldC (X : Stand p l e R s m args below meth c T locs cells slots) (hx : p.tables.exec = Jvm.exec) (hZ : Z.Warmed39 s.vm) (eT : T.heap = h) {a : Addr} {n : Int32} {f : Int32 → Int32} (A : own_A Z h a .char n f) {j : Int32} (h0 : ¬ j < 0) (h1 : j < n) {g : JFrame} (hg : g.method = m) {rest : List Value} (hs : g.stack = .int j :: .ref a :: rest) (hd : decode c.code g.pc = .ok (.caload, 1)) :
    ∀ target, Steps p.tables e below (T.setTop { g with pc := g.pc + 1, stack := .int (f j) :: rest }) target → Steps p.tables e below (T.setTop g) target := by
  obtain ⟨cl, Ar, Sz, Hn, Hf⟩ := A
  exact fun t k => X.caload hx (j := j) (v := .int (f j)) (by rw [eT]; exact Ar.1) (State.isArrayOf_alike hZ.alike Ar.2.1) Ar.2.2 (inb_of Sz ⟨h0, h1⟩) (Hf j h0 h1) hg hs hd t k
theorem own_ldI (X : Stand p l e R s m args below meth c T locs cells slots) (hx : p.tables.exec = Jvm.exec) (hZ : Z.Warmed39 s.vm) (eT : T.heap = h) {a : Addr} {n : Int32} {f : Int32 → Int32} (A : own_A Z h a .int n f) {j : Int32} (h0 : ¬ j < 0) (h1 : j < n) {g : JFrame} (hg : g.method = m) {rest : List Value} (hs : g.stack = .int j :: .ref a :: rest) (hd : decode c.code g.pc = .ok (.iaload, 1)) :
    ∀ target, Steps p.tables e below (T.setTop { g with pc := g.pc + 1, stack := .int (f j) :: rest }) target → Steps p.tables e below (T.setTop g) target := by
  obtain ⟨cl, Ar, Sz, Hn, Hf⟩ := A
  exact fun t k => X.iaload hx (j := j) (v := .int (f j)) (by rw [eT]; exact Ar.1) (State.isArrayOf_alike hZ.alike Ar.2.1) Ar.2.2 (inb_of Sz ⟨h0, h1⟩) (Hf j h0 h1) hg hs hd t k
theorem own_ldB (X : Stand p l e R s m args below meth c T locs cells slots) (hx : p.tables.exec = Jvm.exec) (hZ : Z.Warmed39 s.vm) (eT : T.heap = h) {a : Addr} {n : Int32} {f : Int32 → Int32} (A : own_A Z h a .byte n f) {j : Int32} (h0 : ¬ j < 0) (h1 : j < n) {g : JFrame} (hg : g.method = m) {rest : List Value} (hs : g.stack = .int j :: .ref a :: rest) (hd : decode c.code g.pc = .ok (.baload, 1)) :
    ∀ target, Steps p.tables e below (T.setTop { g with pc := g.pc + 1, stack := .int (f j) :: rest }) target → Steps p.tables e below (T.setTop g) target := by
  obtain ⟨cl, Ar, Sz, Hn, Hf⟩ := A
  exact fun t k => X.baloadBytes hx (j := j) (v := .int (f j)) (by rw [eT]; exact Ar.1) (State.isArrayOf_alike hZ.alike Ar.2.1) Ar.2.2 (inb_of Sz ⟨h0, h1⟩) (Hf j h0 h1) hg hs hd t k
theorem own_len (X : Stand p l e R s m args below meth c T locs cells slots) (hx : p.tables.exec = Jvm.exec) (hZ : Z.Warmed39 s.vm) (eT : T.heap = h) {a : Addr} {ty : FieldType} {n : Int32} {f : Int32 → Int32} (A : own_A Z h a ty n f) {g : JFrame} (hg : g.method = m) {rest : List Value} (hs : g.stack = .ref a :: rest) (hd : decode c.code g.pc = .ok (.arraylength, 1)) :
    ∀ target, Steps p.tables e below (T.setTop { g with pc := g.pc + 1, stack := .int n :: rest }) target → Steps p.tables e below (T.setTop g) target := by
  obtain ⟨cl, Ar, Sz, Hn, Hf⟩ := A
  intro t k
  refine X.arraylength hx (by rw [eT]; exact Ar.1) (State.isArrayOf_alike hZ.alike Ar.2.1) hg hs hd t ?_
  rw [len_of Sz Hn]
  exact k
end OwnA

/-! calls that write: what they return, that nothing old was written, and what P says of the heap they leave -/
def own_QE (r : Option Value) (n0 : Nat) (P : Heap → Prop) (v : Option Value) (h : Heap) (L : List Loc) : Prop := v = r ∧ Fr n0 L ∧ P h
section OwnO
variable {p : Program} {l : Launch} {e : Env} {R : Room} {s : State} {m : MethodId} {args : Array Value} {below : List Frame} {meth : Method} {c : Code} {T : State} {locs : List Loc} {cells slots : Nat} {Z : State} {h : Heap} {n0 : Nat} {a0 : Array Value}
theorem own_newO (X : Stand p l e R s m args below meth c T locs cells slots) (hx : p.tables.exec = Jvm.exec) (hZ : Z.Warmed39 s.vm) {own C : String} {index n : Nat} (hown : s.vm.findClass own = some m.cls) (w : (Cond.classLink own index C).before a0 Z = true) (wi : (Cond.instantiable C n).before a0 Z = true) (wz : (Cond.initialized C).before a0 Z = true) (eT : T.heap = h) (hn0 : n0 ≤ h.size)
    {g : JFrame} (hg : g.method = m) (hd : decode c.code g.pc = .ok (.new index, 3)) (hc : cells + 1 ≤ R.cells) (hl : slots + n ≤ R.slots) :
    ∃ T' h' a, Stand p l e R s m args below meth c T' locs (cells + 1) (slots + n) ∧ T'.heap = h' ∧ Ext h h' ∧ a = h.size ∧ n0 ≤ a ∧ n0 ≤ h'.size ∧ Exa Z h' a C ∧ (∀ {O nm d : String} {ty : FieldType}, Laid Z a0 C O nm d → parseFieldDescriptor d = some ty → Fld Z h' a O nm d (defaultValue ty)) ∧
      ∀ target, Steps p.tables e below (T'.setTop { g with pc := g.pc + 3, stack := .ref a :: g.stack }) target → Steps p.tables e below (T.setTop g) target := by
  obtain ⟨T', h', X', e', E', A', D', -, st⟩ := newO X hx hZ hown w wi wz eT hg hd hc hl
  exact ⟨T', h', h.size, X', e', E', rfl, hn0, Nat.le_trans hn0 E'.1, A', D', st⟩
theorem own_callI (X : Stand p l e R s m args below meth c T locs cells slots) (hx : p.tables.exec = Jvm.exec) (hZ : Z.Warmed39 s.vm) {own : String} {index : Nat} {y : MethodName} {bytes : ByteArray} {maxL : Nat} {rm : Room} (hy1 : y.name = "<init>") (hown : s.vm.findClass own = some m.cls)
    (w1 : (Cond.methodLink own index y).before a0 Z = true) (w2 : (Cond.instanceMethod y).before a0 Z = true) (w3 : (Cond.code y bytes maxL none).before a0 Z = true) (w4 : (Cond.initialized y.cls).before a0 Z = true) (hy : y.cls ≠ "java/lang/invoke/MethodHandle" ∧ y.cls ≠ "java/lang/invoke/VarHandle")
    {as' : Array Value} {P : Heap → Prop} (hM : MetFree l y (head1 [Cond.code y bytes maxL none] rm) (fun a U => a = as' ∧ Z.Warmed39 U.vm ∧ U.heap = h) (fun _ _ _ _ _ => True) (fun _ U o U' => ∃ v L, o = .returned v ∧ own_QE none n0 P v U'.heap L ∧ FrameEnd U o U' L rm.cells rm.slots)) (eT : T.heap = h) (N : Fr n0 locs)
    {W : Nat} (hf : rm.frames + 1 ≤ R.frames) (hl : W + (maxL + 11) + rm.locals ≤ R.locals) (hcR : cells + rm.cells ≤ R.cells) (hsR : slots + rm.slots ≤ R.slots) {g : JFrame} (hg : g.method = m) (hsize : g.locals.size = c.maxLocals) {b : Addr} {argsL rest : List Value} (hlen : ∀ sig, parseMethodDescriptor y.desc = some sig → argsL.length = sig.parameters.length) (has : (.ref b :: argsL).toArray = as') (hstack : g.stack = argsL.reverse ++ .ref b :: rest)
    (hW : 2 * g.monitorRoom + (rest.map fun v => v.category).sum ≤ W) (hdg : decode c.code g.pc = .ok (.invokespecial index, 3)) :
    ∃ T' h' locs', Stand p l e R s m args below meth c T' locs' (cells + rm.cells) (slots + rm.slots) ∧ T'.heap = h' ∧ Fr n0 locs' ∧ P h' ∧ ∀ t, Steps p.tables e below (T'.setTop { g with pc := g.pc + 3, stack := rest }) t → Steps p.tables e below (T.setTop g) t := by
  obtain ⟨_, _, ⟨T2, L2, k2, n2⟩, -, X2, ⟨Lc2, hQ2, l2, y2, z2⟩, st2⟩ := X.specialBack hx (y := y) hy1 hown (mvT hZ w1) (mvT hZ w2) (mvT hZ w3) hy (backOf (W := W) hM hZ w3 w4 hf hl) hg hsize (Steps.refl _) hlen hstack hW hdg (fun _ _ => ⟨has, eT, hcR, hsR⟩)
  dsimp only [Pt.U, Pt.locs, Pt.cells, Pt.slots] at X2 l2 y2 z2 st2 hQ2
  subst l2 y2 z2
  obtain ⟨rfl, N2, P2⟩ := hQ2
  exact ⟨T2, _, _, X2, rfl, Fr.app N N2, P2, fun t k => st2.trans k⟩
theorem own_callV (X : Stand p l e R s m args below meth c T locs cells slots) (hx : p.tables.exec = Jvm.exec) (hZ : Z.Warmed39 s.vm) {own C : String} {index : Nat} {y : MethodName} {bytes : ByteArray} {maxL : Nat} {ret : Option FieldType} {rm : Room} (hown : s.vm.findClass own = some m.cls)
    (w1 : (Cond.methodLink own index y).before a0 Z = true) (w2 : (Cond.declares y).before a0 Z = true) (w3 : (Cond.selects C y y).before a0 Z = true) (w4 : (Cond.instanceMethod y).before a0 Z = true) (w5 : (Cond.code y bytes maxL ret).before a0 Z = true) (w6 : (Cond.initialized y.cls).before a0 Z = true) (hy : y.cls ≠ "java/lang/invoke/MethodHandle" ∧ y.cls ≠ "java/lang/invoke/VarHandle")
    {as' : Array Value} {r : Option Value} (hM : MetFree l y (head1 [Cond.code y bytes maxL ret] rm) (fun a U => a = as' ∧ Z.Warmed39 U.vm ∧ U.heap = h) (fun _ _ _ _ _ => True) (fun _ U o U' => ∃ v L, o = .returned v ∧ own_Q r h v U'.heap L ∧ FrameEnd U o U' L rm.cells rm.slots)) (hc0 : rm.cells = 0) (hs0 : rm.slots = 0) (eT : T.heap = h) {b : Addr} (E : Exa Z h b C)
    {W : Nat} (hf : rm.frames + 1 ≤ R.frames) (hl : W + (maxL + 11) + rm.locals ≤ R.locals) (hcR : cells ≤ R.cells) (hsR : slots ≤ R.slots) {g : JFrame} (hg : g.method = m) (hsize : g.locals.size = c.maxLocals) {argsL rest : List Value} (hlen : ∀ sig, parseMethodDescriptor y.desc = some sig → argsL.length = sig.parameters.length) (has : (.ref b :: argsL).toArray = as') (hstack : g.stack = argsL.reverse ++ .ref b :: rest)
    (hW : 2 * g.monitorRoom + (rest.map fun v => v.category).sum ≤ W) (hdg : decode c.code g.pc = .ok (.invokevirtual index, 3)) :
    ∃ T', Stand p l e R s m args below meth c T' locs cells slots ∧ T'.heap = h ∧ ∀ t, Steps p.tables e below (T'.setTop { g with pc := g.pc + 3, stack := r.toList ++ rest }) t → Steps p.tables e below (T.setTop g) t := by
  obtain ⟨cB, kB, q1, -, q3⟩ := isOf hZ eT E
  obtain ⟨_, _, ⟨T2, L2, k2, n2⟩, -, X2, ⟨Lc2, hQ2, l2, y2, z2⟩, st2⟩ := X.virtualBack hx (y := y) (z := y) hown (mvT hZ w1) (mvT hZ w2) (notFace_of_selects (args := #[]) (mvT hZ w3)) (mvT hZ w3) (mvT hZ w4) hy (backOf (W := W) hM hZ w5 w6 hf hl) q1 q3 hg hsize (Steps.refl _) hlen hstack hW hdg (fun _ _ => ⟨has, eT, (by show cells + rm.cells ≤ R.cells; rw [hc0]; exact hcR), (by show slots + rm.slots ≤ R.slots; rw [hs0]; exact hsR)⟩)
  dsimp only [Pt.U, Pt.locs, Pt.cells, Pt.slots] at X2 l2 y2 z2 st2 hQ2
  obtain ⟨rfl, rfl, e2⟩ := hQ2
  rw [hc0] at y2
  rw [hs0] at z2
  rw [List.append_nil] at l2
  subst l2 y2 z2
  exact ⟨T2, X2, e2, fun t k => st2.trans k⟩
theorem own_callW (X : Stand p l e R s m args below meth c T locs cells slots) (hx : p.tables.exec = Jvm.exec) (hZ : Z.Warmed39 s.vm) {own C : String} {index : Nat} {y : MethodName} {bytes : ByteArray} {maxL : Nat} {ret : Option FieldType} {rm : Room} (hown : s.vm.findClass own = some m.cls)
    (w1 : (Cond.methodLink own index y).before a0 Z = true) (w2 : (Cond.declares y).before a0 Z = true) (w3 : (Cond.selects C y y).before a0 Z = true) (w4 : (Cond.instanceMethod y).before a0 Z = true) (w5 : (Cond.code y bytes maxL ret).before a0 Z = true) (w6 : (Cond.initialized y.cls).before a0 Z = true) (hy : y.cls ≠ "java/lang/invoke/MethodHandle" ∧ y.cls ≠ "java/lang/invoke/VarHandle")
    {as' : Array Value} {r : Option Value} {P : Heap → Prop} (hM : MetFree l y (head1 [Cond.code y bytes maxL ret] rm) (fun a U => a = as' ∧ Z.Warmed39 U.vm ∧ U.heap = h) (fun _ _ _ _ _ => True) (fun _ U o U' => ∃ v L, o = .returned v ∧ own_QE r n0 P v U'.heap L ∧ FrameEnd U o U' L rm.cells rm.slots)) (eT : T.heap = h) (N : Fr n0 locs) {b : Addr} (E : Exa Z h b C)
    {W : Nat} (hf : rm.frames + 1 ≤ R.frames) (hl : W + (maxL + 11) + rm.locals ≤ R.locals) (hcR : cells + rm.cells ≤ R.cells) (hsR : slots + rm.slots ≤ R.slots) {g : JFrame} (hg : g.method = m) (hsize : g.locals.size = c.maxLocals) {argsL rest : List Value} (hlen : ∀ sig, parseMethodDescriptor y.desc = some sig → argsL.length = sig.parameters.length) (has : (.ref b :: argsL).toArray = as') (hstack : g.stack = argsL.reverse ++ .ref b :: rest)
    (hW : 2 * g.monitorRoom + (rest.map fun v => v.category).sum ≤ W) (hdg : decode c.code g.pc = .ok (.invokevirtual index, 3)) :
    ∃ T' h' locs', Stand p l e R s m args below meth c T' locs' (cells + rm.cells) (slots + rm.slots) ∧ T'.heap = h' ∧ Fr n0 locs' ∧ P h' ∧ ∀ t, Steps p.tables e below (T'.setTop { g with pc := g.pc + 3, stack := r.toList ++ rest }) t → Steps p.tables e below (T.setTop g) t := by
  obtain ⟨cB, kB, q1, -, q3⟩ := isOf hZ eT E
  obtain ⟨_, _, ⟨T2, L2, k2, n2⟩, -, X2, ⟨Lc2, hQ2, l2, y2, z2⟩, st2⟩ := X.virtualBack hx (y := y) (z := y) hown (mvT hZ w1) (mvT hZ w2) (notFace_of_selects (args := #[]) (mvT hZ w3)) (mvT hZ w3) (mvT hZ w4) hy (backOf (W := W) hM hZ w5 w6 hf hl) q1 q3 hg hsize (Steps.refl _) hlen hstack hW hdg (fun _ _ => ⟨has, eT, hcR, hsR⟩)
  dsimp only [Pt.U, Pt.locs, Pt.cells, Pt.slots] at X2 l2 y2 z2 st2 hQ2
  subst l2 y2 z2
  obtain ⟨rfl, N2, P2⟩ := hQ2
  exact ⟨T2, _, _, X2, rfl, Fr.app N N2, P2, fun t k => st2.trans k⟩
theorem own_callSW (X : Stand p l e R s m args below meth c T locs cells slots) (hx : p.tables.exec = Jvm.exec) (hZ : Z.Warmed39 s.vm) {own : String} {index : Nat} {y : MethodName} {bytes : ByteArray} {maxL : Nat} {ret : Option FieldType} {rm : Room} (hown : s.vm.findClass own = some m.cls)
    (w1 : (Cond.methodLink own index y).before a0 Z = true) (w2 : (Cond.static y).before a0 Z = true) (w3 : (Cond.initialized y.cls).before a0 Z = true) (w4 : (Cond.code y bytes maxL ret).before a0 Z = true) (hy : y.cls ≠ "java/lang/invoke/MethodHandle" ∧ y.cls ≠ "java/lang/invoke/VarHandle")
    {as' : Array Value} {r : Option Value} {P : Heap → Prop} (hM : MetFree l y (head1 [Cond.code y bytes maxL ret] rm) (fun a U => a = as' ∧ Z.Warmed39 U.vm ∧ U.heap = h) (fun _ _ _ _ _ => True) (fun _ U o U' => ∃ v L, o = .returned v ∧ own_QE r n0 P v U'.heap L ∧ FrameEnd U o U' L rm.cells rm.slots)) (eT : T.heap = h) (N : Fr n0 locs)
    {W : Nat} (hf : rm.frames + 1 ≤ R.frames) (hl : W + (maxL + 11) + rm.locals ≤ R.locals) (hcR : cells + rm.cells ≤ R.cells) (hsR : slots + rm.slots ≤ R.slots) {g : JFrame} (hg : g.method = m) (hsize : g.locals.size = c.maxLocals) {argsL rest : List Value} (hlen : ∀ sig, parseMethodDescriptor y.desc = some sig → argsL.length = sig.parameters.length) (has : argsL.toArray = as') (hstack : g.stack = argsL.reverse ++ rest)
    (hW : 2 * g.monitorRoom + (rest.map fun v => v.category).sum ≤ W) (hdg : decode c.code g.pc = .ok (.invokestatic index, 3)) :
    ∃ T' h' locs', Stand p l e R s m args below meth c T' locs' (cells + rm.cells) (slots + rm.slots) ∧ T'.heap = h' ∧ Fr n0 locs' ∧ P h' ∧ ∀ t, Steps p.tables e below (T'.setTop { g with pc := g.pc + 3, stack := r.toList ++ rest }) t → Steps p.tables e below (T.setTop g) t := by
  obtain ⟨_, _, ⟨T2, L2, k2, n2⟩, -, X2, ⟨Lc2, hQ2, l2, y2, z2⟩, st2⟩ := Jvm.LawKit.callS X hx hown (mvT hZ w1) (mvT hZ w2) (mvT hZ w3) (mvT hZ w4) hy (backOf (W := W) hM hZ w4 w3 hf hl) hg hsize hlen hstack hW hdg (fun _ _ => ⟨has, eT, hcR, hsR⟩)
  dsimp only [Pt.U, Pt.locs, Pt.cells, Pt.slots] at X2 l2 y2 z2 st2 hQ2
  subst l2 y2 z2
  obtain ⟨rfl, N2, P2⟩ := hQ2
  exact ⟨T2, _, _, X2, rfl, Fr.app N N2, P2, st2⟩
end OwnO

theorem own_sta_keep0 {Z : State} {h h' : Heap} {C n d : String} {v : Value} (S : Sta Z h C n d v) (Kp : Keep h h' []) : Sta Z h' C n d v := by
  obtain ⟨cf, i, k, f, st, cell, h1, h2, h3, h4, h5, h6, h7⟩ := S
  exact ⟨cf, i, k, f, st, cell, h1, h2, h3, h4, Kp.2.1 st cell h5 (fun q => nomatch q), h6, h7⟩
theorem own_nar {v : Value} {c : String} (h : v.isRef = true) : narrow (.object c) v = v := by cases v <;> first | rfl | (simp [Value.isRef] at h)
theorem own_fit {v : Value} {c : String} (h : v.isRef = true) : fits (.object c) v = true := by cases v <;> first | rfl | (simp [Value.isRef] at h)
theorem own_sta_keep {Z : State} {h h' : Heap} {b : Addr} {C n d K : String} {v : Value} (S : Sta Z h C n d v) (E : Exa Z h b K) (Kp : Keep h h' [b]) : Sta Z h' C n d v := by
  obtain ⟨cf, i, k, f, st, cell, h1, h2, h3, h4, h5, h6, h7⟩ := S
  obtain ⟨c2, k2, g1, g2, g3, g4, g5⟩ := E
  have ne : st ≠ b := fun q => by
    subst q
    cases h5.symm.trans g1
    rw [h6] at g4
    cases g4
  exact ⟨cf, i, k, f, st, cell, h1, h2, h3, h4, Kp.2.1 st cell h5 (fun q => ne (List.mem_singleton.mp q)), h6, h7⟩
theorem own_A_keep {Z : State} {h h' : Heap} {a : Addr} {ty : FieldType} {n : Int32} {f : Int32 → Int32} {ws : List Addr} (A : own_A Z h a ty n f) (K : Keep h h' ws) (q : a ∉ ws) : own_A Z h' a ty n f := by
  obtain ⟨c, A1, A2⟩ := A
  exact ⟨c, ⟨K.2.1 a c A1.1 q, A1.2⟩, A2⟩

theorem own_m31 (x : Int32) : 0 ≤ (x &&& (2147483647 : Int32)).toInt := by
  have h : (x &&& (2147483647 : Int32)).toBitVec.msb = false := by
    rw [Int32.toBitVec_and, BitVec.msb_and, show (2147483647 : Int32).toBitVec.msb = false from rfl, Bool.and_false]
  rw [← Int32.toInt_toBitVec, BitVec.toInt_eq_msb_cond, h]
  simp
theorem own_rem_i {x y : Int32} (hx : 0 ≤ x.toInt) (hy : 0 < y.toInt) : (own_rem x y).toInt = x.toInt % y.toInt := by
  have lx := Int32.toInt_lt x
  have ly := Int32.toInt_lt y
  have e1 : (x / y).toInt = x.toInt / y.toInt := by
    rw [Int32.toInt_div, Int.tdiv_eq_ediv_of_nonneg hx]
    have a1 : 0 ≤ x.toInt / y.toInt := Int.ediv_nonneg hx (Int.le_of_lt hy)
    have a2 : x.toInt / y.toInt ≤ x.toInt := Int.ediv_le_self _ hx
    rw [Int.bmod_eq_of_le] <;> omega
  have b0 : 0 ≤ x.toInt / y.toInt := Int.ediv_nonneg hx (Int.le_of_lt hy)
  have b1 : x.toInt / y.toInt * y.toInt ≤ x.toInt := Int.ediv_mul_le _ (by omega)
  have b2 : 0 ≤ x.toInt / y.toInt * y.toInt := Int.mul_nonneg b0 (Int.le_of_lt hy)
  have e2 : (x / y * y).toInt = x.toInt / y.toInt * y.toInt := by
    rw [Int32.toInt_mul, e1, Int.bmod_eq_of_le] <;> omega
  have b3 : x.toInt % y.toInt = x.toInt - x.toInt / y.toInt * y.toInt := by
    have := Int.mul_ediv_add_emod x.toInt y.toInt
    rw [Int.mul_comm] at this
    omega
  rw [own_rem, Int32.toInt_sub, e2, Int.bmod_eq_of_le] <;> omega
theorem own_add_i {x y : Int32} (h1 : -2147483648 ≤ x.toInt + y.toInt) (h2 : x.toInt + y.toInt < 2147483648) : (x + y).toInt = x.toInt + y.toInt := by
  rw [Int32.toInt_add, Int.bmod_eq_of_le] <;> omega
theorem own_sub_i {x y : Int32} (h1 : -2147483648 ≤ x.toInt - y.toInt) (h2 : x.toInt - y.toInt < 2147483648) : (x - y).toInt = x.toInt - y.toInt := by
  rw [Int32.toInt_sub, Int.bmod_eq_of_le] <;> omega
theorem own_ne0 {y : Int32} (hy : 0 < y.toInt) : y ≠ 0 := fun h => by rw [h] at hy; exact absurd hy (by decide)
theorem own_mask (x m : Int32) (hm : 0 ≤ m.toInt) : 0 ≤ (x &&& m).toInt ∧ (x &&& m).toInt ≤ m.toInt := by
  have hm' : m.toBitVec.msb = false := by
    rw [← Int32.toInt_toBitVec] at hm
    exact BitVec.msb_eq_false_iff_two_mul_lt.mpr (by have := BitVec.toInt_eq_toNat_cond m.toBitVec; split at this <;> omega)
  have h1 : (x &&& m).toBitVec.msb = false := by rw [Int32.toBitVec_and, BitVec.msb_and, hm', Bool.and_false]
  have e1 : (x &&& m).toInt = ((x &&& m).toBitVec.toNat : Int) := by rw [← Int32.toInt_toBitVec, BitVec.toInt_eq_msb_cond, h1]; simp
  have e2 : m.toInt = (m.toBitVec.toNat : Int) := by rw [← Int32.toInt_toBitVec, BitVec.toInt_eq_msb_cond, hm']; simp
  have h2 : (x &&& m).toBitVec.toNat ≤ m.toBitVec.toNat := by rw [Int32.toBitVec_and, BitVec.toNat_and]; exact Nat.and_le_right
  omega
theorem own_lt {x y : Int32} : x < y ↔ x.toInt < y.toInt := Int32.lt_iff_toInt_lt
theorem own_inc {i n : Int32} (h : i < n) : (i + 1).toInt = i.toInt + 1 := by
  rw [own_lt] at h
  have a := Int32.toInt_lt n
  have b := Int32.le_toInt i
  have e : (1 : Int32).toInt = 1 := rfl
  rw [own_add_i (by omega) (by omega), e]
theorem own_of_i {x y : Int32} (h : x.toInt = y.toInt) : x = y := Int32.toInt_inj.mp h

theorem d2_0 : decode jdk_43_method_3_code 0 = .ok (.iload_n 0, 1) := by decide +kernel
theorem d2_1 : decode jdk_43_method_3_code 1 = .ok (.sipush 255, 3) := by decide +kernel
theorem d2_4 : decode jdk_43_method_3_code 4 = .ok (.if_icmp .gt 7, 3) := by decide +kernel
theorem d2_7 : decode jdk_43_method_3_code 7 = .ok (.iconst 1, 1) := by decide +kernel
theorem d2_8 : decode jdk_43_method_3_code 8 = .ok (.goto 4, 3) := by decide +kernel
theorem d2_11 : decode jdk_43_method_3_code 11 = .ok (.iconst 0, 1) := by decide +kernel
theorem d2_12 : decode jdk_43_method_3_code 12 = .ok (.ireturn, 1) := by decide +kernel
def own_v2_12 (q : Int32) (j12_S0 : Int32) : Int32 := (nar .boolean j12_S0)
def own_v2_0 (q : Int32) : Int32 := (if (255 : Int32) < q then (own_v2_12 q (0 : Int32)) else (own_v2_12 q (1 : Int32)))
theorem pn_2 : plainName "java/lang/StringLatin1" = true := by first | (simp [plainName, overriddenIn]; done) | decide +kernel
theorem ef_2 (m : MethodId) (q : Int32) : entryFrame m #[(.int q)] 1 = mkF m 0 #[.val (.int q)] [] := by first | (simp [entryFrame, mkF, argsToLocals, Value.category]; done) | rfl
set_option maxRecDepth 65536 in
set_option maxHeartbeats 40000000 in
theorem rm2 (l : Launch) (Z : State) (a0 : Array Value) (hw : ∀ d ∈ tables_1, d.before a0 Z = true) (ws : List Jvm.Cond) (q : Int32) (h0 : Heap)  :
    MetFree l (⟨"java/lang/StringLatin1", "canEncode", "(C)Z"⟩ : MethodName) (head1 (Jvm.Cond.code (⟨"java/lang/StringLatin1", "canEncode", "(C)Z"⟩ : MethodName) jdk_43_method_3_code 1 (some .boolean) :: ws) ({ frames := 0, cells := 0, slots := 0, locals := 0 } : Room)) (fun aa U => aa = #[(.int q)] ∧ Z.Warmed39 U.vm ∧ U.heap = h0) (fun _ _ _ _ _ => True) (fun _ U o U' => ∃ v L, o = .returned v ∧ own_Q (some (.int (own_v2_0 q))) h0 v U'.heap L ∧ FrameEnd U o U' L ({ frames := 0, cells := 0, slots := 0, locals := 0 } : Room).cells ({ frames := 0, cells := 0, slots := 0, locals := 0 } : Room).slots) := by
  refine MetFree.of_bodySF (plainFor_of_name pn_2) hisR ?_
  intro p e s m args below meth c s₁ Bd hml0 hP hK
  obtain ⟨rfl, hZ, hh⟩ := hP
  have hx := Bd.exec
  have hby := Bd.bytes
  have hml : c.maxLocals = 1 := hml0
  have hlk : meth.locks = false := Bd.notSynchronized
  have hown : s.vm.findClass "java/lang/StringLatin1" = some m.cls := findClass_of_methodNamed Bd.named
  have X0 : Stand p l e ({ frames := 0, cells := 0, slots := 0, locals := 0 } : Room) s m #[(.int q)] below meth c s₁ [] 0 0 := Stand.of_body Bd
  have e0 : s₁.heap = h0 := by rw [← hh, Bd.state]; rfl
  have b12 : ∀ (T : State), Stand p l e ({ frames := 0, cells := 0, slots := 0, locals := 0 } : Room) s m #[(.int q)] below meth c T [] 0 0 → T.heap = h0 → ∀ (j12_S0 : Int32), own_G p e below s (own_Q (some (.int (own_v2_12 q j12_S0))) h0) ({ frames := 0, cells := 0, slots := 0, locals := 0 } : Room).cells ({ frames := 0, cells := 0, slots := 0, locals := 0 } : Room).slots (T.setTop (mkF m 12 #[.val (.int q)] [(.int j12_S0)])) := by
    intro T X eT j12_S0
    show own_G p e below s (own_Q (some (.int (nar .boolean j12_S0))) h0) ({ frames := 0, cells := 0, slots := 0, locals := 0 } : Room).cells ({ frames := 0, cells := 0, slots := 0, locals := 0 } : Room).slots (T.setTop (mkF m 12 #[.val (.int q)] [(.int j12_S0)]))
    exact own_retN X hx hlk (t := .boolean) Bd.returns (by simp) (hb hby d2_12) (by decide) (by decide) ⟨rfl, rfl, eT⟩
  refine own_G0 (own_go (fun _ k => castTop (ef_2 m q) k) ?_)
  show own_G p e below s (own_Q (some (.int (if (255 : Int32) < q then (own_v2_12 q (0 : Int32)) else (own_v2_12 q (1 : Int32))))) h0) ({ frames := 0, cells := 0, slots := 0, locals := 0 } : Room).cells ({ frames := 0, cells := 0, slots := 0, locals := 0 } : Room).slots (s₁.setTop (mkF m 0 #[.val (.int q)] []))
  refine own_go (fun _ => XS.iloadN X0.here hx rfl (hb hby d2_0) rfl) ?_
  show own_G p e below s _ _ _ (s₁.setTop (mkF m 1 #[.val (.int q)] [(.int q)]))
  refine own_go (fun _ => XS.sipush X0.here hx rfl (hb hby d2_1)) ?_
  show own_G p e below s _ _ _ (s₁.setTop (mkF m 4 #[.val (.int q)] [(.int (255 : Int32)), (.int q)]))
  by_cases hc4 : (255 : Int32) < q
  · refine own_eq (if_pos hc4) ?_
    refine own_go (fun _ => XS.icmpYes X0.here hx rfl (pc0 := 4) (pc' := 11) rfl (hb hby d2_4) rfl (tlt hc4).2.2.1 (by decide) (by decide)) ?_
    show own_G p e below s _ _ _ (s₁.setTop (mkF m 11 #[.val (.int q)] []))
    refine own_go (fun _ => XS.iconst X0.here hx rfl (hb hby d2_11)) ?_
    exact b12 s₁ X0 e0 (0 : Int32)
  · refine own_eq (if_neg hc4) ?_
    refine own_go (fun _ => XS.icmpNo X0.here hx rfl (hb hby d2_4) rfl (flt hc4).2.2.1) ?_
    show own_G p e below s _ _ _ (s₁.setTop (mkF m 7 #[.val (.int q)] []))
    refine own_go (fun _ => XS.iconst X0.here hx rfl (hb hby d2_7)) ?_
    show own_G p e below s _ _ _ (s₁.setTop (mkF m 8 #[.val (.int q)] [(.int (1 : Int32))]))
    refine own_go (fun _ => XS.goto X0.here hx rfl (pc0 := 8) (pc' := 12) rfl (hb hby d2_8) (by decide) (by decide)) ?_
    exact b12 s₁ X0 e0 (1 : Int32)
theorem own_ce {q : Int32} (h : ¬ (255 : Int32) < q) : ¬ own_v2_0 q = 0 := by
  rw [own_v2_0, if_neg h]
  exact (show ¬ nar .boolean (1 : Int32) = 0 from by decide)
theorem d3_0 : decode jdk_43_method_46_code 0 = .ok (.iconst 1, 1) := by decide +kernel
theorem d3_1 : decode jdk_43_method_46_code 1 = .ok (.newarray .byte, 2) := by decide +kernel
theorem d3_3 : decode jdk_43_method_46_code 3 = .ok (.dup, 1) := by decide +kernel
theorem d3_4 : decode jdk_43_method_46_code 4 = .ok (.iconst 0, 1) := by decide +kernel
theorem d3_5 : decode jdk_43_method_46_code 5 = .ok (.iload_n 0, 1) := by decide +kernel
theorem d3_6 : decode jdk_43_method_46_code 6 = .ok (.i2b, 1) := by decide +kernel
theorem d3_7 : decode jdk_43_method_46_code 7 = .ok (.bastore, 1) := by decide +kernel
theorem d3_8 : decode jdk_43_method_46_code 8 = .ok (.areturn, 1) := by decide +kernel
theorem pn_3 : plainName "java/lang/StringLatin1" = true := by first | (simp [plainName, overriddenIn]; done) | decide +kernel
theorem ef_3 (m : MethodId) (q : Int32) : entryFrame m #[(.int q)] 1 = mkF m 0 #[.val (.int q)] [] := by first | (simp [entryFrame, mkF, argsToLocals, Value.category]; done) | rfl
set_option maxRecDepth 65536 in
set_option maxHeartbeats 40000000 in
theorem rm3 (l : Launch) (Z : State) (a0 : Array Value) (hw : ∀ d ∈ tables_1, d.before a0 Z = true) (ws : List Jvm.Cond) (q : Int32) (h0 : Heap) (n0 : Nat) (Z0 : n0 ≤ h0.size) :
    MetFree l (⟨"java/lang/StringLatin1", "toBytes", "(C)[B"⟩ : MethodName) (head1 (Jvm.Cond.code (⟨"java/lang/StringLatin1", "toBytes", "(C)[B"⟩ : MethodName) jdk_43_method_46_code 1 (some (.array .byte)) :: ws) ({ frames := 0, cells := 1, slots := 1, locals := 0 } : Room)) (fun aa U => aa = #[(.int q)] ∧ Z.Warmed39 U.vm ∧ U.heap = h0) (fun _ _ _ _ _ => True) (fun _ U o U' => ∃ v L, o = .returned v ∧ own_QE (some (.ref h0.size)) n0 (fun h => Keep h0 h []) v U'.heap L ∧ FrameEnd U o U' L ({ frames := 0, cells := 1, slots := 1, locals := 0 } : Room).cells ({ frames := 0, cells := 1, slots := 1, locals := 0 } : Room).slots) := by
  refine MetFree.of_bodySF (plainFor_of_name pn_3) hisR ?_
  intro p e s m args below meth c s₁ Bd hml0 hP hK
  obtain ⟨rfl, hZ, hh⟩ := hP
  have hx := Bd.exec
  have hby := Bd.bytes
  have hml : c.maxLocals = 1 := hml0
  have hlk : meth.locks = false := Bd.notSynchronized
  have hown : s.vm.findClass "java/lang/StringLatin1" = some m.cls := findClass_of_methodNamed Bd.named
  have X0 : Stand p l e ({ frames := 0, cells := 1, slots := 1, locals := 0 } : Room) s m #[(.int q)] below meth c s₁ [] 0 0 := Stand.of_body Bd
  have e0 : s₁.heap = h0 := by rw [← hh, Bd.state]; rfl
  refine own_G0 (own_go (fun _ k => castTop (ef_3 m q) k) ?_)
  show own_G p e below s _ _ _ (s₁.setTop (mkF m 0 #[.val (.int q)] []))
  refine own_go (fun _ => XS.iconst X0.here hx rfl (hb hby d3_0)) ?_
  show own_G p e below s _ _ _ (s₁.setTop (mkF m 1 #[.val (.int q)] [(.int (1 : Int32))]))
  obtain ⟨T1, h1, a1, X1, e1, E1, ga1, g1, A1, st1⟩ := own_new X0 hx hZ (hw _ (List.mem_of_getElem? (i := 17) rfl)) e0 Z0 rfl (g := (mkF m 1 #[.val (.int q)] [(.int (1 : Int32))])) rfl (hb hby d3_1) rfl (by decide) (cap := 1) (by decide) (by decide) (by decide) (by decide)
  have sz2 := Nat.le_trans (Keep.refl h0 []).1 (Nat.le_of_eq ga1.symm)
  have Ke3 := (Keep.refl h0 []).ext E1
  have sz4 := Nat.le_trans Z0 E1.1
  refine own_go (fun _ => st1 _) ?_
  show own_G p e below s _ _ _ (T1.setTop (mkF m 3 #[.val (.int q)] [(.ref a1)]))
  refine own_go (fun _ => XS.dup X1.here hx rfl (hb hby d3_3) rfl rfl) ?_
  show own_G p e below s _ _ _ (T1.setTop (mkF m 4 #[.val (.int q)] [(.ref a1), (.ref a1)]))
  refine own_go (fun _ => XS.iconst X1.here hx rfl (hb hby d3_4)) ?_
  show own_G p e below s _ _ _ (T1.setTop (mkF m 5 #[.val (.int q)] [(.int (0 : Int32)), (.ref a1), (.ref a1)]))
  refine own_go (fun _ => XS.iloadN X1.here hx rfl (hb hby d3_5) rfl) ?_
  show own_G p e below s _ _ _ (T1.setTop (mkF m 6 #[.val (.int q)] [(.int q), (.int (0 : Int32)), (.ref a1), (.ref a1)]))
  refine own_go (fun _ => XS.i2b X1.here hx rfl (hb hby d3_6) rfl) ?_
  show own_G p e below s _ _ _ (T1.setTop (mkF m 7 #[.val (.int q)] [(.int q.toInt8.toInt32), (.int (0 : Int32)), (.ref a1), (.ref a1)]))
  obtain ⟨T5, h5, L5, X5, e5, N5, A5, W5, st5⟩ := own_stB X1 hx hZ e1 A1 (Fr.nil n0) g1 (by decide) (by decide) (g := (mkF m 7 #[.val (.int q)] [(.int q.toInt8.toInt32), (.int (0 : Int32)), (.ref a1), (.ref a1)])) rfl rfl (hb hby d3_7)
  have sz6 := Nat.le_trans sz4 (Nat.le_of_eq (Wr.size W5).symm)
  have Kw7 := Ke3.wr W5 (Or.inr sz2)
  refine own_go (fun _ => st5 _) ?_
  show own_G p e below s _ _ _ (T5.setTop (mkF m 8 #[.val (.int q)] [(.ref a1)]))
  rw [ga1]
  exact own_retA X5 hx hlk rfl Bd.returns rfl (hb hby d3_8) (by decide) (by decide) ⟨rfl, N5, by rw [e5]; exact Kw7⟩
theorem d4_0 : decode jdk_42_method_151_code 0 = .ok (.aload_n 0, 1) := by decide +kernel
theorem d4_1 : decode jdk_42_method_151_code 1 = .ok (.invokespecial 1, 3) := by decide +kernel
theorem d4_4 : decode jdk_42_method_151_code 4 = .ok (.aload_n 0, 1) := by decide +kernel
theorem d4_5 : decode jdk_42_method_151_code 5 = .ok (.aload_n 1, 1) := by decide +kernel
theorem d4_6 : decode jdk_42_method_151_code 6 = .ok (.putfield 9, 3) := by decide +kernel
theorem d4_9 : decode jdk_42_method_151_code 9 = .ok (.aload_n 0, 1) := by decide +kernel
theorem d4_10 : decode jdk_42_method_151_code 10 = .ok (.iload_n 2, 1) := by decide +kernel
theorem d4_11 : decode jdk_42_method_151_code 11 = .ok (.putfield 15, 3) := by decide +kernel
theorem d4_14 : decode jdk_42_method_151_code 14 = .ok (.return_, 1) := by decide +kernel
theorem pn_4 : plainName "java/lang/String" = true := by first | (simp [plainName, overriddenIn]; done) | decide +kernel
theorem ef_4 (m : MethodId) (a : Addr) (ab : Addr) (q : Int32) : entryFrame m #[(.ref a), (.ref ab), (.int q)] 3 = mkF m 0 #[.val (.ref a), .val (.ref ab), .val (.int q)] [] := by first | (simp [entryFrame, mkF, argsToLocals, Value.category]; done) | rfl
set_option maxRecDepth 65536 in
set_option maxHeartbeats 40000000 in
theorem rm4 (l : Launch) (Z : State) (a0 : Array Value) (hw : ∀ d ∈ tables_1, d.before a0 Z = true) (ws : List Jvm.Cond) (a : Addr) (ab : Addr) (q : Int32) (h0 : Heap) (n0 : Nat) (Z0 : n0 ≤ h0.size) (ga : n0 ≤ a) (E : Exa Z h0 a "java/lang/String") {u_value : Value} (F_value : Fld Z h0 a "java/lang/String" "value" "[B" u_value) {u_coder : Value} (F_coder : Fld Z h0 a "java/lang/String" "coder" "B" u_coder)  :
    MetFree l (⟨"java/lang/String", "<init>", "([BB)V"⟩ : MethodName) (head1 (Jvm.Cond.code (⟨"java/lang/String", "<init>", "([BB)V"⟩ : MethodName) jdk_42_method_151_code 3 none :: ws) ({ frames := 1, cells := 0, slots := 0, locals := 12 } : Room)) (fun aa U => aa = #[(.ref a), (.ref ab), (.int q)] ∧ Z.Warmed39 U.vm ∧ U.heap = h0) (fun _ _ _ _ _ => True) (fun _ U o U' => ∃ v L, o = .returned v ∧ own_QE none n0 (fun h => Keep h0 h [a] ∧ Exa Z h a "java/lang/String" ∧ Fld Z h a "java/lang/String" "value" "[B" (.ref ab) ∧ Fld Z h a "java/lang/String" "coder" "B" (.int (nar .byte q))) v U'.heap L ∧ FrameEnd U o U' L ({ frames := 1, cells := 0, slots := 0, locals := 12 } : Room).cells ({ frames := 1, cells := 0, slots := 0, locals := 12 } : Room).slots) := by
  refine MetFree.of_bodySF (plainFor_of_name pn_4) hisR ?_
  intro p e s m args below meth c s₁ Bd hml0 hP hK
  obtain ⟨rfl, hZ, hh⟩ := hP
  have hx := Bd.exec
  have hby := Bd.bytes
  have hml : c.maxLocals = 3 := hml0
  have hlk : meth.locks = false := Bd.notSynchronized
  have hown : s.vm.findClass "java/lang/String" = some m.cls := findClass_of_methodNamed Bd.named
  have X0 : Stand p l e ({ frames := 1, cells := 0, slots := 0, locals := 12 } : Room) s m #[(.ref a), (.ref ab), (.int q)] below meth c s₁ [] 0 0 := Stand.of_body Bd
  have e0 : s₁.heap = h0 := by rw [← hh, Bd.state]; rfl
  have hnm := (name_of_methodNamed Bd.named Bd.method).1
  refine own_G0 (own_go (fun _ k => castTop (ef_4 m a ab q) k) ?_)
  show own_G p e below s _ _ _ (s₁.setTop (mkF m 0 #[.val (.ref a), .val (.ref ab), .val (.int q)] []))
  refine own_go (fun _ => XS.aloadN X0.here hx rfl (hb hby d4_0) rfl rfl) ?_
  show own_G p e below s _ _ _ (s₁.setTop (mkF m 1 #[.val (.ref a), .val (.ref ab), .val (.int q)] [(.ref a)]))
  obtain ⟨T1, X1, e1, st1⟩ := initO X0 hx hZ hown (hw _ (List.mem_of_getElem? (i := 22) rfl)) (hw _ (List.mem_of_getElem? (i := 23) rfl)) (hw _ (List.mem_of_getElem? (i := 24) rfl)) e0 (g := (mkF m 1 #[.val (.ref a), .val (.ref ab), .val (.int q)] [(.ref a)])) rfl (by rw [hml]; rfl) rfl (hb hby d4_1) (by decide) (W := 0) (by show 2 * 0 + _ ≤ _; exact Nat.le_of_eq rfl) (by decide)
  refine own_go (fun _ => st1 _) ?_
  show own_G p e below s _ _ _ (T1.setTop (mkF m 4 #[.val (.ref a), .val (.ref ab), .val (.int q)] []))
  refine own_go (fun _ => XS.aloadN X1.here hx rfl (hb hby d4_4) rfl rfl) ?_
  show own_G p e below s _ _ _ (T1.setTop (mkF m 5 #[.val (.ref a), .val (.ref ab), .val (.int q)] [(.ref a)]))
  refine own_go (fun _ => XS.aloadN X1.here hx rfl (hb hby d4_5) rfl rfl) ?_
  show own_G p e below s _ _ _ (T1.setTop (mkF m 6 #[.val (.ref a), .val (.ref ab), .val (.int q)] [(.ref ab), (.ref a)]))
  obtain ⟨T2, h2, X2, e2, W2, st2⟩ := putF X1 hx hZ hown (host := "") (Or.inl (hw _ (List.mem_of_getElem? (i := 25) rfl))) Via.refl e1 F_value E (Or.inr ⟨(hw _ (List.mem_of_getElem? (i := 26) rfl)), rfl, hnm⟩) (hw _ (List.mem_of_getElem? (i := 13) rfl)) (ty := (.array .byte)) (by decide) rfl rfl (g := (mkF m 6 #[.val (.ref a), .val (.ref ab), .val (.int q)] [(.ref ab), (.ref a)])) rfl rfl (hb hby d4_6)
  have N2 := Fr.snoc X2 (Fr.nil n0) ga
  have Ew3 := E.wr W2
  have Fw4 := F_value.same W2
  have Fw5 := F_coder.other W2 (Or.inr (slot_ne (Or.inr (hw _ (List.mem_of_getElem? (i := 28) rfl))) (Or.inr (hw _ (List.mem_of_getElem? (i := 26) rfl))) (by decide) (t := .byte) (t' := (.array .byte)) (by decide) (by decide)))
  have Kw6 := (Keep.refl h0 [a]).wr W2 (Or.inl (List.mem_of_getElem? (i := 0) rfl))
  refine own_go (fun _ => st2 _) ?_
  show own_G p e below s _ _ _ (T2.setTop (mkF m 9 #[.val (.ref a), .val (.ref ab), .val (.int q)] []))
  refine own_go (fun _ => XS.aloadN X2.here hx rfl (hb hby d4_9) rfl rfl) ?_
  show own_G p e below s _ _ _ (T2.setTop (mkF m 10 #[.val (.ref a), .val (.ref ab), .val (.int q)] [(.ref a)]))
  refine own_go (fun _ => XS.iloadN X2.here hx rfl (hb hby d4_10) rfl) ?_
  show own_G p e below s _ _ _ (T2.setTop (mkF m 11 #[.val (.ref a), .val (.ref ab), .val (.int q)] [(.int q), (.ref a)]))
  obtain ⟨T7, h7, X7, e7, W7, st7⟩ := putFN X2 hx hZ hown (hw _ (List.mem_of_getElem? (i := 27) rfl)) Via.refl e2 Fw5 Ew3 (Or.inr ⟨(hw _ (List.mem_of_getElem? (i := 28) rfl)), rfl, hnm⟩) (hw _ (List.mem_of_getElem? (i := 13) rfl)) (ty := .byte) (v' := (.int (nar .byte q))) (by decide) rfl (fits_nar_byte _) (g := (mkF m 11 #[.val (.ref a), .val (.ref ab), .val (.int q)] [(.int q), (.ref a)])) rfl rfl (hb hby d4_11)
  have N7 := Fr.snoc X7 N2 ga
  have Ew8 := Ew3.wr W7
  have Fw9 := Fw4.other W7 (Or.inr (slot_ne (Or.inr (hw _ (List.mem_of_getElem? (i := 26) rfl))) (Or.inr (hw _ (List.mem_of_getElem? (i := 28) rfl))) (by decide) (t := (.array .byte)) (t' := .byte) (by decide) (by decide)))
  have Fw10 := Fw5.same W7
  have Kw11 := Kw6.wr W7 (Or.inl (List.mem_of_getElem? (i := 0) rfl))
  refine own_go (fun _ => st7 _) ?_
  show own_G p e below s _ _ _ (T7.setTop (mkF m 14 #[.val (.ref a), .val (.ref ab), .val (.int q)] []))
  exact own_retV X7 hx hlk Bd.returns (hb hby d4_14) (by decide) (by decide) ⟨rfl, N7, by rw [e7]; exact ⟨Kw11, Ew8, Fw9, Fw10⟩⟩
theorem d1_0 : decode jdk_42_method_139_code 0 = .ok (.getstatic 38, 3) := by decide +kernel
theorem d1_3 : decode jdk_42_method_139_code 3 = .ok (.ifCond .eq 23, 3) := by decide +kernel
theorem d1_6 : decode jdk_42_method_139_code 6 = .ok (.iload_n 0, 1) := by decide +kernel
theorem d1_7 : decode jdk_42_method_139_code 7 = .ok (.invokestatic 1015, 3) := by decide +kernel
theorem d1_10 : decode jdk_42_method_139_code 10 = .ok (.ifCond .eq 16, 3) := by decide +kernel
theorem d1_13 : decode jdk_42_method_139_code 13 = .ok (.new 10, 3) := by decide +kernel
theorem d1_16 : decode jdk_42_method_139_code 16 = .ok (.dup, 1) := by decide +kernel
theorem d1_17 : decode jdk_42_method_139_code 17 = .ok (.iload_n 0, 1) := by decide +kernel
theorem d1_18 : decode jdk_42_method_139_code 18 = .ok (.invokestatic 1018, 3) := by decide +kernel
theorem d1_21 : decode jdk_42_method_139_code 21 = .ok (.iconst 0, 1) := by decide +kernel
theorem d1_22 : decode jdk_42_method_139_code 22 = .ok (.invokespecial 209, 3) := by decide +kernel
theorem d1_25 : decode jdk_42_method_139_code 25 = .ok (.areturn, 1) := by decide +kernel
theorem d1_26 : decode jdk_42_method_139_code 26 = .ok (.new 10, 3) := by decide +kernel
theorem d1_29 : decode jdk_42_method_139_code 29 = .ok (.dup, 1) := by decide +kernel
theorem d1_30 : decode jdk_42_method_139_code 30 = .ok (.iload_n 0, 1) := by decide +kernel
theorem d1_31 : decode jdk_42_method_139_code 31 = .ok (.invokestatic 1021, 3) := by decide +kernel
theorem d1_34 : decode jdk_42_method_139_code 34 = .ok (.iconst 1, 1) := by decide +kernel
theorem d1_35 : decode jdk_42_method_139_code 35 = .ok (.invokespecial 209, 3) := by decide +kernel
theorem d1_38 : decode jdk_42_method_139_code 38 = .ok (.areturn, 1) := by decide +kernel
theorem pn_1 : plainName "java/lang/String" = true := by first | (simp [plainName, overriddenIn]; done) | decide +kernel
theorem ef_1 (m : MethodId) (q : Int32) : entryFrame m #[(.int q)] 1 = mkF m 0 #[.val (.int q)] [] := by first | (simp [entryFrame, mkF, argsToLocals, Value.category]; done) | rfl
set_option maxRecDepth 65536 in
set_option maxHeartbeats 40000000 in
theorem rm1 (l : Launch) (Z : State) (a0 : Array Value) (hw : ∀ d ∈ tables_1, d.before a0 Z = true) (ws : List Jvm.Cond) (q : Int32) (h0 : Heap) (n0 : Nat) (Z0 : n0 ≤ h0.size) (hq : ¬ (255 : Int32) < q) (cs : Int32) (hcs : ¬ cs = 0) (S0 : Sta Z h0 "java/lang/String" "COMPACT_STRINGS" "Z" (.int cs)) :
    MetFree l (⟨"java/lang/String", "valueOf", "(C)Ljava/lang/String;"⟩ : MethodName) (head1 (Jvm.Cond.code (⟨"java/lang/String", "valueOf", "(C)Ljava/lang/String;"⟩ : MethodName) jdk_42_method_139_code 1 (some (.object "java/lang/String")) :: ws) ({ frames := 2, cells := 2, slots := 5, locals := 27 } : Room)) (fun aa U => aa = #[(.int q)] ∧ Z.Warmed39 U.vm ∧ U.heap = h0) (fun _ _ _ _ _ => True) (fun _ U o U' => ∃ v L, o = .returned v ∧ own_QE (some (.ref h0.size)) n0 (fun h => Keep h0 h []) v U'.heap L ∧ FrameEnd U o U' L ({ frames := 2, cells := 2, slots := 5, locals := 27 } : Room).cells ({ frames := 2, cells := 2, slots := 5, locals := 27 } : Room).slots) := by
  refine MetFree.of_bodySF (plainFor_of_name pn_1) hisR ?_
  intro p e s m args below meth c s₁ Bd hml0 hP hK
  obtain ⟨rfl, hZ, hh⟩ := hP
  have hx := Bd.exec
  have hby := Bd.bytes
  have hml : c.maxLocals = 1 := hml0
  have hlk : meth.locks = false := Bd.notSynchronized
  have hown : s.vm.findClass "java/lang/String" = some m.cls := findClass_of_methodNamed Bd.named
  have X0 : Stand p l e ({ frames := 2, cells := 2, slots := 5, locals := 27 } : Room) s m #[(.int q)] below meth c s₁ [] 0 0 := Stand.of_body Bd
  have e0 : s₁.heap = h0 := by rw [← hh, Bd.state]; rfl
  refine own_G0 (own_go (fun _ k => castTop (ef_1 m q) k) ?_)
  show own_G p e below s _ _ _ (s₁.setTop (mkF m 0 #[.val (.int q)] []))
  obtain ⟨T1, X1, e1, st1⟩ := getS2 X0 hx hZ hown (host := "") (Or.inl (hw _ (List.mem_of_getElem? (i := 7) rfl))) Via.refl e0 S0 (g := (mkF m 0 #[.val (.int q)] [])) rfl (hb hby d1_0)
  refine own_go (fun _ => st1 _) ?_
  show own_G p e below s _ _ _ (T1.setTop (mkF m 3 #[.val (.int q)] [(.int cs)]))
  refine own_go (fun _ => XS.ifNo X1.here hx rfl (hb hby d1_3) rfl ((if0 _ _).trans (feq hcs).1)) ?_
  show own_G p e below s _ _ _ (T1.setTop (mkF m 6 #[.val (.int q)] []))
  refine own_go (fun _ => XS.iloadN X1.here hx rfl (hb hby d1_6) rfl) ?_
  show own_G p e below s _ _ _ (T1.setTop (mkF m 7 #[.val (.int q)] [(.int q)]))
  obtain ⟨T2, X2, e2, st2⟩ := own_call X1 hx hZ hown (hw _ (List.mem_of_getElem? (i := 8) rfl)) (hw _ (List.mem_of_getElem? (i := 9) rfl)) (hw _ (List.mem_of_getElem? (i := 10) rfl)) (hw _ (List.mem_of_getElem? (i := 11) rfl)) (by decide) (rm2 l Z a0 hw [] q h0) rfl rfl e1 (W := 0) (by decide) (by decide) (by decide) (by decide) (g := (mkF m 7 #[.val (.int q)] [(.int q)])) rfl (by rw [hml]; rfl) (argsL := [(.int q)]) (rest := []) (lenOf (by decide +kernel : parseMethodDescriptor "(C)Z" = some ⟨[.char], some .boolean⟩) rfl) rfl rfl (by show 2 * 0 + _ ≤ _; exact Nat.le_of_eq rfl) (hb hby d1_7)
  refine own_go (fun _ => st2 _) ?_
  show own_G p e below s _ _ _ (T2.setTop (mkF m 10 #[.val (.int q)] [(.int (own_v2_0 q))]))
  refine own_go (fun _ => XS.ifNo X2.here hx rfl (hb hby d1_10) rfl ((if0 _ _).trans (feq (own_ce hq)).1)) ?_
  show own_G p e below s _ _ _ (T2.setTop (mkF m 13 #[.val (.int q)] []))
  obtain ⟨T3, h3, b3, X3, e3, E3, ga3, g3, z3, A3, D3, st3⟩ := own_newO X2 hx hZ hown (hw _ (List.mem_of_getElem? (i := 12) rfl)) (hw _ (List.mem_of_getElem? (i := 13) rfl)) (hw _ (List.mem_of_getElem? (i := 5) rfl)) e2 Z0 (g := (mkF m 13 #[.val (.int q)] [])) rfl (hb hby d1_13) (by decide) (by decide)
  have sz4 := Nat.le_trans (Keep.refl h0 []).1 (Nat.le_of_eq ga3.symm)
  have Ke5 := (Keep.refl h0 []).ext E3
  have Se6 := S0.ext E3
  have Fd7 : Fld Z h3 b3 "java/lang/String" "value" "[B" .null := D3 (Or.inr (hw _ (List.mem_of_getElem? (i := 26) rfl))) (ty := (.array .byte)) (by decide)
  have Fd8 : Fld Z h3 b3 "java/lang/String" "coder" "B" (.int (0 : Int32)) := D3 (Or.inr (hw _ (List.mem_of_getElem? (i := 28) rfl))) (ty := .byte) (by decide)
  refine own_go (fun _ => st3 _) ?_
  show own_G p e below s _ _ _ (T3.setTop (mkF m 16 #[.val (.int q)] [(.ref b3)]))
  refine own_go (fun _ => XS.dup X3.here hx rfl (hb hby d1_16) rfl rfl) ?_
  show own_G p e below s _ _ _ (T3.setTop (mkF m 17 #[.val (.int q)] [(.ref b3), (.ref b3)]))
  refine own_go (fun _ => XS.iloadN X3.here hx rfl (hb hby d1_17) rfl) ?_
  show own_G p e below s _ _ _ (T3.setTop (mkF m 18 #[.val (.int q)] [(.int q), (.ref b3), (.ref b3)]))
  obtain ⟨T9, h9, L9, X9, e9, N9, P9, st9⟩ := own_callSW X3 hx hZ hown (hw _ (List.mem_of_getElem? (i := 14) rfl)) (hw _ (List.mem_of_getElem? (i := 15) rfl)) (hw _ (List.mem_of_getElem? (i := 10) rfl)) (hw _ (List.mem_of_getElem? (i := 16) rfl)) (by decide) (rm3 l Z a0 hw [] q h3 n0 z3) e3 (Fr.nil n0) (W := 2) (by decide) (by decide) (by decide) (by decide) (g := (mkF m 18 #[.val (.int q)] [(.int q), (.ref b3), (.ref b3)])) rfl (by rw [hml]; rfl) (argsL := [(.int q)]) (rest := [(.ref b3), (.ref b3)]) (lenOf (by decide +kernel : parseMethodDescriptor "(C)[B" = some ⟨[.char], some (.array .byte)⟩) rfl) rfl rfl (by show 2 * 0 + _ ≤ _; exact Nat.le_of_eq rfl) (hb hby d1_18)
  obtain ⟨ab10, gab10⟩ : ∃ z, z = h3.size := ⟨_, rfl⟩
  rw [← gab10] at st9
  have Sk11 := own_sta_keep0 Se6 P9
  have Kk12 := Ke5.trans P9 (fun x hx => nomatch hx)
  have Ek13 := A3.keep P9
  have Fk14 := Fd7.keep P9 (fun q => nomatch q)
  have Fk15 := Fd8.keep P9 (fun q => nomatch q)
  have zk16 := Nat.le_trans z3 P9.1
  refine own_go (fun _ => st9 _) ?_
  show own_G p e below s _ _ _ (T9.setTop (mkF m 21 #[.val (.int q)] [(.ref ab10), (.ref b3), (.ref b3)]))
  refine own_go (fun _ => XS.iconst X9.here hx rfl (hb hby d1_21)) ?_
  show own_G p e below s _ _ _ (T9.setTop (mkF m 22 #[.val (.int q)] [(.int (0 : Int32)), (.ref ab10), (.ref b3), (.ref b3)]))
  obtain ⟨T17, h17, L17, X17, e17, N17, P17, st17⟩ := own_callI X9 hx hZ rfl hown (hw _ (List.mem_of_getElem? (i := 18) rfl)) (hw _ (List.mem_of_getElem? (i := 19) rfl)) (hw _ (List.mem_of_getElem? (i := 21) rfl)) (hw _ (List.mem_of_getElem? (i := 5) rfl)) (by decide) (rm4 l Z a0 hw [] b3 ab10 (0 : Int32) h9 n0 zk16 g3 Ek13 Fk14 Fk15) e9 N9 (W := 1) (by decide) (by decide) (by decide) (by decide) (g := (mkF m 22 #[.val (.int q)] [(.int (0 : Int32)), (.ref ab10), (.ref b3), (.ref b3)])) rfl (by rw [hml]; rfl) (argsL := [(.ref ab10), (.int (0 : Int32))]) (rest := [(.ref b3)]) (lenOf (by decide +kernel : parseMethodDescriptor "([BB)V" = some ⟨[(.array .byte), .byte], none⟩) rfl) rfl rfl (by show 2 * 0 + _ ≤ _; exact Nat.le_of_eq rfl) (hb hby d1_22)
  obtain ⟨K17, Ec17, Fc17_0, Fc17_1⟩ := P17
  have Sk18 := own_sta_keep Sk11 Ek13 K17
  have Kk19 := Kk12.trans K17 (fun x hx => by cases List.mem_singleton.mp hx; exact Or.inr sz4)
  have Ek20 := Ek13.keep K17
  have zk21 := Nat.le_trans zk16 K17.1
  refine own_go (fun _ => st17 _) ?_
  show own_G p e below s _ _ _ (T17.setTop (mkF m 25 #[.val (.int q)] [(.ref b3)]))
  rw [ga3]
  exact own_retA X17 hx hlk rfl Bd.returns rfl (hb hby d1_25) (by decide) (by decide) ⟨rfl, N17, by rw [e17]; exact Kk19⟩
theorem d7_0 : decode jdk_30_method_1_code 0 = .ok (.aload_n 0, 1) := by decide +kernel
theorem d7_1 : decode jdk_30_method_1_code 1 = .ok (.invokespecial 1, 3) := by decide +kernel
theorem d7_4 : decode jdk_30_method_1_code 4 = .ok (.return_, 1) := by decide +kernel
theorem pn_7 : plainName "java/lang/Record" = true := by first | (simp [plainName, overriddenIn]; done) | decide +kernel
theorem ef_7 (m : MethodId) (a : Addr) : entryFrame m #[(.ref a)] 1 = mkF m 0 #[.val (.ref a)] [] := by first | (simp [entryFrame, mkF, argsToLocals, Value.category]; done) | rfl
set_option maxRecDepth 65536 in
set_option maxHeartbeats 40000000 in
theorem rm7 (l : Launch) (Z : State) (a0 : Array Value) (hw : ∀ d ∈ tables_1, d.before a0 Z = true) (ws : List Jvm.Cond) (a : Addr) (h0 : Heap) (n0 : Nat) :
    MetFree l (⟨"java/lang/Record", "<init>", "()V"⟩ : MethodName) (head1 (Jvm.Cond.code (⟨"java/lang/Record", "<init>", "()V"⟩ : MethodName) jdk_30_method_1_code 1 none :: ws) ({ frames := 1, cells := 0, slots := 0, locals := 12 } : Room)) (fun aa U => aa = #[(.ref a)] ∧ Z.Warmed39 U.vm ∧ U.heap = h0) (fun _ _ _ _ _ => True) (fun _ U o U' => ∃ v L, o = .returned v ∧ own_QE none n0 (fun h => h = h0) v U'.heap L ∧ FrameEnd U o U' L ({ frames := 1, cells := 0, slots := 0, locals := 12 } : Room).cells ({ frames := 1, cells := 0, slots := 0, locals := 12 } : Room).slots) := by
  refine MetFree.of_bodySF (plainFor_of_name pn_7) hisR ?_
  intro p e s m args below meth c s₁ Bd hml0 hP hK
  obtain ⟨rfl, hZ, hh⟩ := hP
  have hx := Bd.exec
  have hby := Bd.bytes
  have hml : c.maxLocals = 1 := hml0
  have hlk : meth.locks = false := Bd.notSynchronized
  have hown : s.vm.findClass "java/lang/Record" = some m.cls := findClass_of_methodNamed Bd.named
  have X0 : Stand p l e ({ frames := 1, cells := 0, slots := 0, locals := 12 } : Room) s m #[(.ref a)] below meth c s₁ [] 0 0 := Stand.of_body Bd
  have e0 : s₁.heap = h0 := by rw [← hh, Bd.state]; rfl
  refine own_G0 (own_go (fun _ k => castTop (ef_7 m a) k) ?_)
  show own_G p e below s _ _ _ (s₁.setTop (mkF m 0 #[.val (.ref a)] []))
  refine own_go (fun _ => XS.aloadN X0.here hx rfl (hb hby d7_0) rfl rfl) ?_
  show own_G p e below s _ _ _ (s₁.setTop (mkF m 1 #[.val (.ref a)] [(.ref a)]))
  obtain ⟨T1, X1, e1, st1⟩ := initO X0 hx hZ hown (hw _ (List.mem_of_getElem? (i := 37) rfl)) (hw _ (List.mem_of_getElem? (i := 23) rfl)) (hw _ (List.mem_of_getElem? (i := 24) rfl)) e0 (g := (mkF m 1 #[.val (.ref a)] [(.ref a)])) rfl (by rw [hml]; rfl) rfl (hb hby d7_1) (by decide) (W := 0) (by show 2 * 0 + _ ≤ _; exact Nat.le_of_eq rfl) (by decide)
  refine own_go (fun _ => st1 _) ?_
  show own_G p e below s _ _ _ (T1.setTop (mkF m 4 #[.val (.ref a)] []))
  exact own_retV X1 hx hlk Bd.returns (hb hby d7_4) (by decide) (by decide) ⟨rfl, Fr.nil n0, e1⟩
theorem d6_0 : decode prog_152_method_1_code 0 = .ok (.aload_n 0, 1) := by decide +kernel
theorem d6_1 : decode prog_152_method_1_code 1 = .ok (.invokespecial 1, 3) := by decide +kernel
theorem d6_4 : decode prog_152_method_1_code 4 = .ok (.aload_n 0, 1) := by decide +kernel
theorem d6_5 : decode prog_152_method_1_code 5 = .ok (.aload_n 1, 1) := by decide +kernel
theorem d6_6 : decode prog_152_method_1_code 6 = .ok (.putfield 7, 3) := by decide +kernel
theorem d6_9 : decode prog_152_method_1_code 9 = .ok (.aload_n 0, 1) := by decide +kernel
theorem d6_10 : decode prog_152_method_1_code 10 = .ok (.lload_n 2, 1) := by decide +kernel
theorem d6_11 : decode prog_152_method_1_code 11 = .ok (.putfield 13, 3) := by decide +kernel
theorem d6_14 : decode prog_152_method_1_code 14 = .ok (.return_, 1) := by decide +kernel
theorem pn_6 : plainName "org/ripplelog/event/BinlogPosition" = true := by first | (simp [plainName, overriddenIn]; done) | decide +kernel
theorem ef_6 (m : MethodId) (a : Addr) (sb : Addr) (q : Int64) : entryFrame m #[(.ref a), (.ref sb), (.long q)] 4 = mkF m 0 #[.val (.ref a), .val (.ref sb), .val (.long q), .second] [] := by first | (simp [entryFrame, mkF, argsToLocals, Value.category]; done) | rfl
set_option maxRecDepth 65536 in
set_option maxHeartbeats 40000000 in
theorem rm6 (l : Launch) (Z : State) (a0 : Array Value) (hw : ∀ d ∈ tables_1, d.before a0 Z = true) (ws : List Jvm.Cond) (a : Addr) (sb : Addr) (q : Int64) (h0 : Heap) (n0 : Nat) (Z0 : n0 ≤ h0.size) (ga : n0 ≤ a) (E : Exa Z h0 a "org/ripplelog/event/BinlogPosition") {u_file : Value} (F_file : Fld Z h0 a "org/ripplelog/event/BinlogPosition" "file" "Ljava/lang/String;" u_file) {u_offset : Value} (F_offset : Fld Z h0 a "org/ripplelog/event/BinlogPosition" "offset" "J" u_offset)  :
    MetFree l (⟨"org/ripplelog/event/BinlogPosition", "<init>", "(Ljava/lang/String;J)V"⟩ : MethodName) (head1 (Jvm.Cond.code (⟨"org/ripplelog/event/BinlogPosition", "<init>", "(Ljava/lang/String;J)V"⟩ : MethodName) prog_152_method_1_code 4 none :: ws) ({ frames := 2, cells := 0, slots := 0, locals := 24 } : Room)) (fun aa U => aa = #[(.ref a), (.ref sb), (.long q)] ∧ Z.Warmed39 U.vm ∧ U.heap = h0) (fun _ _ _ _ _ => True) (fun _ U o U' => ∃ v L, o = .returned v ∧ own_QE none n0 (fun h => Keep h0 h [a] ∧ Exa Z h a "org/ripplelog/event/BinlogPosition" ∧ Fld Z h a "org/ripplelog/event/BinlogPosition" "file" "Ljava/lang/String;" (.ref sb) ∧ Fld Z h a "org/ripplelog/event/BinlogPosition" "offset" "J" (.long q)) v U'.heap L ∧ FrameEnd U o U' L ({ frames := 2, cells := 0, slots := 0, locals := 24 } : Room).cells ({ frames := 2, cells := 0, slots := 0, locals := 24 } : Room).slots) := by
  refine MetFree.of_bodySF (plainFor_of_name pn_6) hisR ?_
  intro p e s m args below meth c s₁ Bd hml0 hP hK
  obtain ⟨rfl, hZ, hh⟩ := hP
  have hx := Bd.exec
  have hby := Bd.bytes
  have hml : c.maxLocals = 4 := hml0
  have hlk : meth.locks = false := Bd.notSynchronized
  have hown : s.vm.findClass "org/ripplelog/event/BinlogPosition" = some m.cls := findClass_of_methodNamed Bd.named
  have X0 : Stand p l e ({ frames := 2, cells := 0, slots := 0, locals := 24 } : Room) s m #[(.ref a), (.ref sb), (.long q)] below meth c s₁ [] 0 0 := Stand.of_body Bd
  have e0 : s₁.heap = h0 := by rw [← hh, Bd.state]; rfl
  have hnm := (name_of_methodNamed Bd.named Bd.method).1
  refine own_G0 (own_go (fun _ k => castTop (ef_6 m a sb q) k) ?_)
  show own_G p e below s _ _ _ (s₁.setTop (mkF m 0 #[.val (.ref a), .val (.ref sb), .val (.long q), .second] []))
  refine own_go (fun _ => XS.aloadN X0.here hx rfl (hb hby d6_0) rfl rfl) ?_
  show own_G p e below s _ _ _ (s₁.setTop (mkF m 1 #[.val (.ref a), .val (.ref sb), .val (.long q), .second] [(.ref a)]))
  obtain ⟨T1, h1, L1, X1, e1, N1, P1, st1⟩ := own_callI X0 hx hZ rfl hown (hw _ (List.mem_of_getElem? (i := 32) rfl)) (hw _ (List.mem_of_getElem? (i := 33) rfl)) (hw _ (List.mem_of_getElem? (i := 36) rfl)) (hw _ (List.mem_of_getElem? (i := 35) rfl)) (by decide) (rm7 l Z a0 hw [] a h0 n0) e0 (Fr.nil n0) (W := 0) (by decide) (by decide) (by decide) (by decide) (g := (mkF m 1 #[.val (.ref a), .val (.ref sb), .val (.long q), .second] [(.ref a)])) rfl (by rw [hml]; rfl) (argsL := []) (rest := []) (lenOf (by decide +kernel : parseMethodDescriptor "()V" = some ⟨[], none⟩) rfl) rfl rfl (by show 2 * 0 + _ ≤ _; exact Nat.le_of_eq rfl) (hb hby d6_1)
  have eq1 := e1.trans P1
  refine own_go (fun _ => st1 _) ?_
  show own_G p e below s _ _ _ (T1.setTop (mkF m 4 #[.val (.ref a), .val (.ref sb), .val (.long q), .second] []))
  refine own_go (fun _ => XS.aloadN X1.here hx rfl (hb hby d6_4) rfl rfl) ?_
  show own_G p e below s _ _ _ (T1.setTop (mkF m 5 #[.val (.ref a), .val (.ref sb), .val (.long q), .second] [(.ref a)]))
  refine own_go (fun _ => XS.aloadN X1.here hx rfl (hb hby d6_5) rfl rfl) ?_
  show own_G p e below s _ _ _ (T1.setTop (mkF m 6 #[.val (.ref a), .val (.ref sb), .val (.long q), .second] [(.ref sb), (.ref a)]))
  obtain ⟨T2, h2, X2, e2, W2, st2⟩ := putF X1 hx hZ hown (host := "") (Or.inl (hw _ (List.mem_of_getElem? (i := 38) rfl))) Via.refl eq1 F_file E (Or.inr ⟨(hw _ (List.mem_of_getElem? (i := 39) rfl)), rfl, hnm⟩) (hw _ (List.mem_of_getElem? (i := 1) rfl)) (ty := (.object "java/lang/String")) (by decide) rfl rfl (g := (mkF m 6 #[.val (.ref a), .val (.ref sb), .val (.long q), .second] [(.ref sb), (.ref a)])) rfl rfl (hb hby d6_6)
  have N2 := Fr.snoc X2 N1 ga
  have Ew3 := E.wr W2
  have Fw4 := F_file.same W2
  have Fw5 := F_offset.other W2 (Or.inr (slot_ne (Or.inr (hw _ (List.mem_of_getElem? (i := 41) rfl))) (Or.inr (hw _ (List.mem_of_getElem? (i := 39) rfl))) (by decide) (t := .long) (t' := (.object "java/lang/String")) (by decide) (by decide)))
  have Kw6 := (Keep.refl h0 [a]).wr W2 (Or.inl (List.mem_of_getElem? (i := 0) rfl))
  refine own_go (fun _ => st2 _) ?_
  show own_G p e below s _ _ _ (T2.setTop (mkF m 9 #[.val (.ref a), .val (.ref sb), .val (.long q), .second] []))
  refine own_go (fun _ => XS.aloadN X2.here hx rfl (hb hby d6_9) rfl rfl) ?_
  show own_G p e below s _ _ _ (T2.setTop (mkF m 10 #[.val (.ref a), .val (.ref sb), .val (.long q), .second] [(.ref a)]))
  refine own_go (fun _ => XS.lloadN X2.here hx rfl (hb hby d6_10) rfl) ?_
  show own_G p e below s _ _ _ (T2.setTop (mkF m 11 #[.val (.ref a), .val (.ref sb), .val (.long q), .second] [(.long q), (.ref a)]))
  obtain ⟨T7, h7, X7, e7, W7, st7⟩ := putF X2 hx hZ hown (host := "") (Or.inl (hw _ (List.mem_of_getElem? (i := 40) rfl))) Via.refl e2 Fw5 Ew3 (Or.inr ⟨(hw _ (List.mem_of_getElem? (i := 41) rfl)), rfl, hnm⟩) (hw _ (List.mem_of_getElem? (i := 1) rfl)) (ty := .long) (by decide) rfl rfl (g := (mkF m 11 #[.val (.ref a), .val (.ref sb), .val (.long q), .second] [(.long q), (.ref a)])) rfl rfl (hb hby d6_11)
  have N7 := Fr.snoc X7 N2 ga
  have Ew8 := Ew3.wr W7
  have Fw9 := Fw4.other W7 (Or.inr (slot_ne (Or.inr (hw _ (List.mem_of_getElem? (i := 39) rfl))) (Or.inr (hw _ (List.mem_of_getElem? (i := 41) rfl))) (by decide) (t := (.object "java/lang/String")) (t' := .long) (by decide) (by decide)))
  have Fw10 := Fw5.same W7
  have Kw11 := Kw6.wr W7 (Or.inl (List.mem_of_getElem? (i := 0) rfl))
  refine own_go (fun _ => st7 _) ?_
  show own_G p e below s _ _ _ (T7.setTop (mkF m 14 #[.val (.ref a), .val (.ref sb), .val (.long q), .second] []))
  exact own_retV X7 hx hlk Bd.returns (hb hby d6_14) (by decide) (by decide) ⟨rfl, N7, by rw [e7]; exact ⟨Kw11, Ew8, Fw9, Fw10⟩⟩
theorem d8_0 : decode prog_169_method_1_code 0 = .ok (.aload_n 0, 1) := by decide +kernel
theorem d8_1 : decode prog_169_method_1_code 1 = .ok (.invokespecial 1, 3) := by decide +kernel
theorem d8_4 : decode prog_169_method_1_code 4 = .ok (.aload_n 0, 1) := by decide +kernel
theorem d8_5 : decode prog_169_method_1_code 5 = .ok (.aload_n 1, 1) := by decide +kernel
theorem d8_6 : decode prog_169_method_1_code 6 = .ok (.putfield 7, 3) := by decide +kernel
theorem d8_9 : decode prog_169_method_1_code 9 = .ok (.aload_n 0, 1) := by decide +kernel
theorem d8_10 : decode prog_169_method_1_code 10 = .ok (.aload_n 2, 1) := by decide +kernel
theorem d8_11 : decode prog_169_method_1_code 11 = .ok (.putfield 13, 3) := by decide +kernel
theorem d8_14 : decode prog_169_method_1_code 14 = .ok (.return_, 1) := by decide +kernel
theorem pn_8 : plainName "org/ripplelog/event/ResumePoint" = true := by first | (simp [plainName, overriddenIn]; done) | decide +kernel
theorem ef_8 (m : MethodId) (a : Addr) (v1 : Value) (v2 : Value) (hv1 : v1.isRef = true) (hv2 : v2.isRef = true) : entryFrame m #[(.ref a), v1, v2] 3 = mkF m 0 #[.val (.ref a), .val v1, .val v2] [] := by
  cases v1 <;> simp [Value.isRef] at hv1 <;> cases v2 <;> simp [Value.isRef] at hv2 <;> (first | (simp [entryFrame, mkF, argsToLocals, Value.category]; done) | rfl)
set_option maxRecDepth 65536 in
set_option maxHeartbeats 40000000 in
theorem rm8 (l : Launch) (Z : State) (a0 : Array Value) (hw : ∀ d ∈ tables_1, d.before a0 Z = true) (ws : List Jvm.Cond) (a : Addr) (v1 : Value) (v2 : Value) (h0 : Heap) (n0 : Nat) (Z0 : n0 ≤ h0.size) (ga : n0 ≤ a) (E : Exa Z h0 a "org/ripplelog/event/ResumePoint") {u_position : Value} (F_position : Fld Z h0 a "org/ripplelog/event/ResumePoint" "position" "Lorg/ripplelog/event/BinlogPosition;" u_position) {u_prepared : Value} (F_prepared : Fld Z h0 a "org/ripplelog/event/ResumePoint" "prepared" "Lorg/ripplelog/event/BinlogPosition;" u_prepared) (hv1 : v1.isRef = true) (hv2 : v2.isRef = true) :
    MetFree l (⟨"org/ripplelog/event/ResumePoint", "<init>", "(Lorg/ripplelog/event/BinlogPosition;Lorg/ripplelog/event/BinlogPosition;)V"⟩ : MethodName) (head1 (Jvm.Cond.code (⟨"org/ripplelog/event/ResumePoint", "<init>", "(Lorg/ripplelog/event/BinlogPosition;Lorg/ripplelog/event/BinlogPosition;)V"⟩ : MethodName) prog_169_method_1_code 3 none :: ws) ({ frames := 2, cells := 0, slots := 0, locals := 24 } : Room)) (fun aa U => aa = #[(.ref a), v1, v2] ∧ Z.Warmed39 U.vm ∧ U.heap = h0) (fun _ _ _ _ _ => True) (fun _ U o U' => ∃ v L, o = .returned v ∧ own_QE none n0 (fun h => Keep h0 h [a] ∧ Exa Z h a "org/ripplelog/event/ResumePoint" ∧ Fld Z h a "org/ripplelog/event/ResumePoint" "position" "Lorg/ripplelog/event/BinlogPosition;" v1 ∧ Fld Z h a "org/ripplelog/event/ResumePoint" "prepared" "Lorg/ripplelog/event/BinlogPosition;" v2) v U'.heap L ∧ FrameEnd U o U' L ({ frames := 2, cells := 0, slots := 0, locals := 24 } : Room).cells ({ frames := 2, cells := 0, slots := 0, locals := 24 } : Room).slots) := by
  refine MetFree.of_bodySF (plainFor_of_name pn_8) hisR ?_
  intro p e s m args below meth c s₁ Bd hml0 hP hK
  obtain ⟨rfl, hZ, hh⟩ := hP
  have hx := Bd.exec
  have hby := Bd.bytes
  have hml : c.maxLocals = 3 := hml0
  have hlk : meth.locks = false := Bd.notSynchronized
  have hown : s.vm.findClass "org/ripplelog/event/ResumePoint" = some m.cls := findClass_of_methodNamed Bd.named
  have X0 : Stand p l e ({ frames := 2, cells := 0, slots := 0, locals := 24 } : Room) s m #[(.ref a), v1, v2] below meth c s₁ [] 0 0 := Stand.of_body Bd
  have e0 : s₁.heap = h0 := by rw [← hh, Bd.state]; rfl
  have hnm := (name_of_methodNamed Bd.named Bd.method).1
  refine own_G0 (own_go (fun _ k => castTop (ef_8 m a v1 v2 hv1 hv2) k) ?_)
  show own_G p e below s _ _ _ (s₁.setTop (mkF m 0 #[.val (.ref a), .val v1, .val v2] []))
  refine own_go (fun _ => XS.aloadN X0.here hx rfl (hb hby d8_0) rfl rfl) ?_
  show own_G p e below s _ _ _ (s₁.setTop (mkF m 1 #[.val (.ref a), .val v1, .val v2] [(.ref a)]))
  obtain ⟨T1, h1, L1, X1, e1, N1, P1, st1⟩ := own_callI X0 hx hZ rfl hown (hw _ (List.mem_of_getElem? (i := 48) rfl)) (hw _ (List.mem_of_getElem? (i := 33) rfl)) (hw _ (List.mem_of_getElem? (i := 36) rfl)) (hw _ (List.mem_of_getElem? (i := 35) rfl)) (by decide) (rm7 l Z a0 hw [] a h0 n0) e0 (Fr.nil n0) (W := 0) (by decide) (by decide) (by decide) (by decide) (g := (mkF m 1 #[.val (.ref a), .val v1, .val v2] [(.ref a)])) rfl (by rw [hml]; rfl) (argsL := []) (rest := []) (lenOf (by decide +kernel : parseMethodDescriptor "()V" = some ⟨[], none⟩) rfl) rfl rfl (by show 2 * 0 + _ ≤ _; exact Nat.le_of_eq rfl) (hb hby d8_1)
  have eq1 := e1.trans P1
  refine own_go (fun _ => st1 _) ?_
  show own_G p e below s _ _ _ (T1.setTop (mkF m 4 #[.val (.ref a), .val v1, .val v2] []))
  refine own_go (fun _ => XS.aloadN X1.here hx rfl (hb hby d8_4) rfl rfl) ?_
  show own_G p e below s _ _ _ (T1.setTop (mkF m 5 #[.val (.ref a), .val v1, .val v2] [(.ref a)]))
  refine own_go (fun _ => XS.aloadN X1.here hx rfl (hb hby d8_5) rfl hv1) ?_
  show own_G p e below s _ _ _ (T1.setTop (mkF m 6 #[.val (.ref a), .val v1, .val v2] [v1, (.ref a)]))
  obtain ⟨T2, h2, X2, e2, W2, st2⟩ := putF X1 hx hZ hown (host := "") (Or.inl (hw _ (List.mem_of_getElem? (i := 49) rfl))) Via.refl eq1 F_position E (Or.inr ⟨(hw _ (List.mem_of_getElem? (i := 50) rfl)), rfl, hnm⟩) (hw _ (List.mem_of_getElem? (i := 43) rfl)) (ty := (.object "org/ripplelog/event/BinlogPosition")) (by decide) (own_nar hv1) (own_fit hv1) (g := (mkF m 6 #[.val (.ref a), .val v1, .val v2] [v1, (.ref a)])) rfl rfl (hb hby d8_6)
  have N2 := Fr.snoc X2 N1 ga
  have Ew3 := E.wr W2
  have Fw4 := F_position.same W2
  have Fw5 := F_prepared.other W2 (Or.inr (slot_ne (Or.inr (hw _ (List.mem_of_getElem? (i := 52) rfl))) (Or.inr (hw _ (List.mem_of_getElem? (i := 50) rfl))) (by decide) (t := (.object "org/ripplelog/event/BinlogPosition")) (t' := (.object "org/ripplelog/event/BinlogPosition")) (by decide) (by decide)))
  have Kw6 := (Keep.refl h0 [a]).wr W2 (Or.inl (List.mem_of_getElem? (i := 0) rfl))
  refine own_go (fun _ => st2 _) ?_
  show own_G p e below s _ _ _ (T2.setTop (mkF m 9 #[.val (.ref a), .val v1, .val v2] []))
  refine own_go (fun _ => XS.aloadN X2.here hx rfl (hb hby d8_9) rfl rfl) ?_
  show own_G p e below s _ _ _ (T2.setTop (mkF m 10 #[.val (.ref a), .val v1, .val v2] [(.ref a)]))
  refine own_go (fun _ => XS.aloadN X2.here hx rfl (hb hby d8_10) rfl hv2) ?_
  show own_G p e below s _ _ _ (T2.setTop (mkF m 11 #[.val (.ref a), .val v1, .val v2] [v2, (.ref a)]))
  obtain ⟨T7, h7, X7, e7, W7, st7⟩ := putF X2 hx hZ hown (host := "") (Or.inl (hw _ (List.mem_of_getElem? (i := 51) rfl))) Via.refl e2 Fw5 Ew3 (Or.inr ⟨(hw _ (List.mem_of_getElem? (i := 52) rfl)), rfl, hnm⟩) (hw _ (List.mem_of_getElem? (i := 43) rfl)) (ty := (.object "org/ripplelog/event/BinlogPosition")) (by decide) (own_nar hv2) (own_fit hv2) (g := (mkF m 11 #[.val (.ref a), .val v1, .val v2] [v2, (.ref a)])) rfl rfl (hb hby d8_11)
  have N7 := Fr.snoc X7 N2 ga
  have Ew8 := Ew3.wr W7
  have Fw9 := Fw4.other W7 (Or.inr (slot_ne (Or.inr (hw _ (List.mem_of_getElem? (i := 50) rfl))) (Or.inr (hw _ (List.mem_of_getElem? (i := 52) rfl))) (by decide) (t := (.object "org/ripplelog/event/BinlogPosition")) (t' := (.object "org/ripplelog/event/BinlogPosition")) (by decide) (by decide)))
  have Fw10 := Fw5.same W7
  have Kw11 := Kw6.wr W7 (Or.inl (List.mem_of_getElem? (i := 0) rfl))
  refine own_go (fun _ => st7 _) ?_
  show own_G p e below s _ _ _ (T7.setTop (mkF m 14 #[.val (.ref a), .val v1, .val v2] []))
  exact own_retV X7 hx hlk Bd.returns (hb hby d8_14) (by decide) (by decide) ⟨rfl, N7, by rw [e7]; exact ⟨Kw11, Ew8, Fw9, Fw10⟩⟩
theorem d9_0 : decode prog_169_method_3_code 0 = .ok (.aload_n 0, 1) := by decide +kernel
theorem d9_1 : decode prog_169_method_3_code 1 = .ok (.getfield 13, 3) := by decide +kernel
theorem d9_4 : decode prog_169_method_3_code 4 = .ok (.ifnull 10, 3) := by decide +kernel
theorem d9_7 : decode prog_169_method_3_code 7 = .ok (.aload_n 0, 1) := by decide +kernel
theorem d9_8 : decode prog_169_method_3_code 8 = .ok (.getfield 13, 3) := by decide +kernel
theorem d9_11 : decode prog_169_method_3_code 11 = .ok (.goto 7, 3) := by decide +kernel
theorem d9_14 : decode prog_169_method_3_code 14 = .ok (.aload_n 0, 1) := by decide +kernel
theorem d9_15 : decode prog_169_method_3_code 15 = .ok (.getfield 7, 3) := by decide +kernel
theorem d9_18 : decode prog_169_method_3_code 18 = .ok (.areturn, 1) := by decide +kernel
theorem pn_9 : plainName "org/ripplelog/event/ResumePoint" = true := by first | (simp [plainName, overriddenIn]; done) | decide +kernel
theorem ef_9 (m : MethodId) (a : Addr) : entryFrame m #[(.ref a)] 1 = mkF m 0 #[.val (.ref a)] [] := by first | (simp [entryFrame, mkF, argsToLocals, Value.category]; done) | rfl
set_option maxRecDepth 65536 in
set_option maxHeartbeats 40000000 in
theorem rm9n (l : Launch) (Z : State) (a0 : Array Value) (hw : ∀ d ∈ tables_1, d.before a0 Z = true) (ws : List Jvm.Cond) (a : Addr) (h0 : Heap) (v1 : Value) (hv1 : v1.isRef = true) (F1 : Fld Z h0 a "org/ripplelog/event/ResumePoint" "position" "Lorg/ripplelog/event/BinlogPosition;" v1) (F2 : Fld Z h0 a "org/ripplelog/event/ResumePoint" "prepared" "Lorg/ripplelog/event/BinlogPosition;" .null) :
    MetFree l (⟨"org/ripplelog/event/ResumePoint", "from", "()Lorg/ripplelog/event/BinlogPosition;"⟩ : MethodName) (head1 (Jvm.Cond.code (⟨"org/ripplelog/event/ResumePoint", "from", "()Lorg/ripplelog/event/BinlogPosition;"⟩ : MethodName) prog_169_method_3_code 1 (some (.object "org/ripplelog/event/BinlogPosition")) :: ws) ({ frames := 0, cells := 0, slots := 0, locals := 0 } : Room)) (fun aa U => aa = #[(.ref a)] ∧ Z.Warmed39 U.vm ∧ U.heap = h0) (fun _ _ _ _ _ => True) (fun _ U o U' => ∃ v L, o = .returned v ∧ own_Q (some v1) h0 v U'.heap L ∧ FrameEnd U o U' L ({ frames := 0, cells := 0, slots := 0, locals := 0 } : Room).cells ({ frames := 0, cells := 0, slots := 0, locals := 0 } : Room).slots) := by
  refine MetFree.of_bodySF (plainFor_of_name pn_9) hisR ?_
  intro p e s m args below meth c s₁ Bd hml0 hP hK
  obtain ⟨rfl, hZ, hh⟩ := hP
  have hx := Bd.exec
  have hby := Bd.bytes
  have hml : c.maxLocals = 1 := hml0
  have hlk : meth.locks = false := Bd.notSynchronized
  have hown : s.vm.findClass "org/ripplelog/event/ResumePoint" = some m.cls := findClass_of_methodNamed Bd.named
  have X0 : Stand p l e ({ frames := 0, cells := 0, slots := 0, locals := 0 } : Room) s m #[(.ref a)] below meth c s₁ [] 0 0 := Stand.of_body Bd
  have e0 : s₁.heap = h0 := by rw [← hh, Bd.state]; rfl
  refine own_G0 (own_go (fun _ k => castTop (ef_9 m a) k) ?_)
  show own_G p e below s _ _ _ (s₁.setTop (mkF m 0 #[.val (.ref a)] []))
  refine own_go (fun _ => XS.aloadN X0.here hx rfl (hb hby d9_0) rfl rfl) ?_
  show own_G p e below s _ _ _ (s₁.setTop (mkF m 1 #[.val (.ref a)] [(.ref a)]))
  obtain ⟨T1, X1, e1, st1⟩ := getF X0 hx hZ hown (host := "") (Or.inl (hw _ (List.mem_of_getElem? (i := 51) rfl))) Via.refl e0 F2 (g := (mkF m 1 #[.val (.ref a)] [(.ref a)])) rfl rfl (hb hby d9_1)
  refine own_go (fun _ => st1 _) ?_
  show own_G p e below s _ _ _ (T1.setTop (mkF m 4 #[.val (.ref a)] [.null]))
  refine own_go (fun _ => XS.ifnullYes X1.here hx rfl (pc0 := 4) (pc' := 14) rfl (hb hby d9_4) rfl (by decide) (by decide)) ?_
  show own_G p e below s _ _ _ (T1.setTop (mkF m 14 #[.val (.ref a)] []))
  refine own_go (fun _ => XS.aloadN X1.here hx rfl (hb hby d9_14) rfl rfl) ?_
  show own_G p e below s _ _ _ (T1.setTop (mkF m 15 #[.val (.ref a)] [(.ref a)]))
  obtain ⟨T2, X2, e2, st2⟩ := getF X1 hx hZ hown (host := "") (Or.inl (hw _ (List.mem_of_getElem? (i := 49) rfl))) Via.refl e1 F1 (g := (mkF m 15 #[.val (.ref a)] [(.ref a)])) rfl rfl (hb hby d9_15)
  refine own_go (fun _ => st2 _) ?_
  show own_G p e below s _ _ _ (T2.setTop (mkF m 18 #[.val (.ref a)] [v1]))
  exact own_retA X2 hx hlk hv1 Bd.returns rfl (hb hby d9_18) (by decide) (by decide) ⟨rfl, rfl, e2⟩
set_option maxRecDepth 65536 in
set_option maxHeartbeats 40000000 in
theorem rm9r (l : Launch) (Z : State) (a0 : Array Value) (hw : ∀ d ∈ tables_1, d.before a0 Z = true) (ws : List Jvm.Cond) (a : Addr) (h0 : Heap) (pb : Addr) (F2 : Fld Z h0 a "org/ripplelog/event/ResumePoint" "prepared" "Lorg/ripplelog/event/BinlogPosition;" (.ref pb)) :
    MetFree l (⟨"org/ripplelog/event/ResumePoint", "from", "()Lorg/ripplelog/event/BinlogPosition;"⟩ : MethodName) (head1 (Jvm.Cond.code (⟨"org/ripplelog/event/ResumePoint", "from", "()Lorg/ripplelog/event/BinlogPosition;"⟩ : MethodName) prog_169_method_3_code 1 (some (.object "org/ripplelog/event/BinlogPosition")) :: ws) ({ frames := 0, cells := 0, slots := 0, locals := 0 } : Room)) (fun aa U => aa = #[(.ref a)] ∧ Z.Warmed39 U.vm ∧ U.heap = h0) (fun _ _ _ _ _ => True) (fun _ U o U' => ∃ v L, o = .returned v ∧ own_Q (some (.ref pb)) h0 v U'.heap L ∧ FrameEnd U o U' L ({ frames := 0, cells := 0, slots := 0, locals := 0 } : Room).cells ({ frames := 0, cells := 0, slots := 0, locals := 0 } : Room).slots) := by
  refine MetFree.of_bodySF (plainFor_of_name pn_9) hisR ?_
  intro p e s m args below meth c s₁ Bd hml0 hP hK
  obtain ⟨rfl, hZ, hh⟩ := hP
  have hx := Bd.exec
  have hby := Bd.bytes
  have hml : c.maxLocals = 1 := hml0
  have hlk : meth.locks = false := Bd.notSynchronized
  have hown : s.vm.findClass "org/ripplelog/event/ResumePoint" = some m.cls := findClass_of_methodNamed Bd.named
  have X0 : Stand p l e ({ frames := 0, cells := 0, slots := 0, locals := 0 } : Room) s m #[(.ref a)] below meth c s₁ [] 0 0 := Stand.of_body Bd
  have e0 : s₁.heap = h0 := by rw [← hh, Bd.state]; rfl
  refine own_G0 (own_go (fun _ k => castTop (ef_9 m a) k) ?_)
  show own_G p e below s _ _ _ (s₁.setTop (mkF m 0 #[.val (.ref a)] []))
  refine own_go (fun _ => XS.aloadN X0.here hx rfl (hb hby d9_0) rfl rfl) ?_
  show own_G p e below s _ _ _ (s₁.setTop (mkF m 1 #[.val (.ref a)] [(.ref a)]))
  obtain ⟨T1, X1, e1, st1⟩ := getF X0 hx hZ hown (host := "") (Or.inl (hw _ (List.mem_of_getElem? (i := 51) rfl))) Via.refl e0 F2 (g := (mkF m 1 #[.val (.ref a)] [(.ref a)])) rfl rfl (hb hby d9_1)
  refine own_go (fun _ => st1 _) ?_
  show own_G p e below s _ _ _ (T1.setTop (mkF m 4 #[.val (.ref a)] [(.ref pb)]))
  refine own_go (fun _ => XS.ifnullNo X1.here hx rfl (hb hby d9_4) rfl) ?_
  show own_G p e below s _ _ _ (T1.setTop (mkF m 7 #[.val (.ref a)] []))
  refine own_go (fun _ => XS.aloadN X1.here hx rfl (hb hby d9_7) rfl rfl) ?_
  show own_G p e below s _ _ _ (T1.setTop (mkF m 8 #[.val (.ref a)] [(.ref a)]))
  obtain ⟨T2, X2, e2, st2⟩ := getF X1 hx hZ hown (host := "") (Or.inl (hw _ (List.mem_of_getElem? (i := 51) rfl))) Via.refl e1 F2 (g := (mkF m 8 #[.val (.ref a)] [(.ref a)])) rfl rfl (hb hby d9_8)
  refine own_go (fun _ => st2 _) ?_
  show own_G p e below s _ _ _ (T2.setTop (mkF m 11 #[.val (.ref a)] [(.ref pb)]))
  refine own_go (fun _ => XS.goto X2.here hx rfl (pc0 := 11) (pc' := 18) rfl (hb hby d9_11) (by decide) (by decide)) ?_
  show own_G p e below s _ _ _ (T2.setTop (mkF m 18 #[.val (.ref a)] [(.ref pb)]))
  exact own_retA X2 hx hlk rfl Bd.returns rfl (hb hby d9_18) (by decide) (by decide) ⟨rfl, rfl, e2⟩
theorem d10_0 : decode prog_169_method_7_code 0 = .ok (.aload_n 0, 1) := by decide +kernel
theorem d10_1 : decode prog_169_method_7_code 1 = .ok (.getfield 7, 3) := by decide +kernel
theorem d10_4 : decode prog_169_method_7_code 4 = .ok (.areturn, 1) := by decide +kernel
theorem pn_10 : plainName "org/ripplelog/event/ResumePoint" = true := by first | (simp [plainName, overriddenIn]; done) | decide +kernel
theorem ef_10 (m : MethodId) (a : Addr) : entryFrame m #[(.ref a)] 1 = mkF m 0 #[.val (.ref a)] [] := by first | (simp [entryFrame, mkF, argsToLocals, Value.category]; done) | rfl
set_option maxRecDepth 65536 in
set_option maxHeartbeats 40000000 in
theorem rm10 (l : Launch) (Z : State) (a0 : Array Value) (hw : ∀ d ∈ tables_1, d.before a0 Z = true) (ws : List Jvm.Cond) (a : Addr) (h0 : Heap) (v1 : Value) (hv1 : v1.isRef = true) (F1 : Fld Z h0 a "org/ripplelog/event/ResumePoint" "position" "Lorg/ripplelog/event/BinlogPosition;" v1) :
    MetFree l (⟨"org/ripplelog/event/ResumePoint", "position", "()Lorg/ripplelog/event/BinlogPosition;"⟩ : MethodName) (head1 (Jvm.Cond.code (⟨"org/ripplelog/event/ResumePoint", "position", "()Lorg/ripplelog/event/BinlogPosition;"⟩ : MethodName) prog_169_method_7_code 1 (some (.object "org/ripplelog/event/BinlogPosition")) :: ws) ({ frames := 0, cells := 0, slots := 0, locals := 0 } : Room)) (fun aa U => aa = #[(.ref a)] ∧ Z.Warmed39 U.vm ∧ U.heap = h0) (fun _ _ _ _ _ => True) (fun _ U o U' => ∃ v L, o = .returned v ∧ own_Q (some v1) h0 v U'.heap L ∧ FrameEnd U o U' L ({ frames := 0, cells := 0, slots := 0, locals := 0 } : Room).cells ({ frames := 0, cells := 0, slots := 0, locals := 0 } : Room).slots) := by
  refine MetFree.of_bodySF (plainFor_of_name pn_10) hisR ?_
  intro p e s m args below meth c s₁ Bd hml0 hP hK
  obtain ⟨rfl, hZ, hh⟩ := hP
  have hx := Bd.exec
  have hby := Bd.bytes
  have hml : c.maxLocals = 1 := hml0
  have hlk : meth.locks = false := Bd.notSynchronized
  have hown : s.vm.findClass "org/ripplelog/event/ResumePoint" = some m.cls := findClass_of_methodNamed Bd.named
  have X0 : Stand p l e ({ frames := 0, cells := 0, slots := 0, locals := 0 } : Room) s m #[(.ref a)] below meth c s₁ [] 0 0 := Stand.of_body Bd
  have e0 : s₁.heap = h0 := by rw [← hh, Bd.state]; rfl
  refine own_G0 (own_go (fun _ k => castTop (ef_10 m a) k) ?_)
  show own_G p e below s _ _ _ (s₁.setTop (mkF m 0 #[.val (.ref a)] []))
  refine own_go (fun _ => XS.aloadN X0.here hx rfl (hb hby d10_0) rfl rfl) ?_
  show own_G p e below s _ _ _ (s₁.setTop (mkF m 1 #[.val (.ref a)] [(.ref a)]))
  obtain ⟨T1, X1, e1, st1⟩ := getF X0 hx hZ hown (host := "") (Or.inl (hw _ (List.mem_of_getElem? (i := 49) rfl))) Via.refl e0 F1 (g := (mkF m 1 #[.val (.ref a)] [(.ref a)])) rfl rfl (hb hby d10_1)
  refine own_go (fun _ => st1 _) ?_
  show own_G p e below s _ _ _ (T1.setTop (mkF m 4 #[.val (.ref a)] [v1]))
  exact own_retA X1 hx hlk hv1 Bd.returns rfl (hb hby d10_4) (by decide) (by decide) ⟨rfl, rfl, e1⟩
theorem d11_0 : decode prog_169_method_8_code 0 = .ok (.aload_n 0, 1) := by decide +kernel
theorem d11_1 : decode prog_169_method_8_code 1 = .ok (.getfield 13, 3) := by decide +kernel
theorem d11_4 : decode prog_169_method_8_code 4 = .ok (.areturn, 1) := by decide +kernel
theorem pn_11 : plainName "org/ripplelog/event/ResumePoint" = true := by first | (simp [plainName, overriddenIn]; done) | decide +kernel
theorem ef_11 (m : MethodId) (a : Addr) : entryFrame m #[(.ref a)] 1 = mkF m 0 #[.val (.ref a)] [] := by first | (simp [entryFrame, mkF, argsToLocals, Value.category]; done) | rfl
set_option maxRecDepth 65536 in
set_option maxHeartbeats 40000000 in
theorem rm11 (l : Launch) (Z : State) (a0 : Array Value) (hw : ∀ d ∈ tables_1, d.before a0 Z = true) (ws : List Jvm.Cond) (a : Addr) (h0 : Heap) (v1 : Value) (hv1 : v1.isRef = true) (F1 : Fld Z h0 a "org/ripplelog/event/ResumePoint" "prepared" "Lorg/ripplelog/event/BinlogPosition;" v1) :
    MetFree l (⟨"org/ripplelog/event/ResumePoint", "prepared", "()Lorg/ripplelog/event/BinlogPosition;"⟩ : MethodName) (head1 (Jvm.Cond.code (⟨"org/ripplelog/event/ResumePoint", "prepared", "()Lorg/ripplelog/event/BinlogPosition;"⟩ : MethodName) prog_169_method_8_code 1 (some (.object "org/ripplelog/event/BinlogPosition")) :: ws) ({ frames := 0, cells := 0, slots := 0, locals := 0 } : Room)) (fun aa U => aa = #[(.ref a)] ∧ Z.Warmed39 U.vm ∧ U.heap = h0) (fun _ _ _ _ _ => True) (fun _ U o U' => ∃ v L, o = .returned v ∧ own_Q (some v1) h0 v U'.heap L ∧ FrameEnd U o U' L ({ frames := 0, cells := 0, slots := 0, locals := 0 } : Room).cells ({ frames := 0, cells := 0, slots := 0, locals := 0 } : Room).slots) := by
  refine MetFree.of_bodySF (plainFor_of_name pn_11) hisR ?_
  intro p e s m args below meth c s₁ Bd hml0 hP hK
  obtain ⟨rfl, hZ, hh⟩ := hP
  have hx := Bd.exec
  have hby := Bd.bytes
  have hml : c.maxLocals = 1 := hml0
  have hlk : meth.locks = false := Bd.notSynchronized
  have hown : s.vm.findClass "org/ripplelog/event/ResumePoint" = some m.cls := findClass_of_methodNamed Bd.named
  have X0 : Stand p l e ({ frames := 0, cells := 0, slots := 0, locals := 0 } : Room) s m #[(.ref a)] below meth c s₁ [] 0 0 := Stand.of_body Bd
  have e0 : s₁.heap = h0 := by rw [← hh, Bd.state]; rfl
  refine own_G0 (own_go (fun _ k => castTop (ef_11 m a) k) ?_)
  show own_G p e below s _ _ _ (s₁.setTop (mkF m 0 #[.val (.ref a)] []))
  refine own_go (fun _ => XS.aloadN X0.here hx rfl (hb hby d11_0) rfl rfl) ?_
  show own_G p e below s _ _ _ (s₁.setTop (mkF m 1 #[.val (.ref a)] [(.ref a)]))
  obtain ⟨T1, X1, e1, st1⟩ := getF X0 hx hZ hown (host := "") (Or.inl (hw _ (List.mem_of_getElem? (i := 51) rfl))) Via.refl e0 F1 (g := (mkF m 1 #[.val (.ref a)] [(.ref a)])) rfl rfl (hb hby d11_1)
  refine own_go (fun _ => st1 _) ?_
  show own_G p e below s _ _ _ (T1.setTop (mkF m 4 #[.val (.ref a)] [v1]))
  exact own_retA X1 hx hlk hv1 Bd.returns rfl (hb hby d11_4) (by decide) (by decide) ⟨rfl, rfl, e1⟩
def own_v0_0 (q0 : Int32) (q1 : Int32) (q2 : Int64) (q3 : Int32) (q4 : Int64) : Int32 := (if (q0 &&& (1 : Int32)) = (0 : Int32) then (if (q0 &&& (2 : Int32)) = (0 : Int32) then (nar .boolean (1 : Int32)) else (nar .boolean (1 : Int32))) else (if (q0 &&& (2 : Int32)) = (0 : Int32) then (nar .boolean (1 : Int32)) else (nar .boolean (1 : Int32))))
theorem own_law (q0 q1 : Int32) (q2 : Int64) (q3 : Int32) (q4 : Int64) : own_v0_0 q0 q1 q2 q3 q4 = 1 := by
  rw [own_v0_0]
  repeat' split
  all_goals rfl
theorem own_c255 (x : Int32) : ¬ (255 : Int32) < own_c (x &&& (255 : Int32)) := by
  have h := own_mask x 255 (by decide)
  have e : (255 : Int32).toInt = 255 := rfl
  have e2 : own_c (x &&& (255 : Int32)) = x &&& (255 : Int32) := i2c_mask x
  rw [e2, own_lt]
  omega
theorem pn_0 : plainName "org/ripplelog/event/ResumePointFromPinLaw" = true := by first | (simp [plainName, overriddenIn]; done) | decide +kernel
theorem ef_0 (m : MethodId) (q0 : Int32) (q1 : Int32) (q2 : Int64) (q3 : Int32) (q4 : Int64) : entryFrame m #[(.int q0), (.int q1), (.long q2), (.int q3), (.long q4)] maxLocals = mkF m 0 #[.val (.int q0), .val (.int q1), .val (.long q2), .second, .val (.int q3), .val (.long q4), .second, .unset, .unset, .unset, .unset, .unset, .unset, .unset] [] := by first | (simp [entryFrame, mkF, argsToLocals, Value.category, maxLocals]; done) | rfl
set_option maxRecDepth 65536 in
set_option maxHeartbeats 40000000 in
theorem rm0 (l : Launch) (Z : State) (a0 : Array Value) (hw : ∀ d ∈ tables_1, d.before a0 Z = true) (ws : List Jvm.Cond) (q0 : Int32) (q1 : Int32) (q2 : Int64) (q3 : Int32) (q4 : Int64) (h0 : Heap) (n0 : Nat) (Z0 : n0 ≤ h0.size) (cs : Int32) (hcs : ¬ cs = 0) (S0 : Sta Z h0 "java/lang/String" "COMPACT_STRINGS" "Z" (.int cs)) :
    MetFree l x (head1 (Jvm.Cond.code x code maxLocals ret :: ws) room_1) (fun aa U => aa = #[(.int q0), (.int q1), (.long q2), (.int q3), (.long q4)] ∧ Z.Warmed39 U.vm ∧ U.heap = h0) (fun _ _ _ _ _ => True) (fun _ U o U' => ∃ v L, o = .returned v ∧ own_QF (some (.int (own_v0_0 q0 q1 q2 q3 q4))) n0 v U'.heap L ∧ FrameEnd U o U' L room_1.cells room_1.slots) := by
  refine MetFree.of_bodySF (plainFor_of_name pn_0) hisR ?_
  intro p e s m args below meth c s₁ Bd hml0 hP hK
  obtain ⟨rfl, hZ, hh⟩ := hP
  have hx := Bd.exec
  have hby := Bd.bytes
  have hml : c.maxLocals = 14 := hml0
  have hlk : meth.locks = false := Bd.notSynchronized
  have hown : s.vm.findClass "org/ripplelog/event/ResumePointFromPinLaw" = some m.cls := findClass_of_methodNamed Bd.named
  have X0 : Stand p l e room_1 s m #[(.int q0), (.int q1), (.long q2), (.int q3), (.long q4)] below meth c s₁ [] 0 0 := Stand.of_body Bd
  have e0 : s₁.heap = h0 := by rw [← hh, Bd.state]; rfl
  refine own_G0 (own_go (fun _ k => castTop (ef_0 m q0 q1 q2 q3 q4) k) ?_)
  show own_G p e below s (own_QF (some (.int (if (q0 &&& (1 : Int32)) = (0 : Int32) then (if (q0 &&& (2 : Int32)) = (0 : Int32) then (nar .boolean (1 : Int32)) else (nar .boolean (1 : Int32))) else (if (q0 &&& (2 : Int32)) = (0 : Int32) then (nar .boolean (1 : Int32)) else (nar .boolean (1 : Int32)))))) n0) room_1.cells room_1.slots (s₁.setTop (mkF m 0 #[.val (.int q0), .val (.int q1), .val (.long q2), .second, .val (.int q3), .val (.long q4), .second, .unset, .unset, .unset, .unset, .unset, .unset, .unset] []))
  refine own_go (fun _ => XS.iloadN X0.here hx rfl (hb hby at_0) rfl) ?_
  show own_G p e below s _ _ _ (s₁.setTop (mkF m 1 #[.val (.int q0), .val (.int q1), .val (.long q2), .second, .val (.int q3), .val (.long q4), .second, .unset, .unset, .unset, .unset, .unset, .unset, .unset] [(.int q0)]))
  refine own_go (fun _ => XS.iconst X0.here hx rfl (hb hby at_1)) ?_
  show own_G p e below s _ _ _ (s₁.setTop (mkF m 2 #[.val (.int q0), .val (.int q1), .val (.long q2), .second, .val (.int q3), .val (.long q4), .second, .unset, .unset, .unset, .unset, .unset, .unset, .unset] [(.int (1 : Int32)), (.int q0)]))
  refine own_go (fun _ => XS.iand X0.here hx rfl (hb hby at_2) rfl) ?_
  show own_G p e below s _ _ _ (s₁.setTop (mkF m 3 #[.val (.int q0), .val (.int q1), .val (.long q2), .second, .val (.int q3), .val (.long q4), .second, .unset, .unset, .unset, .unset, .unset, .unset, .unset] [(.int (q0 &&& (1 : Int32)))]))
  by_cases hc3 : (q0 &&& (1 : Int32)) = (0 : Int32)
  · refine own_eqF (if_pos hc3) ?_
    refine own_go (fun _ => XS.ifYes X0.here hx rfl (pc0 := 3) (pc' := 10) rfl (hb hby at_3) rfl ((if0 _ _).trans (teq hc3).1) (by decide) (by decide)) ?_
    show own_G p e below s _ _ _ (s₁.setTop (mkF m 10 #[.val (.int q0), .val (.int q1), .val (.long q2), .second, .val (.int q3), .val (.long q4), .second, .unset, .unset, .unset, .unset, .unset, .unset, .unset] []))
    refine own_go (fun _ => XS.iconst X0.here hx rfl (hb hby at_10)) ?_
    show own_G p e below s _ _ _ (s₁.setTop (mkF m 11 #[.val (.int q0), .val (.int q1), .val (.long q2), .second, .val (.int q3), .val (.long q4), .second, .unset, .unset, .unset, .unset, .unset, .unset, .unset] [(.int (0 : Int32))]))
    refine own_go (fun _ => XS.istore X0.here hx rfl (hb hby at_11) rfl (l' := #[.val (.int q0), .val (.int q1), .val (.long q2), .second, .val (.int q3), .val (.long q4), .second, .val (.int (0 : Int32)), .unset, .unset, .unset, .unset, .unset, .unset]) rfl) ?_
    show own_G p e below s _ _ _ (s₁.setTop (mkF m 13 #[.val (.int q0), .val (.int q1), .val (.long q2), .second, .val (.int q3), .val (.long q4), .second, .val (.int (0 : Int32)), .unset, .unset, .unset, .unset, .unset, .unset] []))
    refine own_go (fun _ => XS.iloadN X0.here hx rfl (hb hby at_13) rfl) ?_
    show own_G p e below s _ _ _ (s₁.setTop (mkF m 14 #[.val (.int q0), .val (.int q1), .val (.long q2), .second, .val (.int q3), .val (.long q4), .second, .val (.int (0 : Int32)), .unset, .unset, .unset, .unset, .unset, .unset] [(.int q0)]))
    refine own_go (fun _ => XS.iconst X0.here hx rfl (hb hby at_14)) ?_
    show own_G p e below s _ _ _ (s₁.setTop (mkF m 15 #[.val (.int q0), .val (.int q1), .val (.long q2), .second, .val (.int q3), .val (.long q4), .second, .val (.int (0 : Int32)), .unset, .unset, .unset, .unset, .unset, .unset] [(.int (2 : Int32)), (.int q0)]))
    refine own_go (fun _ => XS.iand X0.here hx rfl (hb hby at_15) rfl) ?_
    show own_G p e below s _ _ _ (s₁.setTop (mkF m 16 #[.val (.int q0), .val (.int q1), .val (.long q2), .second, .val (.int q3), .val (.long q4), .second, .val (.int (0 : Int32)), .unset, .unset, .unset, .unset, .unset, .unset] [(.int (q0 &&& (2 : Int32)))]))
    by_cases hc16 : (q0 &&& (2 : Int32)) = (0 : Int32)
    · refine own_eqF (if_pos hc16) ?_
      refine own_go (fun _ => XS.ifYes X0.here hx rfl (pc0 := 16) (pc' := 23) rfl (hb hby at_16) rfl ((if0 _ _).trans (teq hc16).1) (by decide) (by decide)) ?_
      show own_G p e below s _ _ _ (s₁.setTop (mkF m 23 #[.val (.int q0), .val (.int q1), .val (.long q2), .second, .val (.int q3), .val (.long q4), .second, .val (.int (0 : Int32)), .unset, .unset, .unset, .unset, .unset, .unset] []))
      refine own_go (fun _ => XS.iconst X0.here hx rfl (hb hby at_23)) ?_
      show own_G p e below s _ _ _ (s₁.setTop (mkF m 24 #[.val (.int q0), .val (.int q1), .val (.long q2), .second, .val (.int q3), .val (.long q4), .second, .val (.int (0 : Int32)), .unset, .unset, .unset, .unset, .unset, .unset] [(.int (0 : Int32))]))
      refine own_go (fun _ => XS.istore X0.here hx rfl (hb hby at_24) rfl (l' := #[.val (.int q0), .val (.int q1), .val (.long q2), .second, .val (.int q3), .val (.long q4), .second, .val (.int (0 : Int32)), .val (.int (0 : Int32)), .unset, .unset, .unset, .unset, .unset]) rfl) ?_
      show own_G p e below s _ _ _ (s₁.setTop (mkF m 26 #[.val (.int q0), .val (.int q1), .val (.long q2), .second, .val (.int q3), .val (.long q4), .second, .val (.int (0 : Int32)), .val (.int (0 : Int32)), .unset, .unset, .unset, .unset, .unset] []))
      refine own_go (fun _ => XS.iload X0.here hx rfl (hb hby at_26) rfl) ?_
      show own_G p e below s _ _ _ (s₁.setTop (mkF m 28 #[.val (.int q0), .val (.int q1), .val (.long q2), .second, .val (.int q3), .val (.long q4), .second, .val (.int (0 : Int32)), .val (.int (0 : Int32)), .unset, .unset, .unset, .unset, .unset] [(.int (0 : Int32))]))
      refine own_go (fun _ => XS.ifYes X0.here hx rfl (pc0 := 28) (pc' := 35) rfl (hb hby at_28) rfl ((if0 _ _).trans (teq (by decide : (0 : Int32) = (0 : Int32))).1) (by decide) (by decide)) ?_
      show own_G p e below s _ _ _ (s₁.setTop (mkF m 35 #[.val (.int q0), .val (.int q1), .val (.long q2), .second, .val (.int q3), .val (.long q4), .second, .val (.int (0 : Int32)), .val (.int (0 : Int32)), .unset, .unset, .unset, .unset, .unset] []))
      obtain ⟨T1, h1, b1, X1, e1, E1, ga1, g1, z1, A1, D1, st1⟩ := own_newO X0 hx hZ hown (hw _ (List.mem_of_getElem? (i := 0) rfl)) (hw _ (List.mem_of_getElem? (i := 1) rfl)) (hw _ (List.mem_of_getElem? (i := 2) rfl)) e0 Z0 (g := (mkF m 35 #[.val (.int q0), .val (.int q1), .val (.long q2), .second, .val (.int q3), .val (.long q4), .second, .val (.int (0 : Int32)), .val (.int (0 : Int32)), .unset, .unset, .unset, .unset, .unset] [])) rfl (hb hby at_35) (by decide) (by decide)
      have Se2 := S0.ext E1
      have Fd3 : Fld Z h1 b1 "org/ripplelog/event/BinlogPosition" "file" "Ljava/lang/String;" .null := D1 (Or.inr (hw _ (List.mem_of_getElem? (i := 39) rfl))) (ty := (.object "java/lang/String")) (by decide)
      have Fd4 : Fld Z h1 b1 "org/ripplelog/event/BinlogPosition" "offset" "J" (.long (0 : Int64)) := D1 (Or.inr (hw _ (List.mem_of_getElem? (i := 41) rfl))) (ty := .long) (by decide)
      refine own_go (fun _ => st1 _) ?_
      show own_G p e below s _ _ _ (T1.setTop (mkF m 38 #[.val (.int q0), .val (.int q1), .val (.long q2), .second, .val (.int q3), .val (.long q4), .second, .val (.int (0 : Int32)), .val (.int (0 : Int32)), .unset, .unset, .unset, .unset, .unset] [(.ref b1)]))
      refine own_go (fun _ => XS.dup X1.here hx rfl (hb hby at_38) rfl rfl) ?_
      show own_G p e below s _ _ _ (T1.setTop (mkF m 39 #[.val (.int q0), .val (.int q1), .val (.long q2), .second, .val (.int q3), .val (.long q4), .second, .val (.int (0 : Int32)), .val (.int (0 : Int32)), .unset, .unset, .unset, .unset, .unset] [(.ref b1), (.ref b1)]))
      refine own_go (fun _ => XS.iloadN X1.here hx rfl (hb hby at_39) rfl) ?_
      show own_G p e below s _ _ _ (T1.setTop (mkF m 40 #[.val (.int q0), .val (.int q1), .val (.long q2), .second, .val (.int q3), .val (.long q4), .second, .val (.int (0 : Int32)), .val (.int (0 : Int32)), .unset, .unset, .unset, .unset, .unset] [(.int q1), (.ref b1), (.ref b1)]))
      refine own_go (fun _ => XS.sipush X1.here hx rfl (hb hby at_40)) ?_
      show own_G p e below s _ _ _ (T1.setTop (mkF m 43 #[.val (.int q0), .val (.int q1), .val (.long q2), .second, .val (.int q3), .val (.long q4), .second, .val (.int (0 : Int32)), .val (.int (0 : Int32)), .unset, .unset, .unset, .unset, .unset] [(.int (255 : Int32)), (.int q1), (.ref b1), (.ref b1)]))
      refine own_go (fun _ => XS.iand X1.here hx rfl (hb hby at_43) rfl) ?_
      show own_G p e below s _ _ _ (T1.setTop (mkF m 44 #[.val (.int q0), .val (.int q1), .val (.long q2), .second, .val (.int q3), .val (.long q4), .second, .val (.int (0 : Int32)), .val (.int (0 : Int32)), .unset, .unset, .unset, .unset, .unset] [(.int (q1 &&& (255 : Int32))), (.ref b1), (.ref b1)]))
      refine own_go (fun _ => XS.i2c X1.here hx rfl (hb hby at_44) rfl) ?_
      show own_G p e below s _ _ _ (T1.setTop (mkF m 45 #[.val (.int q0), .val (.int q1), .val (.long q2), .second, .val (.int q3), .val (.long q4), .second, .val (.int (0 : Int32)), .val (.int (0 : Int32)), .unset, .unset, .unset, .unset, .unset] [(.int (own_c (q1 &&& (255 : Int32)))), (.ref b1), (.ref b1)]))
      obtain ⟨T5, h5, L5, X5, e5, N5, P5, st5⟩ := own_callSW X1 hx hZ hown (hw _ (List.mem_of_getElem? (i := 3) rfl)) (hw _ (List.mem_of_getElem? (i := 4) rfl)) (hw _ (List.mem_of_getElem? (i := 5) rfl)) (hw _ (List.mem_of_getElem? (i := 6) rfl)) (by decide) (rm1 l Z a0 hw [] (own_c (q1 &&& (255 : Int32))) h1 n0 z1 (own_c255 _) cs hcs Se2) e1 (Fr.nil n0) (W := 2) (by decide) (by decide) (by decide) (by decide) (g := (mkF m 45 #[.val (.int q0), .val (.int q1), .val (.long q2), .second, .val (.int q3), .val (.long q4), .second, .val (.int (0 : Int32)), .val (.int (0 : Int32)), .unset, .unset, .unset, .unset, .unset] [(.int (own_c (q1 &&& (255 : Int32)))), (.ref b1), (.ref b1)])) rfl (by rw [hml]; rfl) (argsL := [(.int (own_c (q1 &&& (255 : Int32))))]) (rest := [(.ref b1), (.ref b1)]) (lenOf (by decide +kernel : parseMethodDescriptor "(C)Ljava/lang/String;" = some ⟨[.char], some (.object "java/lang/String")⟩) rfl) rfl rfl (by show 2 * 0 + _ ≤ _; exact Nat.le_of_eq rfl) (hb hby at_45)
      obtain ⟨sb6, gsb6⟩ : ∃ z, z = h1.size := ⟨_, rfl⟩
      rw [← gsb6] at st5
      have Sk7 := own_sta_keep0 Se2 P5
      have Ek8 := A1.keep P5
      have Fk9 := Fd3.keep P5 (fun q => nomatch q)
      have Fk10 := Fd4.keep P5 (fun q => nomatch q)
      have zk11 := Nat.le_trans z1 P5.1
      refine own_go (fun _ => st5 _) ?_
      show own_G p e below s _ _ _ (T5.setTop (mkF m 48 #[.val (.int q0), .val (.int q1), .val (.long q2), .second, .val (.int q3), .val (.long q4), .second, .val (.int (0 : Int32)), .val (.int (0 : Int32)), .unset, .unset, .unset, .unset, .unset] [(.ref sb6), (.ref b1), (.ref b1)]))
      refine own_go (fun _ => XS.lloadN X5.here hx rfl (hb hby at_48) rfl) ?_
      show own_G p e below s _ _ _ (T5.setTop (mkF m 49 #[.val (.int q0), .val (.int q1), .val (.long q2), .second, .val (.int q3), .val (.long q4), .second, .val (.int (0 : Int32)), .val (.int (0 : Int32)), .unset, .unset, .unset, .unset, .unset] [(.long q2), (.ref sb6), (.ref b1), (.ref b1)]))
      obtain ⟨T12, h12, L12, X12, e12, N12, P12, st12⟩ := own_callI X5 hx hZ rfl hown (hw _ (List.mem_of_getElem? (i := 29) rfl)) (hw _ (List.mem_of_getElem? (i := 30) rfl)) (hw _ (List.mem_of_getElem? (i := 31) rfl)) (hw _ (List.mem_of_getElem? (i := 2) rfl)) (by decide) (rm6 l Z a0 hw [] b1 sb6 q2 h5 n0 zk11 g1 Ek8 Fk9 Fk10) e5 N5 (W := 1) (by decide) (by decide) (by decide) (by decide) (g := (mkF m 49 #[.val (.int q0), .val (.int q1), .val (.long q2), .second, .val (.int q3), .val (.long q4), .second, .val (.int (0 : Int32)), .val (.int (0 : Int32)), .unset, .unset, .unset, .unset, .unset] [(.long q2), (.ref sb6), (.ref b1), (.ref b1)])) rfl (by rw [hml]; rfl) (argsL := [(.ref sb6), (.long q2)]) (rest := [(.ref b1)]) (lenOf (by decide +kernel : parseMethodDescriptor "(Ljava/lang/String;J)V" = some ⟨[(.object "java/lang/String"), .long], none⟩) rfl) rfl rfl (by show 2 * 0 + _ ≤ _; exact Nat.le_of_eq rfl) (hb hby at_49)
      obtain ⟨K12, Ec12, Fc12_0, Fc12_1⟩ := P12
      have Sk13 := own_sta_keep Sk7 Ek8 K12
      have Ek14 := Ek8.keep K12
      have zk15 := Nat.le_trans zk11 K12.1
      refine own_go (fun _ => st12 _) ?_
      show own_G p e below s _ _ _ (T12.setTop (mkF m 52 #[.val (.int q0), .val (.int q1), .val (.long q2), .second, .val (.int q3), .val (.long q4), .second, .val (.int (0 : Int32)), .val (.int (0 : Int32)), .unset, .unset, .unset, .unset, .unset] [(.ref b1)]))
      refine own_go (fun _ => XS.astore X12.here hx rfl (hb hby at_52) rfl rfl (l' := #[.val (.int q0), .val (.int q1), .val (.long q2), .second, .val (.int q3), .val (.long q4), .second, .val (.int (0 : Int32)), .val (.int (0 : Int32)), .val (.ref b1), .unset, .unset, .unset, .unset]) rfl) ?_
      show own_G p e below s _ _ _ (T12.setTop (mkF m 54 #[.val (.int q0), .val (.int q1), .val (.long q2), .second, .val (.int q3), .val (.long q4), .second, .val (.int (0 : Int32)), .val (.int (0 : Int32)), .val (.ref b1), .unset, .unset, .unset, .unset] []))
      refine own_go (fun _ => XS.iload X12.here hx rfl (hb hby at_54) rfl) ?_
      show own_G p e below s _ _ _ (T12.setTop (mkF m 56 #[.val (.int q0), .val (.int q1), .val (.long q2), .second, .val (.int q3), .val (.long q4), .second, .val (.int (0 : Int32)), .val (.int (0 : Int32)), .val (.ref b1), .unset, .unset, .unset, .unset] [(.int (0 : Int32))]))
      refine own_go (fun _ => XS.ifYes X12.here hx rfl (pc0 := 56) (pc' := 63) rfl (hb hby at_56) rfl ((if0 _ _).trans (teq (by decide : (0 : Int32) = (0 : Int32))).1) (by decide) (by decide)) ?_
      show own_G p e below s _ _ _ (T12.setTop (mkF m 63 #[.val (.int q0), .val (.int q1), .val (.long q2), .second, .val (.int q3), .val (.long q4), .second, .val (.int (0 : Int32)), .val (.int (0 : Int32)), .val (.ref b1), .unset, .unset, .unset, .unset] []))
      obtain ⟨T16, h16, b16, X16, e16, E16, ga16, g16, z16, A16, D16, st16⟩ := own_newO X12 hx hZ hown (hw _ (List.mem_of_getElem? (i := 0) rfl)) (hw _ (List.mem_of_getElem? (i := 1) rfl)) (hw _ (List.mem_of_getElem? (i := 2) rfl)) e12 zk15 (g := (mkF m 63 #[.val (.int q0), .val (.int q1), .val (.long q2), .second, .val (.int q3), .val (.long q4), .second, .val (.int (0 : Int32)), .val (.int (0 : Int32)), .val (.ref b1), .unset, .unset, .unset, .unset] [])) rfl (hb hby at_63) (by decide) (by decide)
      have ne17 : b1 ≠ b16 := Nat.ne_of_lt (Nat.lt_of_lt_of_eq Ec12.lt ga16.symm)
      have Ee18 := Ec12.ext E16
      have Fe19 := Fc12_0.ext E16
      have Fe20 := Fc12_1.ext E16
      have Se21 := Sk13.ext E16
      have Fd22 : Fld Z h16 b16 "org/ripplelog/event/BinlogPosition" "file" "Ljava/lang/String;" .null := D16 (Or.inr (hw _ (List.mem_of_getElem? (i := 39) rfl))) (ty := (.object "java/lang/String")) (by decide)
      have Fd23 : Fld Z h16 b16 "org/ripplelog/event/BinlogPosition" "offset" "J" (.long (0 : Int64)) := D16 (Or.inr (hw _ (List.mem_of_getElem? (i := 41) rfl))) (ty := .long) (by decide)
      refine own_go (fun _ => st16 _) ?_
      show own_G p e below s _ _ _ (T16.setTop (mkF m 66 #[.val (.int q0), .val (.int q1), .val (.long q2), .second, .val (.int q3), .val (.long q4), .second, .val (.int (0 : Int32)), .val (.int (0 : Int32)), .val (.ref b1), .unset, .unset, .unset, .unset] [(.ref b16)]))
      refine own_go (fun _ => XS.dup X16.here hx rfl (hb hby at_66) rfl rfl) ?_
      show own_G p e below s _ _ _ (T16.setTop (mkF m 67 #[.val (.int q0), .val (.int q1), .val (.long q2), .second, .val (.int q3), .val (.long q4), .second, .val (.int (0 : Int32)), .val (.int (0 : Int32)), .val (.ref b1), .unset, .unset, .unset, .unset] [(.ref b16), (.ref b16)]))
      refine own_go (fun _ => XS.iload X16.here hx rfl (hb hby at_67) rfl) ?_
      show own_G p e below s _ _ _ (T16.setTop (mkF m 69 #[.val (.int q0), .val (.int q1), .val (.long q2), .second, .val (.int q3), .val (.long q4), .second, .val (.int (0 : Int32)), .val (.int (0 : Int32)), .val (.ref b1), .unset, .unset, .unset, .unset] [(.int q3), (.ref b16), (.ref b16)]))
      refine own_go (fun _ => XS.sipush X16.here hx rfl (hb hby at_69)) ?_
      show own_G p e below s _ _ _ (T16.setTop (mkF m 72 #[.val (.int q0), .val (.int q1), .val (.long q2), .second, .val (.int q3), .val (.long q4), .second, .val (.int (0 : Int32)), .val (.int (0 : Int32)), .val (.ref b1), .unset, .unset, .unset, .unset] [(.int (255 : Int32)), (.int q3), (.ref b16), (.ref b16)]))
      refine own_go (fun _ => XS.iand X16.here hx rfl (hb hby at_72) rfl) ?_
      show own_G p e below s _ _ _ (T16.setTop (mkF m 73 #[.val (.int q0), .val (.int q1), .val (.long q2), .second, .val (.int q3), .val (.long q4), .second, .val (.int (0 : Int32)), .val (.int (0 : Int32)), .val (.ref b1), .unset, .unset, .unset, .unset] [(.int (q3 &&& (255 : Int32))), (.ref b16), (.ref b16)]))
      refine own_go (fun _ => XS.i2c X16.here hx rfl (hb hby at_73) rfl) ?_
      show own_G p e below s _ _ _ (T16.setTop (mkF m 74 #[.val (.int q0), .val (.int q1), .val (.long q2), .second, .val (.int q3), .val (.long q4), .second, .val (.int (0 : Int32)), .val (.int (0 : Int32)), .val (.ref b1), .unset, .unset, .unset, .unset] [(.int (own_c (q3 &&& (255 : Int32)))), (.ref b16), (.ref b16)]))
      obtain ⟨T24, h24, L24, X24, e24, N24, P24, st24⟩ := own_callSW X16 hx hZ hown (hw _ (List.mem_of_getElem? (i := 3) rfl)) (hw _ (List.mem_of_getElem? (i := 4) rfl)) (hw _ (List.mem_of_getElem? (i := 5) rfl)) (hw _ (List.mem_of_getElem? (i := 6) rfl)) (by decide) (rm1 l Z a0 hw [] (own_c (q3 &&& (255 : Int32))) h16 n0 z16 (own_c255 _) cs hcs Se21) e16 N12 (W := 2) (by decide) (by decide) (by decide) (by decide) (g := (mkF m 74 #[.val (.int q0), .val (.int q1), .val (.long q2), .second, .val (.int q3), .val (.long q4), .second, .val (.int (0 : Int32)), .val (.int (0 : Int32)), .val (.ref b1), .unset, .unset, .unset, .unset] [(.int (own_c (q3 &&& (255 : Int32)))), (.ref b16), (.ref b16)])) rfl (by rw [hml]; rfl) (argsL := [(.int (own_c (q3 &&& (255 : Int32))))]) (rest := [(.ref b16), (.ref b16)]) (lenOf (by decide +kernel : parseMethodDescriptor "(C)Ljava/lang/String;" = some ⟨[.char], some (.object "java/lang/String")⟩) rfl) rfl rfl (by show 2 * 0 + _ ≤ _; exact Nat.le_of_eq rfl) (hb hby at_74)
      obtain ⟨sb25, gsb25⟩ : ∃ z, z = h16.size := ⟨_, rfl⟩
      rw [← gsb25] at st24
      have Sk26 := own_sta_keep0 Se21 P24
      have Ek27 := Ee18.keep P24
      have Ek28 := A16.keep P24
      have Fk29 := Fe19.keep P24 (fun q => nomatch q)
      have Fk30 := Fe20.keep P24 (fun q => nomatch q)
      have Fk31 := Fd22.keep P24 (fun q => nomatch q)
      have Fk32 := Fd23.keep P24 (fun q => nomatch q)
      have zk33 := Nat.le_trans z16 P24.1
      refine own_go (fun _ => st24 _) ?_
      show own_G p e below s _ _ _ (T24.setTop (mkF m 77 #[.val (.int q0), .val (.int q1), .val (.long q2), .second, .val (.int q3), .val (.long q4), .second, .val (.int (0 : Int32)), .val (.int (0 : Int32)), .val (.ref b1), .unset, .unset, .unset, .unset] [(.ref sb25), (.ref b16), (.ref b16)]))
      refine own_go (fun _ => XS.lload X24.here hx rfl (hb hby at_77) rfl) ?_
      show own_G p e below s _ _ _ (T24.setTop (mkF m 79 #[.val (.int q0), .val (.int q1), .val (.long q2), .second, .val (.int q3), .val (.long q4), .second, .val (.int (0 : Int32)), .val (.int (0 : Int32)), .val (.ref b1), .unset, .unset, .unset, .unset] [(.long q4), (.ref sb25), (.ref b16), (.ref b16)]))
      obtain ⟨T34, h34, L34, X34, e34, N34, P34, st34⟩ := own_callI X24 hx hZ rfl hown (hw _ (List.mem_of_getElem? (i := 29) rfl)) (hw _ (List.mem_of_getElem? (i := 30) rfl)) (hw _ (List.mem_of_getElem? (i := 31) rfl)) (hw _ (List.mem_of_getElem? (i := 2) rfl)) (by decide) (rm6 l Z a0 hw [] b16 sb25 q4 h24 n0 zk33 g16 Ek28 Fk31 Fk32) e24 N24 (W := 1) (by decide) (by decide) (by decide) (by decide) (g := (mkF m 79 #[.val (.int q0), .val (.int q1), .val (.long q2), .second, .val (.int q3), .val (.long q4), .second, .val (.int (0 : Int32)), .val (.int (0 : Int32)), .val (.ref b1), .unset, .unset, .unset, .unset] [(.long q4), (.ref sb25), (.ref b16), (.ref b16)])) rfl (by rw [hml]; rfl) (argsL := [(.ref sb25), (.long q4)]) (rest := [(.ref b16)]) (lenOf (by decide +kernel : parseMethodDescriptor "(Ljava/lang/String;J)V" = some ⟨[(.object "java/lang/String"), .long], none⟩) rfl) rfl rfl (by show 2 * 0 + _ ≤ _; exact Nat.le_of_eq rfl) (hb hby at_79)
      obtain ⟨K34, Ec34, Fc34_0, Fc34_1⟩ := P34
      have Sk35 := own_sta_keep Sk26 Ek28 K34
      have Ek36 := Ek27.keep K34
      have Ek37 := Ek28.keep K34
      have Fk38 := Fk29.keep K34 (fun q => ne17 (List.mem_singleton.mp q))
      have Fk39 := Fk30.keep K34 (fun q => ne17 (List.mem_singleton.mp q))
      have zk40 := Nat.le_trans zk33 K34.1
      refine own_go (fun _ => st34 _) ?_
      show own_G p e below s _ _ _ (T34.setTop (mkF m 82 #[.val (.int q0), .val (.int q1), .val (.long q2), .second, .val (.int q3), .val (.long q4), .second, .val (.int (0 : Int32)), .val (.int (0 : Int32)), .val (.ref b1), .unset, .unset, .unset, .unset] [(.ref b16)]))
      refine own_go (fun _ => XS.astore X34.here hx rfl (hb hby at_82) rfl rfl (l' := #[.val (.int q0), .val (.int q1), .val (.long q2), .second, .val (.int q3), .val (.long q4), .second, .val (.int (0 : Int32)), .val (.int (0 : Int32)), .val (.ref b1), .val (.ref b16), .unset, .unset, .unset]) rfl) ?_
      show own_G p e below s _ _ _ (T34.setTop (mkF m 84 #[.val (.int q0), .val (.int q1), .val (.long q2), .second, .val (.int q3), .val (.long q4), .second, .val (.int (0 : Int32)), .val (.int (0 : Int32)), .val (.ref b1), .val (.ref b16), .unset, .unset, .unset] []))
      obtain ⟨T41, h41, b41, X41, e41, E41, ga41, g41, z41, A41, D41, st41⟩ := own_newO X34 hx hZ hown (hw _ (List.mem_of_getElem? (i := 42) rfl)) (hw _ (List.mem_of_getElem? (i := 43) rfl)) (hw _ (List.mem_of_getElem? (i := 44) rfl)) e34 zk40 (g := (mkF m 84 #[.val (.int q0), .val (.int q1), .val (.long q2), .second, .val (.int q3), .val (.long q4), .second, .val (.int (0 : Int32)), .val (.int (0 : Int32)), .val (.ref b1), .val (.ref b16), .unset, .unset, .unset] [])) rfl (hb hby at_84) (by decide) (by decide)
      have ne42 : b1 ≠ b41 := Nat.ne_of_lt (Nat.lt_of_lt_of_eq Ek36.lt ga41.symm)
      have ne43 : b16 ≠ b41 := Nat.ne_of_lt (Nat.lt_of_lt_of_eq Ec34.lt ga41.symm)
      have Ee44 := Ek36.ext E41
      have Ee45 := Ec34.ext E41
      have Fe46 := Fk38.ext E41
      have Fe47 := Fk39.ext E41
      have Fe48 := Fc34_0.ext E41
      have Fe49 := Fc34_1.ext E41
      have Se50 := Sk35.ext E41
      have Fd51 : Fld Z h41 b41 "org/ripplelog/event/ResumePoint" "position" "Lorg/ripplelog/event/BinlogPosition;" .null := D41 (Or.inr (hw _ (List.mem_of_getElem? (i := 50) rfl))) (ty := (.object "org/ripplelog/event/BinlogPosition")) (by decide)
      have Fd52 : Fld Z h41 b41 "org/ripplelog/event/ResumePoint" "prepared" "Lorg/ripplelog/event/BinlogPosition;" .null := D41 (Or.inr (hw _ (List.mem_of_getElem? (i := 52) rfl))) (ty := (.object "org/ripplelog/event/BinlogPosition")) (by decide)
      refine own_go (fun _ => st41 _) ?_
      show own_G p e below s _ _ _ (T41.setTop (mkF m 87 #[.val (.int q0), .val (.int q1), .val (.long q2), .second, .val (.int q3), .val (.long q4), .second, .val (.int (0 : Int32)), .val (.int (0 : Int32)), .val (.ref b1), .val (.ref b16), .unset, .unset, .unset] [(.ref b41)]))
      refine own_go (fun _ => XS.dup X41.here hx rfl (hb hby at_87) rfl rfl) ?_
      show own_G p e below s _ _ _ (T41.setTop (mkF m 88 #[.val (.int q0), .val (.int q1), .val (.long q2), .second, .val (.int q3), .val (.long q4), .second, .val (.int (0 : Int32)), .val (.int (0 : Int32)), .val (.ref b1), .val (.ref b16), .unset, .unset, .unset] [(.ref b41), (.ref b41)]))
      refine own_go (fun _ => XS.aload X41.here hx rfl (hb hby at_88) rfl rfl) ?_
      show own_G p e below s _ _ _ (T41.setTop (mkF m 90 #[.val (.int q0), .val (.int q1), .val (.long q2), .second, .val (.int q3), .val (.long q4), .second, .val (.int (0 : Int32)), .val (.int (0 : Int32)), .val (.ref b1), .val (.ref b16), .unset, .unset, .unset] [(.ref b1), (.ref b41), (.ref b41)]))
      refine own_go (fun _ => XS.aload X41.here hx rfl (hb hby at_90) rfl rfl) ?_
      show own_G p e below s _ _ _ (T41.setTop (mkF m 92 #[.val (.int q0), .val (.int q1), .val (.long q2), .second, .val (.int q3), .val (.long q4), .second, .val (.int (0 : Int32)), .val (.int (0 : Int32)), .val (.ref b1), .val (.ref b16), .unset, .unset, .unset] [(.ref b16), (.ref b1), (.ref b41), (.ref b41)]))
      obtain ⟨T53, h53, L53, X53, e53, N53, P53, st53⟩ := own_callI X41 hx hZ rfl hown (hw _ (List.mem_of_getElem? (i := 45) rfl)) (hw _ (List.mem_of_getElem? (i := 46) rfl)) (hw _ (List.mem_of_getElem? (i := 47) rfl)) (hw _ (List.mem_of_getElem? (i := 44) rfl)) (by decide) (rm8 l Z a0 hw [] b41 (.ref b1) (.ref b16) h41 n0 z41 g41 A41 Fd51 Fd52 rfl rfl) e41 N34 (W := 1) (by decide) (by decide) (by decide) (by decide) (g := (mkF m 92 #[.val (.int q0), .val (.int q1), .val (.long q2), .second, .val (.int q3), .val (.long q4), .second, .val (.int (0 : Int32)), .val (.int (0 : Int32)), .val (.ref b1), .val (.ref b16), .unset, .unset, .unset] [(.ref b16), (.ref b1), (.ref b41), (.ref b41)])) rfl (by rw [hml]; rfl) (argsL := [(.ref b1), (.ref b16)]) (rest := [(.ref b41)]) (lenOf (by decide +kernel : parseMethodDescriptor "(Lorg/ripplelog/event/BinlogPosition;Lorg/ripplelog/event/BinlogPosition;)V" = some ⟨[(.object "org/ripplelog/event/BinlogPosition"), (.object "org/ripplelog/event/BinlogPosition")], none⟩) rfl) rfl rfl (by show 2 * 0 + _ ≤ _; exact Nat.le_of_eq rfl) (hb hby at_92)
      obtain ⟨K53, Ec53, Fc53_0, Fc53_1⟩ := P53
      have Sk54 := own_sta_keep Se50 A41 K53
      have Ek55 := Ee44.keep K53
      have Ek56 := Ee45.keep K53
      have Ek57 := A41.keep K53
      have Fk58 := Fe46.keep K53 (fun q => ne42 (List.mem_singleton.mp q))
      have Fk59 := Fe47.keep K53 (fun q => ne42 (List.mem_singleton.mp q))
      have Fk60 := Fe48.keep K53 (fun q => ne43 (List.mem_singleton.mp q))
      have Fk61 := Fe49.keep K53 (fun q => ne43 (List.mem_singleton.mp q))
      have zk62 := Nat.le_trans z41 K53.1
      refine own_go (fun _ => st53 _) ?_
      show own_G p e below s _ _ _ (T53.setTop (mkF m 95 #[.val (.int q0), .val (.int q1), .val (.long q2), .second, .val (.int q3), .val (.long q4), .second, .val (.int (0 : Int32)), .val (.int (0 : Int32)), .val (.ref b1), .val (.ref b16), .unset, .unset, .unset] [(.ref b41)]))
      refine own_go (fun _ => XS.astore X53.here hx rfl (hb hby at_95) rfl rfl (l' := #[.val (.int q0), .val (.int q1), .val (.long q2), .second, .val (.int q3), .val (.long q4), .second, .val (.int (0 : Int32)), .val (.int (0 : Int32)), .val (.ref b1), .val (.ref b16), .val (.ref b41), .unset, .unset]) rfl) ?_
      show own_G p e below s _ _ _ (T53.setTop (mkF m 97 #[.val (.int q0), .val (.int q1), .val (.long q2), .second, .val (.int q3), .val (.long q4), .second, .val (.int (0 : Int32)), .val (.int (0 : Int32)), .val (.ref b1), .val (.ref b16), .val (.ref b41), .unset, .unset] []))
      refine own_go (fun _ => XS.aload X53.here hx rfl (hb hby at_97) rfl rfl) ?_
      show own_G p e below s _ _ _ (T53.setTop (mkF m 99 #[.val (.int q0), .val (.int q1), .val (.long q2), .second, .val (.int q3), .val (.long q4), .second, .val (.int (0 : Int32)), .val (.int (0 : Int32)), .val (.ref b1), .val (.ref b16), .val (.ref b41), .unset, .unset] [(.ref b41)]))
      obtain ⟨T63, X63, e63, st63⟩ := own_callV X53 hx hZ hown (hw _ (List.mem_of_getElem? (i := 53) rfl)) (hw _ (List.mem_of_getElem? (i := 54) rfl)) (hw _ (List.mem_of_getElem? (i := 56) rfl)) (hw _ (List.mem_of_getElem? (i := 55) rfl)) (hw _ (List.mem_of_getElem? (i := 57) rfl)) (hw _ (List.mem_of_getElem? (i := 44) rfl)) (by decide) (rm9r l Z a0 hw [] b41 h53 b16 Fc53_1) rfl rfl e53 Ec53 (W := 0) (by decide) (by decide) (by decide) (by decide) (g := (mkF m 99 #[.val (.int q0), .val (.int q1), .val (.long q2), .second, .val (.int q3), .val (.long q4), .second, .val (.int (0 : Int32)), .val (.int (0 : Int32)), .val (.ref b1), .val (.ref b16), .val (.ref b41), .unset, .unset] [(.ref b41)])) rfl (by rw [hml]; rfl) (argsL := []) (rest := []) (lenOf (by decide +kernel : parseMethodDescriptor "()Lorg/ripplelog/event/BinlogPosition;" = some ⟨[], some (.object "org/ripplelog/event/BinlogPosition")⟩) rfl) rfl rfl (by show 2 * 0 + _ ≤ _; exact Nat.le_of_eq rfl) (hb hby at_99)
      refine own_go (fun _ => st63 _) ?_
      show own_G p e below s _ _ _ (T63.setTop (mkF m 102 #[.val (.int q0), .val (.int q1), .val (.long q2), .second, .val (.int q3), .val (.long q4), .second, .val (.int (0 : Int32)), .val (.int (0 : Int32)), .val (.ref b1), .val (.ref b16), .val (.ref b41), .unset, .unset] [(.ref b16)]))
      refine own_go (fun _ => XS.astore X63.here hx rfl (hb hby at_102) rfl rfl (l' := #[.val (.int q0), .val (.int q1), .val (.long q2), .second, .val (.int q3), .val (.long q4), .second, .val (.int (0 : Int32)), .val (.int (0 : Int32)), .val (.ref b1), .val (.ref b16), .val (.ref b41), .val (.ref b16), .unset]) rfl) ?_
      show own_G p e below s _ _ _ (T63.setTop (mkF m 104 #[.val (.int q0), .val (.int q1), .val (.long q2), .second, .val (.int q3), .val (.long q4), .second, .val (.int (0 : Int32)), .val (.int (0 : Int32)), .val (.ref b1), .val (.ref b16), .val (.ref b41), .val (.ref b16), .unset] []))
      refine own_go (fun _ => XS.aload X63.here hx rfl (hb hby at_104) rfl rfl) ?_
      show own_G p e below s _ _ _ (T63.setTop (mkF m 106 #[.val (.int q0), .val (.int q1), .val (.long q2), .second, .val (.int q3), .val (.long q4), .second, .val (.int (0 : Int32)), .val (.int (0 : Int32)), .val (.ref b1), .val (.ref b16), .val (.ref b41), .val (.ref b16), .unset] [(.ref b41)]))
      obtain ⟨T64, X64, e64, st64⟩ := own_callV X63 hx hZ hown (hw _ (List.mem_of_getElem? (i := 53) rfl)) (hw _ (List.mem_of_getElem? (i := 54) rfl)) (hw _ (List.mem_of_getElem? (i := 56) rfl)) (hw _ (List.mem_of_getElem? (i := 55) rfl)) (hw _ (List.mem_of_getElem? (i := 57) rfl)) (hw _ (List.mem_of_getElem? (i := 44) rfl)) (by decide) (rm9r l Z a0 hw [] b41 h53 b16 Fc53_1) rfl rfl e63 Ec53 (W := 0) (by decide) (by decide) (by decide) (by decide) (g := (mkF m 106 #[.val (.int q0), .val (.int q1), .val (.long q2), .second, .val (.int q3), .val (.long q4), .second, .val (.int (0 : Int32)), .val (.int (0 : Int32)), .val (.ref b1), .val (.ref b16), .val (.ref b41), .val (.ref b16), .unset] [(.ref b41)])) rfl (by rw [hml]; rfl) (argsL := []) (rest := []) (lenOf (by decide +kernel : parseMethodDescriptor "()Lorg/ripplelog/event/BinlogPosition;" = some ⟨[], some (.object "org/ripplelog/event/BinlogPosition")⟩) rfl) rfl rfl (by show 2 * 0 + _ ≤ _; exact Nat.le_of_eq rfl) (hb hby at_106)
      refine own_go (fun _ => st64 _) ?_
      show own_G p e below s _ _ _ (T64.setTop (mkF m 109 #[.val (.int q0), .val (.int q1), .val (.long q2), .second, .val (.int q3), .val (.long q4), .second, .val (.int (0 : Int32)), .val (.int (0 : Int32)), .val (.ref b1), .val (.ref b16), .val (.ref b41), .val (.ref b16), .unset] [(.ref b16)]))
      refine own_go (fun _ => XS.astore X64.here hx rfl (hb hby at_109) rfl rfl (l' := #[.val (.int q0), .val (.int q1), .val (.long q2), .second, .val (.int q3), .val (.long q4), .second, .val (.int (0 : Int32)), .val (.int (0 : Int32)), .val (.ref b1), .val (.ref b16), .val (.ref b41), .val (.ref b16), .val (.ref b16)]) rfl) ?_
      show own_G p e below s _ _ _ (T64.setTop (mkF m 111 #[.val (.int q0), .val (.int q1), .val (.long q2), .second, .val (.int q3), .val (.long q4), .second, .val (.int (0 : Int32)), .val (.int (0 : Int32)), .val (.ref b1), .val (.ref b16), .val (.ref b41), .val (.ref b16), .val (.ref b16)] []))
      refine own_go (fun _ => XS.aload X64.here hx rfl (hb hby at_111) rfl rfl) ?_
      show own_G p e below s _ _ _ (T64.setTop (mkF m 113 #[.val (.int q0), .val (.int q1), .val (.long q2), .second, .val (.int q3), .val (.long q4), .second, .val (.int (0 : Int32)), .val (.int (0 : Int32)), .val (.ref b1), .val (.ref b16), .val (.ref b41), .val (.ref b16), .val (.ref b16)] [(.ref b16)]))
      refine own_go (fun _ => XS.aload X64.here hx rfl (hb hby at_113) rfl rfl) ?_
      show own_G p e below s _ _ _ (T64.setTop (mkF m 115 #[.val (.int q0), .val (.int q1), .val (.long q2), .second, .val (.int q3), .val (.long q4), .second, .val (.int (0 : Int32)), .val (.int (0 : Int32)), .val (.ref b1), .val (.ref b16), .val (.ref b41), .val (.ref b16), .val (.ref b16)] [(.ref b16), (.ref b16)]))
      refine own_go (fun _ => Jvm.RoadKit.acmp (g := (mkF m 115 #[.val (.int q0), .val (.int q1), .val (.long q2), .second, .val (.int q3), .val (.long q4), .second, .val (.int (0 : Int32)), .val (.int (0 : Int32)), .val (.ref b1), .val (.ref b16), .val (.ref b41), .val (.ref b16), .val (.ref b16)] [(.ref b16), (.ref b16)])) X64 hx rfl rfl rfl (pc0 := 115) (pc' := 120) (same := true) rfl (hb hby at_115) rfl (decide_eq_true rfl) (by decide) (by decide)) ?_
      show own_G p e below s _ _ _ (T64.setTop (mkF m 120 #[.val (.int q0), .val (.int q1), .val (.long q2), .second, .val (.int q3), .val (.long q4), .second, .val (.int (0 : Int32)), .val (.int (0 : Int32)), .val (.ref b1), .val (.ref b16), .val (.ref b41), .val (.ref b16), .val (.ref b16)] []))
      refine own_go (fun _ => XS.aload X64.here hx rfl (hb hby at_120) rfl rfl) ?_
      show own_G p e below s _ _ _ (T64.setTop (mkF m 122 #[.val (.int q0), .val (.int q1), .val (.long q2), .second, .val (.int q3), .val (.long q4), .second, .val (.int (0 : Int32)), .val (.int (0 : Int32)), .val (.ref b1), .val (.ref b16), .val (.ref b41), .val (.ref b16), .val (.ref b16)] [(.ref b41)]))
      obtain ⟨T65, X65, e65, st65⟩ := own_callV X64 hx hZ hown (hw _ (List.mem_of_getElem? (i := 58) rfl)) (hw _ (List.mem_of_getElem? (i := 59) rfl)) (hw _ (List.mem_of_getElem? (i := 61) rfl)) (hw _ (List.mem_of_getElem? (i := 60) rfl)) (hw _ (List.mem_of_getElem? (i := 62) rfl)) (hw _ (List.mem_of_getElem? (i := 44) rfl)) (by decide) (rm10 l Z a0 hw [] b41 h53 (.ref b1) rfl Fc53_0) rfl rfl e64 Ec53 (W := 0) (by decide) (by decide) (by decide) (by decide) (g := (mkF m 122 #[.val (.int q0), .val (.int q1), .val (.long q2), .second, .val (.int q3), .val (.long q4), .second, .val (.int (0 : Int32)), .val (.int (0 : Int32)), .val (.ref b1), .val (.ref b16), .val (.ref b41), .val (.ref b16), .val (.ref b16)] [(.ref b41)])) rfl (by rw [hml]; rfl) (argsL := []) (rest := []) (lenOf (by decide +kernel : parseMethodDescriptor "()Lorg/ripplelog/event/BinlogPosition;" = some ⟨[], some (.object "org/ripplelog/event/BinlogPosition")⟩) rfl) rfl rfl (by show 2 * 0 + _ ≤ _; exact Nat.le_of_eq rfl) (hb hby at_122)
      refine own_go (fun _ => st65 _) ?_
      show own_G p e below s _ _ _ (T65.setTop (mkF m 125 #[.val (.int q0), .val (.int q1), .val (.long q2), .second, .val (.int q3), .val (.long q4), .second, .val (.int (0 : Int32)), .val (.int (0 : Int32)), .val (.ref b1), .val (.ref b16), .val (.ref b41), .val (.ref b16), .val (.ref b16)] [(.ref b1)]))
      refine own_go (fun _ => XS.aload X65.here hx rfl (hb hby at_125) rfl rfl) ?_
      show own_G p e below s _ _ _ (T65.setTop (mkF m 127 #[.val (.int q0), .val (.int q1), .val (.long q2), .second, .val (.int q3), .val (.long q4), .second, .val (.int (0 : Int32)), .val (.int (0 : Int32)), .val (.ref b1), .val (.ref b16), .val (.ref b41), .val (.ref b16), .val (.ref b16)] [(.ref b1), (.ref b1)]))
      refine own_go (fun _ => Jvm.RoadKit.acmp (g := (mkF m 127 #[.val (.int q0), .val (.int q1), .val (.long q2), .second, .val (.int q3), .val (.long q4), .second, .val (.int (0 : Int32)), .val (.int (0 : Int32)), .val (.ref b1), .val (.ref b16), .val (.ref b41), .val (.ref b16), .val (.ref b16)] [(.ref b1), (.ref b1)])) X65 hx rfl rfl rfl (pc0 := 127) (pc' := 130) (same := true) rfl (hb hby at_127) rfl (decide_eq_true rfl) (by decide) (by decide)) ?_
      show own_G p e below s _ _ _ (T65.setTop (mkF m 130 #[.val (.int q0), .val (.int q1), .val (.long q2), .second, .val (.int q3), .val (.long q4), .second, .val (.int (0 : Int32)), .val (.int (0 : Int32)), .val (.ref b1), .val (.ref b16), .val (.ref b41), .val (.ref b16), .val (.ref b16)] []))
      refine own_go (fun _ => XS.aload X65.here hx rfl (hb hby at_130) rfl rfl) ?_
      show own_G p e below s _ _ _ (T65.setTop (mkF m 132 #[.val (.int q0), .val (.int q1), .val (.long q2), .second, .val (.int q3), .val (.long q4), .second, .val (.int (0 : Int32)), .val (.int (0 : Int32)), .val (.ref b1), .val (.ref b16), .val (.ref b41), .val (.ref b16), .val (.ref b16)] [(.ref b41)]))
      obtain ⟨T66, X66, e66, st66⟩ := own_callV X65 hx hZ hown (hw _ (List.mem_of_getElem? (i := 63) rfl)) (hw _ (List.mem_of_getElem? (i := 64) rfl)) (hw _ (List.mem_of_getElem? (i := 66) rfl)) (hw _ (List.mem_of_getElem? (i := 65) rfl)) (hw _ (List.mem_of_getElem? (i := 67) rfl)) (hw _ (List.mem_of_getElem? (i := 44) rfl)) (by decide) (rm11 l Z a0 hw [] b41 h53 (.ref b16) rfl Fc53_1) rfl rfl e65 Ec53 (W := 0) (by decide) (by decide) (by decide) (by decide) (g := (mkF m 132 #[.val (.int q0), .val (.int q1), .val (.long q2), .second, .val (.int q3), .val (.long q4), .second, .val (.int (0 : Int32)), .val (.int (0 : Int32)), .val (.ref b1), .val (.ref b16), .val (.ref b41), .val (.ref b16), .val (.ref b16)] [(.ref b41)])) rfl (by rw [hml]; rfl) (argsL := []) (rest := []) (lenOf (by decide +kernel : parseMethodDescriptor "()Lorg/ripplelog/event/BinlogPosition;" = some ⟨[], some (.object "org/ripplelog/event/BinlogPosition")⟩) rfl) rfl rfl (by show 2 * 0 + _ ≤ _; exact Nat.le_of_eq rfl) (hb hby at_132)
      refine own_go (fun _ => st66 _) ?_
      show own_G p e below s _ _ _ (T66.setTop (mkF m 135 #[.val (.int q0), .val (.int q1), .val (.long q2), .second, .val (.int q3), .val (.long q4), .second, .val (.int (0 : Int32)), .val (.int (0 : Int32)), .val (.ref b1), .val (.ref b16), .val (.ref b41), .val (.ref b16), .val (.ref b16)] [(.ref b16)]))
      refine own_go (fun _ => XS.aload X66.here hx rfl (hb hby at_135) rfl rfl) ?_
      show own_G p e below s _ _ _ (T66.setTop (mkF m 137 #[.val (.int q0), .val (.int q1), .val (.long q2), .second, .val (.int q3), .val (.long q4), .second, .val (.int (0 : Int32)), .val (.int (0 : Int32)), .val (.ref b1), .val (.ref b16), .val (.ref b41), .val (.ref b16), .val (.ref b16)] [(.ref b16), (.ref b16)]))
      refine own_go (fun _ => Jvm.RoadKit.acmp (g := (mkF m 137 #[.val (.int q0), .val (.int q1), .val (.long q2), .second, .val (.int q3), .val (.long q4), .second, .val (.int (0 : Int32)), .val (.int (0 : Int32)), .val (.ref b1), .val (.ref b16), .val (.ref b41), .val (.ref b16), .val (.ref b16)] [(.ref b16), (.ref b16)])) X66 hx rfl rfl rfl (pc0 := 137) (pc' := 142) (same := true) rfl (hb hby at_137) rfl (decide_eq_true rfl) (by decide) (by decide)) ?_
      show own_G p e below s _ _ _ (T66.setTop (mkF m 142 #[.val (.int q0), .val (.int q1), .val (.long q2), .second, .val (.int q3), .val (.long q4), .second, .val (.int (0 : Int32)), .val (.int (0 : Int32)), .val (.ref b1), .val (.ref b16), .val (.ref b41), .val (.ref b16), .val (.ref b16)] []))
      refine own_go (fun _ => XS.iload X66.here hx rfl (hb hby at_142) rfl) ?_
      show own_G p e below s _ _ _ (T66.setTop (mkF m 144 #[.val (.int q0), .val (.int q1), .val (.long q2), .second, .val (.int q3), .val (.long q4), .second, .val (.int (0 : Int32)), .val (.int (0 : Int32)), .val (.ref b1), .val (.ref b16), .val (.ref b41), .val (.ref b16), .val (.ref b16)] [(.int (0 : Int32))]))
      refine own_go (fun _ => XS.ifYes X66.here hx rfl (pc0 := 144) (pc' := 160) rfl (hb hby at_144) rfl ((if0 _ _).trans (teq (by decide : (0 : Int32) = (0 : Int32))).1) (by decide) (by decide)) ?_
      show own_G p e below s _ _ _ (T66.setTop (mkF m 160 #[.val (.int q0), .val (.int q1), .val (.long q2), .second, .val (.int q3), .val (.long q4), .second, .val (.int (0 : Int32)), .val (.int (0 : Int32)), .val (.ref b1), .val (.ref b16), .val (.ref b41), .val (.ref b16), .val (.ref b16)] []))
      refine own_go (fun _ => XS.aload X66.here hx rfl (hb hby at_160) rfl rfl) ?_
      show own_G p e below s _ _ _ (T66.setTop (mkF m 162 #[.val (.int q0), .val (.int q1), .val (.long q2), .second, .val (.int q3), .val (.long q4), .second, .val (.int (0 : Int32)), .val (.int (0 : Int32)), .val (.ref b1), .val (.ref b16), .val (.ref b41), .val (.ref b16), .val (.ref b16)] [(.ref b16)]))
      refine own_go (fun _ => XS.aload X66.here hx rfl (hb hby at_162) rfl rfl) ?_
      show own_G p e below s _ _ _ (T66.setTop (mkF m 164 #[.val (.int q0), .val (.int q1), .val (.long q2), .second, .val (.int q3), .val (.long q4), .second, .val (.int (0 : Int32)), .val (.int (0 : Int32)), .val (.ref b1), .val (.ref b16), .val (.ref b41), .val (.ref b16), .val (.ref b16)] [(.ref b16), (.ref b16)]))
      refine own_go (fun _ => Jvm.RoadKit.acmp (g := (mkF m 164 #[.val (.int q0), .val (.int q1), .val (.long q2), .second, .val (.int q3), .val (.long q4), .second, .val (.int (0 : Int32)), .val (.int (0 : Int32)), .val (.ref b1), .val (.ref b16), .val (.ref b41), .val (.ref b16), .val (.ref b16)] [(.ref b16), (.ref b16)])) X66 hx rfl rfl rfl (pc0 := 164) (pc' := 167) (same := true) rfl (hb hby at_164) rfl (decide_eq_true rfl) (by decide) (by decide)) ?_
      show own_G p e below s _ _ _ (T66.setTop (mkF m 167 #[.val (.int q0), .val (.int q1), .val (.long q2), .second, .val (.int q3), .val (.long q4), .second, .val (.int (0 : Int32)), .val (.int (0 : Int32)), .val (.ref b1), .val (.ref b16), .val (.ref b41), .val (.ref b16), .val (.ref b16)] []))
      refine own_go (fun _ => XS.iconst X66.here hx rfl (hb hby at_167)) ?_
      show own_G p e below s _ _ _ (T66.setTop (mkF m 168 #[.val (.int q0), .val (.int q1), .val (.long q2), .second, .val (.int q3), .val (.long q4), .second, .val (.int (0 : Int32)), .val (.int (0 : Int32)), .val (.ref b1), .val (.ref b16), .val (.ref b41), .val (.ref b16), .val (.ref b16)] [(.int (1 : Int32))]))
      refine own_go (fun _ => XS.goto X66.here hx rfl (pc0 := 168) (pc' := 172) rfl (hb hby at_168) (by decide) (by decide)) ?_
      show own_G p e below s _ _ _ (T66.setTop (mkF m 172 #[.val (.int q0), .val (.int q1), .val (.long q2), .second, .val (.int q3), .val (.long q4), .second, .val (.int (0 : Int32)), .val (.int (0 : Int32)), .val (.ref b1), .val (.ref b16), .val (.ref b41), .val (.ref b16), .val (.ref b16)] [(.int (1 : Int32))]))
      exact own_retN X66 hx hlk (t := .boolean) Bd.returns (by simp) (hb hby at_172) (by decide) (by decide) ⟨rfl, N53⟩
    · refine own_eqF (if_neg hc16) ?_
      refine own_go (fun _ => XS.ifNo X0.here hx rfl (hb hby at_16) rfl ((if0 _ _).trans (feq hc16).1)) ?_
      show own_G p e below s _ _ _ (s₁.setTop (mkF m 19 #[.val (.int q0), .val (.int q1), .val (.long q2), .second, .val (.int q3), .val (.long q4), .second, .val (.int (0 : Int32)), .unset, .unset, .unset, .unset, .unset, .unset] []))
      refine own_go (fun _ => XS.iconst X0.here hx rfl (hb hby at_19)) ?_
      show own_G p e below s _ _ _ (s₁.setTop (mkF m 20 #[.val (.int q0), .val (.int q1), .val (.long q2), .second, .val (.int q3), .val (.long q4), .second, .val (.int (0 : Int32)), .unset, .unset, .unset, .unset, .unset, .unset] [(.int (1 : Int32))]))
      refine own_go (fun _ => XS.goto X0.here hx rfl (pc0 := 20) (pc' := 24) rfl (hb hby at_20) (by decide) (by decide)) ?_
      show own_G p e below s _ _ _ (s₁.setTop (mkF m 24 #[.val (.int q0), .val (.int q1), .val (.long q2), .second, .val (.int q3), .val (.long q4), .second, .val (.int (0 : Int32)), .unset, .unset, .unset, .unset, .unset, .unset] [(.int (1 : Int32))]))
      refine own_go (fun _ => XS.istore X0.here hx rfl (hb hby at_24) rfl (l' := #[.val (.int q0), .val (.int q1), .val (.long q2), .second, .val (.int q3), .val (.long q4), .second, .val (.int (0 : Int32)), .val (.int (1 : Int32)), .unset, .unset, .unset, .unset, .unset]) rfl) ?_
      show own_G p e below s _ _ _ (s₁.setTop (mkF m 26 #[.val (.int q0), .val (.int q1), .val (.long q2), .second, .val (.int q3), .val (.long q4), .second, .val (.int (0 : Int32)), .val (.int (1 : Int32)), .unset, .unset, .unset, .unset, .unset] []))
      refine own_go (fun _ => XS.iload X0.here hx rfl (hb hby at_26) rfl) ?_
      show own_G p e below s _ _ _ (s₁.setTop (mkF m 28 #[.val (.int q0), .val (.int q1), .val (.long q2), .second, .val (.int q3), .val (.long q4), .second, .val (.int (0 : Int32)), .val (.int (1 : Int32)), .unset, .unset, .unset, .unset, .unset] [(.int (1 : Int32))]))
      refine own_go (fun _ => XS.ifNo X0.here hx rfl (hb hby at_28) rfl ((if0 _ _).trans (feq (by decide : ¬ ((1 : Int32) = (0 : Int32)))).1)) ?_
      show own_G p e below s _ _ _ (s₁.setTop (mkF m 31 #[.val (.int q0), .val (.int q1), .val (.long q2), .second, .val (.int q3), .val (.long q4), .second, .val (.int (0 : Int32)), .val (.int (1 : Int32)), .unset, .unset, .unset, .unset, .unset] []))
      refine own_go (fun _ => XS.aconstNull X0.here hx rfl (hb hby at_31)) ?_
      show own_G p e below s _ _ _ (s₁.setTop (mkF m 32 #[.val (.int q0), .val (.int q1), .val (.long q2), .second, .val (.int q3), .val (.long q4), .second, .val (.int (0 : Int32)), .val (.int (1 : Int32)), .unset, .unset, .unset, .unset, .unset] [.null]))
      refine own_go (fun _ => XS.goto X0.here hx rfl (pc0 := 32) (pc' := 52) rfl (hb hby at_32) (by decide) (by decide)) ?_
      show own_G p e below s _ _ _ (s₁.setTop (mkF m 52 #[.val (.int q0), .val (.int q1), .val (.long q2), .second, .val (.int q3), .val (.long q4), .second, .val (.int (0 : Int32)), .val (.int (1 : Int32)), .unset, .unset, .unset, .unset, .unset] [.null]))
      refine own_go (fun _ => XS.astore X0.here hx rfl (hb hby at_52) rfl rfl (l' := #[.val (.int q0), .val (.int q1), .val (.long q2), .second, .val (.int q3), .val (.long q4), .second, .val (.int (0 : Int32)), .val (.int (1 : Int32)), .val .null, .unset, .unset, .unset, .unset]) rfl) ?_
      show own_G p e below s _ _ _ (s₁.setTop (mkF m 54 #[.val (.int q0), .val (.int q1), .val (.long q2), .second, .val (.int q3), .val (.long q4), .second, .val (.int (0 : Int32)), .val (.int (1 : Int32)), .val .null, .unset, .unset, .unset, .unset] []))
      refine own_go (fun _ => XS.iload X0.here hx rfl (hb hby at_54) rfl) ?_
      show own_G p e below s _ _ _ (s₁.setTop (mkF m 56 #[.val (.int q0), .val (.int q1), .val (.long q2), .second, .val (.int q3), .val (.long q4), .second, .val (.int (0 : Int32)), .val (.int (1 : Int32)), .val .null, .unset, .unset, .unset, .unset] [(.int (0 : Int32))]))
      refine own_go (fun _ => XS.ifYes X0.here hx rfl (pc0 := 56) (pc' := 63) rfl (hb hby at_56) rfl ((if0 _ _).trans (teq (by decide : (0 : Int32) = (0 : Int32))).1) (by decide) (by decide)) ?_
      show own_G p e below s _ _ _ (s₁.setTop (mkF m 63 #[.val (.int q0), .val (.int q1), .val (.long q2), .second, .val (.int q3), .val (.long q4), .second, .val (.int (0 : Int32)), .val (.int (1 : Int32)), .val .null, .unset, .unset, .unset, .unset] []))
      obtain ⟨T67, h67, b67, X67, e67, E67, ga67, g67, z67, A67, D67, st67⟩ := own_newO X0 hx hZ hown (hw _ (List.mem_of_getElem? (i := 0) rfl)) (hw _ (List.mem_of_getElem? (i := 1) rfl)) (hw _ (List.mem_of_getElem? (i := 2) rfl)) e0 Z0 (g := (mkF m 63 #[.val (.int q0), .val (.int q1), .val (.long q2), .second, .val (.int q3), .val (.long q4), .second, .val (.int (0 : Int32)), .val (.int (1 : Int32)), .val .null, .unset, .unset, .unset, .unset] [])) rfl (hb hby at_63) (by decide) (by decide)
      have Se68 := S0.ext E67
      have Fd69 : Fld Z h67 b67 "org/ripplelog/event/BinlogPosition" "file" "Ljava/lang/String;" .null := D67 (Or.inr (hw _ (List.mem_of_getElem? (i := 39) rfl))) (ty := (.object "java/lang/String")) (by decide)
      have Fd70 : Fld Z h67 b67 "org/ripplelog/event/BinlogPosition" "offset" "J" (.long (0 : Int64)) := D67 (Or.inr (hw _ (List.mem_of_getElem? (i := 41) rfl))) (ty := .long) (by decide)
      refine own_go (fun _ => st67 _) ?_
      show own_G p e below s _ _ _ (T67.setTop (mkF m 66 #[.val (.int q0), .val (.int q1), .val (.long q2), .second, .val (.int q3), .val (.long q4), .second, .val (.int (0 : Int32)), .val (.int (1 : Int32)), .val .null, .unset, .unset, .unset, .unset] [(.ref b67)]))
      refine own_go (fun _ => XS.dup X67.here hx rfl (hb hby at_66) rfl rfl) ?_
      show own_G p e below s _ _ _ (T67.setTop (mkF m 67 #[.val (.int q0), .val (.int q1), .val (.long q2), .second, .val (.int q3), .val (.long q4), .second, .val (.int (0 : Int32)), .val (.int (1 : Int32)), .val .null, .unset, .unset, .unset, .unset] [(.ref b67), (.ref b67)]))
      refine own_go (fun _ => XS.iload X67.here hx rfl (hb hby at_67) rfl) ?_
      show own_G p e below s _ _ _ (T67.setTop (mkF m 69 #[.val (.int q0), .val (.int q1), .val (.long q2), .second, .val (.int q3), .val (.long q4), .second, .val (.int (0 : Int32)), .val (.int (1 : Int32)), .val .null, .unset, .unset, .unset, .unset] [(.int q3), (.ref b67), (.ref b67)]))
      refine own_go (fun _ => XS.sipush X67.here hx rfl (hb hby at_69)) ?_
      show own_G p e below s _ _ _ (T67.setTop (mkF m 72 #[.val (.int q0), .val (.int q1), .val (.long q2), .second, .val (.int q3), .val (.long q4), .second, .val (.int (0 : Int32)), .val (.int (1 : Int32)), .val .null, .unset, .unset, .unset, .unset] [(.int (255 : Int32)), (.int q3), (.ref b67), (.ref b67)]))
      refine own_go (fun _ => XS.iand X67.here hx rfl (hb hby at_72) rfl) ?_
      show own_G p e below s _ _ _ (T67.setTop (mkF m 73 #[.val (.int q0), .val (.int q1), .val (.long q2), .second, .val (.int q3), .val (.long q4), .second, .val (.int (0 : Int32)), .val (.int (1 : Int32)), .val .null, .unset, .unset, .unset, .unset] [(.int (q3 &&& (255 : Int32))), (.ref b67), (.ref b67)]))
      refine own_go (fun _ => XS.i2c X67.here hx rfl (hb hby at_73) rfl) ?_
      show own_G p e below s _ _ _ (T67.setTop (mkF m 74 #[.val (.int q0), .val (.int q1), .val (.long q2), .second, .val (.int q3), .val (.long q4), .second, .val (.int (0 : Int32)), .val (.int (1 : Int32)), .val .null, .unset, .unset, .unset, .unset] [(.int (own_c (q3 &&& (255 : Int32)))), (.ref b67), (.ref b67)]))
      obtain ⟨T71, h71, L71, X71, e71, N71, P71, st71⟩ := own_callSW X67 hx hZ hown (hw _ (List.mem_of_getElem? (i := 3) rfl)) (hw _ (List.mem_of_getElem? (i := 4) rfl)) (hw _ (List.mem_of_getElem? (i := 5) rfl)) (hw _ (List.mem_of_getElem? (i := 6) rfl)) (by decide) (rm1 l Z a0 hw [] (own_c (q3 &&& (255 : Int32))) h67 n0 z67 (own_c255 _) cs hcs Se68) e67 (Fr.nil n0) (W := 2) (by decide) (by decide) (by decide) (by decide) (g := (mkF m 74 #[.val (.int q0), .val (.int q1), .val (.long q2), .second, .val (.int q3), .val (.long q4), .second, .val (.int (0 : Int32)), .val (.int (1 : Int32)), .val .null, .unset, .unset, .unset, .unset] [(.int (own_c (q3 &&& (255 : Int32)))), (.ref b67), (.ref b67)])) rfl (by rw [hml]; rfl) (argsL := [(.int (own_c (q3 &&& (255 : Int32))))]) (rest := [(.ref b67), (.ref b67)]) (lenOf (by decide +kernel : parseMethodDescriptor "(C)Ljava/lang/String;" = some ⟨[.char], some (.object "java/lang/String")⟩) rfl) rfl rfl (by show 2 * 0 + _ ≤ _; exact Nat.le_of_eq rfl) (hb hby at_74)
      obtain ⟨sb72, gsb72⟩ : ∃ z, z = h67.size := ⟨_, rfl⟩
      rw [← gsb72] at st71
      have Sk73 := own_sta_keep0 Se68 P71
      have Ek74 := A67.keep P71
      have Fk75 := Fd69.keep P71 (fun q => nomatch q)
      have Fk76 := Fd70.keep P71 (fun q => nomatch q)
      have zk77 := Nat.le_trans z67 P71.1
      refine own_go (fun _ => st71 _) ?_
      show own_G p e below s _ _ _ (T71.setTop (mkF m 77 #[.val (.int q0), .val (.int q1), .val (.long q2), .second, .val (.int q3), .val (.long q4), .second, .val (.int (0 : Int32)), .val (.int (1 : Int32)), .val .null, .unset, .unset, .unset, .unset] [(.ref sb72), (.ref b67), (.ref b67)]))
      refine own_go (fun _ => XS.lload X71.here hx rfl (hb hby at_77) rfl) ?_
      show own_G p e below s _ _ _ (T71.setTop (mkF m 79 #[.val (.int q0), .val (.int q1), .val (.long q2), .second, .val (.int q3), .val (.long q4), .second, .val (.int (0 : Int32)), .val (.int (1 : Int32)), .val .null, .unset, .unset, .unset, .unset] [(.long q4), (.ref sb72), (.ref b67), (.ref b67)]))
      obtain ⟨T78, h78, L78, X78, e78, N78, P78, st78⟩ := own_callI X71 hx hZ rfl hown (hw _ (List.mem_of_getElem? (i := 29) rfl)) (hw _ (List.mem_of_getElem? (i := 30) rfl)) (hw _ (List.mem_of_getElem? (i := 31) rfl)) (hw _ (List.mem_of_getElem? (i := 2) rfl)) (by decide) (rm6 l Z a0 hw [] b67 sb72 q4 h71 n0 zk77 g67 Ek74 Fk75 Fk76) e71 N71 (W := 1) (by decide) (by decide) (by decide) (by decide) (g := (mkF m 79 #[.val (.int q0), .val (.int q1), .val (.long q2), .second, .val (.int q3), .val (.long q4), .second, .val (.int (0 : Int32)), .val (.int (1 : Int32)), .val .null, .unset, .unset, .unset, .unset] [(.long q4), (.ref sb72), (.ref b67), (.ref b67)])) rfl (by rw [hml]; rfl) (argsL := [(.ref sb72), (.long q4)]) (rest := [(.ref b67)]) (lenOf (by decide +kernel : parseMethodDescriptor "(Ljava/lang/String;J)V" = some ⟨[(.object "java/lang/String"), .long], none⟩) rfl) rfl rfl (by show 2 * 0 + _ ≤ _; exact Nat.le_of_eq rfl) (hb hby at_79)
      obtain ⟨K78, Ec78, Fc78_0, Fc78_1⟩ := P78
      have Sk79 := own_sta_keep Sk73 Ek74 K78
      have Ek80 := Ek74.keep K78
      have zk81 := Nat.le_trans zk77 K78.1
      refine own_go (fun _ => st78 _) ?_
      show own_G p e below s _ _ _ (T78.setTop (mkF m 82 #[.val (.int q0), .val (.int q1), .val (.long q2), .second, .val (.int q3), .val (.long q4), .second, .val (.int (0 : Int32)), .val (.int (1 : Int32)), .val .null, .unset, .unset, .unset, .unset] [(.ref b67)]))
      refine own_go (fun _ => XS.astore X78.here hx rfl (hb hby at_82) rfl rfl (l' := #[.val (.int q0), .val (.int q1), .val (.long q2), .second, .val (.int q3), .val (.long q4), .second, .val (.int (0 : Int32)), .val (.int (1 : Int32)), .val .null, .val (.ref b67), .unset, .unset, .unset]) rfl) ?_
      show own_G p e below s _ _ _ (T78.setTop (mkF m 84 #[.val (.int q0), .val (.int q1), .val (.long q2), .second, .val (.int q3), .val (.long q4), .second, .val (.int (0 : Int32)), .val (.int (1 : Int32)), .val .null, .val (.ref b67), .unset, .unset, .unset] []))
      obtain ⟨T82, h82, b82, X82, e82, E82, ga82, g82, z82, A82, D82, st82⟩ := own_newO X78 hx hZ hown (hw _ (List.mem_of_getElem? (i := 42) rfl)) (hw _ (List.mem_of_getElem? (i := 43) rfl)) (hw _ (List.mem_of_getElem? (i := 44) rfl)) e78 zk81 (g := (mkF m 84 #[.val (.int q0), .val (.int q1), .val (.long q2), .second, .val (.int q3), .val (.long q4), .second, .val (.int (0 : Int32)), .val (.int (1 : Int32)), .val .null, .val (.ref b67), .unset, .unset, .unset] [])) rfl (hb hby at_84) (by decide) (by decide)
      have ne83 : b67 ≠ b82 := Nat.ne_of_lt (Nat.lt_of_lt_of_eq Ec78.lt ga82.symm)
      have Ee84 := Ec78.ext E82
      have Fe85 := Fc78_0.ext E82
      have Fe86 := Fc78_1.ext E82
      have Se87 := Sk79.ext E82
      have Fd88 : Fld Z h82 b82 "org/ripplelog/event/ResumePoint" "position" "Lorg/ripplelog/event/BinlogPosition;" .null := D82 (Or.inr (hw _ (List.mem_of_getElem? (i := 50) rfl))) (ty := (.object "org/ripplelog/event/BinlogPosition")) (by decide)
      have Fd89 : Fld Z h82 b82 "org/ripplelog/event/ResumePoint" "prepared" "Lorg/ripplelog/event/BinlogPosition;" .null := D82 (Or.inr (hw _ (List.mem_of_getElem? (i := 52) rfl))) (ty := (.object "org/ripplelog/event/BinlogPosition")) (by decide)
      refine own_go (fun _ => st82 _) ?_
      show own_G p e below s _ _ _ (T82.setTop (mkF m 87 #[.val (.int q0), .val (.int q1), .val (.long q2), .second, .val (.int q3), .val (.long q4), .second, .val (.int (0 : Int32)), .val (.int (1 : Int32)), .val .null, .val (.ref b67), .unset, .unset, .unset] [(.ref b82)]))
      refine own_go (fun _ => XS.dup X82.here hx rfl (hb hby at_87) rfl rfl) ?_
      show own_G p e below s _ _ _ (T82.setTop (mkF m 88 #[.val (.int q0), .val (.int q1), .val (.long q2), .second, .val (.int q3), .val (.long q4), .second, .val (.int (0 : Int32)), .val (.int (1 : Int32)), .val .null, .val (.ref b67), .unset, .unset, .unset] [(.ref b82), (.ref b82)]))
      refine own_go (fun _ => XS.aload X82.here hx rfl (hb hby at_88) rfl rfl) ?_
      show own_G p e below s _ _ _ (T82.setTop (mkF m 90 #[.val (.int q0), .val (.int q1), .val (.long q2), .second, .val (.int q3), .val (.long q4), .second, .val (.int (0 : Int32)), .val (.int (1 : Int32)), .val .null, .val (.ref b67), .unset, .unset, .unset] [.null, (.ref b82), (.ref b82)]))
      refine own_go (fun _ => XS.aload X82.here hx rfl (hb hby at_90) rfl rfl) ?_
      show own_G p e below s _ _ _ (T82.setTop (mkF m 92 #[.val (.int q0), .val (.int q1), .val (.long q2), .second, .val (.int q3), .val (.long q4), .second, .val (.int (0 : Int32)), .val (.int (1 : Int32)), .val .null, .val (.ref b67), .unset, .unset, .unset] [(.ref b67), .null, (.ref b82), (.ref b82)]))
      obtain ⟨T90, h90, L90, X90, e90, N90, P90, st90⟩ := own_callI X82 hx hZ rfl hown (hw _ (List.mem_of_getElem? (i := 45) rfl)) (hw _ (List.mem_of_getElem? (i := 46) rfl)) (hw _ (List.mem_of_getElem? (i := 47) rfl)) (hw _ (List.mem_of_getElem? (i := 44) rfl)) (by decide) (rm8 l Z a0 hw [] b82 .null (.ref b67) h82 n0 z82 g82 A82 Fd88 Fd89 rfl rfl) e82 N78 (W := 1) (by decide) (by decide) (by decide) (by decide) (g := (mkF m 92 #[.val (.int q0), .val (.int q1), .val (.long q2), .second, .val (.int q3), .val (.long q4), .second, .val (.int (0 : Int32)), .val (.int (1 : Int32)), .val .null, .val (.ref b67), .unset, .unset, .unset] [(.ref b67), .null, (.ref b82), (.ref b82)])) rfl (by rw [hml]; rfl) (argsL := [.null, (.ref b67)]) (rest := [(.ref b82)]) (lenOf (by decide +kernel : parseMethodDescriptor "(Lorg/ripplelog/event/BinlogPosition;Lorg/ripplelog/event/BinlogPosition;)V" = some ⟨[(.object "org/ripplelog/event/BinlogPosition"), (.object "org/ripplelog/event/BinlogPosition")], none⟩) rfl) rfl rfl (by show 2 * 0 + _ ≤ _; exact Nat.le_of_eq rfl) (hb hby at_92)
      obtain ⟨K90, Ec90, Fc90_0, Fc90_1⟩ := P90
      have Sk91 := own_sta_keep Se87 A82 K90
      have Ek92 := Ee84.keep K90
      have Ek93 := A82.keep K90
      have Fk94 := Fe85.keep K90 (fun q => ne83 (List.mem_singleton.mp q))
      have Fk95 := Fe86.keep K90 (fun q => ne83 (List.mem_singleton.mp q))
      have zk96 := Nat.le_trans z82 K90.1
      refine own_go (fun _ => st90 _) ?_
      show own_G p e below s _ _ _ (T90.setTop (mkF m 95 #[.val (.int q0), .val (.int q1), .val (.long q2), .second, .val (.int q3), .val (.long q4), .second, .val (.int (0 : Int32)), .val (.int (1 : Int32)), .val .null, .val (.ref b67), .unset, .unset, .unset] [(.ref b82)]))
      refine own_go (fun _ => XS.astore X90.here hx rfl (hb hby at_95) rfl rfl (l' := #[.val (.int q0), .val (.int q1), .val (.long q2), .second, .val (.int q3), .val (.long q4), .second, .val (.int (0 : Int32)), .val (.int (1 : Int32)), .val .null, .val (.ref b67), .val (.ref b82), .unset, .unset]) rfl) ?_
      show own_G p e below s _ _ _ (T90.setTop (mkF m 97 #[.val (.int q0), .val (.int q1), .val (.long q2), .second, .val (.int q3), .val (.long q4), .second, .val (.int (0 : Int32)), .val (.int (1 : Int32)), .val .null, .val (.ref b67), .val (.ref b82), .unset, .unset] []))
      refine own_go (fun _ => XS.aload X90.here hx rfl (hb hby at_97) rfl rfl) ?_
      show own_G p e below s _ _ _ (T90.setTop (mkF m 99 #[.val (.int q0), .val (.int q1), .val (.long q2), .second, .val (.int q3), .val (.long q4), .second, .val (.int (0 : Int32)), .val (.int (1 : Int32)), .val .null, .val (.ref b67), .val (.ref b82), .unset, .unset] [(.ref b82)]))
      obtain ⟨T97, X97, e97, st97⟩ := own_callV X90 hx hZ hown (hw _ (List.mem_of_getElem? (i := 53) rfl)) (hw _ (List.mem_of_getElem? (i := 54) rfl)) (hw _ (List.mem_of_getElem? (i := 56) rfl)) (hw _ (List.mem_of_getElem? (i := 55) rfl)) (hw _ (List.mem_of_getElem? (i := 57) rfl)) (hw _ (List.mem_of_getElem? (i := 44) rfl)) (by decide) (rm9r l Z a0 hw [] b82 h90 b67 Fc90_1) rfl rfl e90 Ec90 (W := 0) (by decide) (by decide) (by decide) (by decide) (g := (mkF m 99 #[.val (.int q0), .val (.int q1), .val (.long q2), .second, .val (.int q3), .val (.long q4), .second, .val (.int (0 : Int32)), .val (.int (1 : Int32)), .val .null, .val (.ref b67), .val (.ref b82), .unset, .unset] [(.ref b82)])) rfl (by rw [hml]; rfl) (argsL := []) (rest := []) (lenOf (by decide +kernel : parseMethodDescriptor "()Lorg/ripplelog/event/BinlogPosition;" = some ⟨[], some (.object "org/ripplelog/event/BinlogPosition")⟩) rfl) rfl rfl (by show 2 * 0 + _ ≤ _; exact Nat.le_of_eq rfl) (hb hby at_99)
      refine own_go (fun _ => st97 _) ?_
      show own_G p e below s _ _ _ (T97.setTop (mkF m 102 #[.val (.int q0), .val (.int q1), .val (.long q2), .second, .val (.int q3), .val (.long q4), .second, .val (.int (0 : Int32)), .val (.int (1 : Int32)), .val .null, .val (.ref b67), .val (.ref b82), .unset, .unset] [(.ref b67)]))
      refine own_go (fun _ => XS.astore X97.here hx rfl (hb hby at_102) rfl rfl (l' := #[.val (.int q0), .val (.int q1), .val (.long q2), .second, .val (.int q3), .val (.long q4), .second, .val (.int (0 : Int32)), .val (.int (1 : Int32)), .val .null, .val (.ref b67), .val (.ref b82), .val (.ref b67), .unset]) rfl) ?_
      show own_G p e below s _ _ _ (T97.setTop (mkF m 104 #[.val (.int q0), .val (.int q1), .val (.long q2), .second, .val (.int q3), .val (.long q4), .second, .val (.int (0 : Int32)), .val (.int (1 : Int32)), .val .null, .val (.ref b67), .val (.ref b82), .val (.ref b67), .unset] []))
      refine own_go (fun _ => XS.aload X97.here hx rfl (hb hby at_104) rfl rfl) ?_
      show own_G p e below s _ _ _ (T97.setTop (mkF m 106 #[.val (.int q0), .val (.int q1), .val (.long q2), .second, .val (.int q3), .val (.long q4), .second, .val (.int (0 : Int32)), .val (.int (1 : Int32)), .val .null, .val (.ref b67), .val (.ref b82), .val (.ref b67), .unset] [(.ref b82)]))
      obtain ⟨T98, X98, e98, st98⟩ := own_callV X97 hx hZ hown (hw _ (List.mem_of_getElem? (i := 53) rfl)) (hw _ (List.mem_of_getElem? (i := 54) rfl)) (hw _ (List.mem_of_getElem? (i := 56) rfl)) (hw _ (List.mem_of_getElem? (i := 55) rfl)) (hw _ (List.mem_of_getElem? (i := 57) rfl)) (hw _ (List.mem_of_getElem? (i := 44) rfl)) (by decide) (rm9r l Z a0 hw [] b82 h90 b67 Fc90_1) rfl rfl e97 Ec90 (W := 0) (by decide) (by decide) (by decide) (by decide) (g := (mkF m 106 #[.val (.int q0), .val (.int q1), .val (.long q2), .second, .val (.int q3), .val (.long q4), .second, .val (.int (0 : Int32)), .val (.int (1 : Int32)), .val .null, .val (.ref b67), .val (.ref b82), .val (.ref b67), .unset] [(.ref b82)])) rfl (by rw [hml]; rfl) (argsL := []) (rest := []) (lenOf (by decide +kernel : parseMethodDescriptor "()Lorg/ripplelog/event/BinlogPosition;" = some ⟨[], some (.object "org/ripplelog/event/BinlogPosition")⟩) rfl) rfl rfl (by show 2 * 0 + _ ≤ _; exact Nat.le_of_eq rfl) (hb hby at_106)
      refine own_go (fun _ => st98 _) ?_
      show own_G p e below s _ _ _ (T98.setTop (mkF m 109 #[.val (.int q0), .val (.int q1), .val (.long q2), .second, .val (.int q3), .val (.long q4), .second, .val (.int (0 : Int32)), .val (.int (1 : Int32)), .val .null, .val (.ref b67), .val (.ref b82), .val (.ref b67), .unset] [(.ref b67)]))
      refine own_go (fun _ => XS.astore X98.here hx rfl (hb hby at_109) rfl rfl (l' := #[.val (.int q0), .val (.int q1), .val (.long q2), .second, .val (.int q3), .val (.long q4), .second, .val (.int (0 : Int32)), .val (.int (1 : Int32)), .val .null, .val (.ref b67), .val (.ref b82), .val (.ref b67), .val (.ref b67)]) rfl) ?_
      show own_G p e below s _ _ _ (T98.setTop (mkF m 111 #[.val (.int q0), .val (.int q1), .val (.long q2), .second, .val (.int q3), .val (.long q4), .second, .val (.int (0 : Int32)), .val (.int (1 : Int32)), .val .null, .val (.ref b67), .val (.ref b82), .val (.ref b67), .val (.ref b67)] []))
      refine own_go (fun _ => XS.aload X98.here hx rfl (hb hby at_111) rfl rfl) ?_
      show own_G p e below s _ _ _ (T98.setTop (mkF m 113 #[.val (.int q0), .val (.int q1), .val (.long q2), .second, .val (.int q3), .val (.long q4), .second, .val (.int (0 : Int32)), .val (.int (1 : Int32)), .val .null, .val (.ref b67), .val (.ref b82), .val (.ref b67), .val (.ref b67)] [(.ref b67)]))
      refine own_go (fun _ => XS.aload X98.here hx rfl (hb hby at_113) rfl rfl) ?_
      show own_G p e below s _ _ _ (T98.setTop (mkF m 115 #[.val (.int q0), .val (.int q1), .val (.long q2), .second, .val (.int q3), .val (.long q4), .second, .val (.int (0 : Int32)), .val (.int (1 : Int32)), .val .null, .val (.ref b67), .val (.ref b82), .val (.ref b67), .val (.ref b67)] [(.ref b67), (.ref b67)]))
      refine own_go (fun _ => Jvm.RoadKit.acmp (g := (mkF m 115 #[.val (.int q0), .val (.int q1), .val (.long q2), .second, .val (.int q3), .val (.long q4), .second, .val (.int (0 : Int32)), .val (.int (1 : Int32)), .val .null, .val (.ref b67), .val (.ref b82), .val (.ref b67), .val (.ref b67)] [(.ref b67), (.ref b67)])) X98 hx rfl rfl rfl (pc0 := 115) (pc' := 120) (same := true) rfl (hb hby at_115) rfl (decide_eq_true rfl) (by decide) (by decide)) ?_
      show own_G p e below s _ _ _ (T98.setTop (mkF m 120 #[.val (.int q0), .val (.int q1), .val (.long q2), .second, .val (.int q3), .val (.long q4), .second, .val (.int (0 : Int32)), .val (.int (1 : Int32)), .val .null, .val (.ref b67), .val (.ref b82), .val (.ref b67), .val (.ref b67)] []))
      refine own_go (fun _ => XS.aload X98.here hx rfl (hb hby at_120) rfl rfl) ?_
      show own_G p e below s _ _ _ (T98.setTop (mkF m 122 #[.val (.int q0), .val (.int q1), .val (.long q2), .second, .val (.int q3), .val (.long q4), .second, .val (.int (0 : Int32)), .val (.int (1 : Int32)), .val .null, .val (.ref b67), .val (.ref b82), .val (.ref b67), .val (.ref b67)] [(.ref b82)]))
      obtain ⟨T99, X99, e99, st99⟩ := own_callV X98 hx hZ hown (hw _ (List.mem_of_getElem? (i := 58) rfl)) (hw _ (List.mem_of_getElem? (i := 59) rfl)) (hw _ (List.mem_of_getElem? (i := 61) rfl)) (hw _ (List.mem_of_getElem? (i := 60) rfl)) (hw _ (List.mem_of_getElem? (i := 62) rfl)) (hw _ (List.mem_of_getElem? (i := 44) rfl)) (by decide) (rm10 l Z a0 hw [] b82 h90 .null rfl Fc90_0) rfl rfl e98 Ec90 (W := 0) (by decide) (by decide) (by decide) (by decide) (g := (mkF m 122 #[.val (.int q0), .val (.int q1), .val (.long q2), .second, .val (.int q3), .val (.long q4), .second, .val (.int (0 : Int32)), .val (.int (1 : Int32)), .val .null, .val (.ref b67), .val (.ref b82), .val (.ref b67), .val (.ref b67)] [(.ref b82)])) rfl (by rw [hml]; rfl) (argsL := []) (rest := []) (lenOf (by decide +kernel : parseMethodDescriptor "()Lorg/ripplelog/event/BinlogPosition;" = some ⟨[], some (.object "org/ripplelog/event/BinlogPosition")⟩) rfl) rfl rfl (by show 2 * 0 + _ ≤ _; exact Nat.le_of_eq rfl) (hb hby at_122)
      refine own_go (fun _ => st99 _) ?_
      show own_G p e below s _ _ _ (T99.setTop (mkF m 125 #[.val (.int q0), .val (.int q1), .val (.long q2), .second, .val (.int q3), .val (.long q4), .second, .val (.int (0 : Int32)), .val (.int (1 : Int32)), .val .null, .val (.ref b67), .val (.ref b82), .val (.ref b67), .val (.ref b67)] [.null]))
      refine own_go (fun _ => XS.aload X99.here hx rfl (hb hby at_125) rfl rfl) ?_
      show own_G p e below s _ _ _ (T99.setTop (mkF m 127 #[.val (.int q0), .val (.int q1), .val (.long q2), .second, .val (.int q3), .val (.long q4), .second, .val (.int (0 : Int32)), .val (.int (1 : Int32)), .val .null, .val (.ref b67), .val (.ref b82), .val (.ref b67), .val (.ref b67)] [.null, .null]))
      refine own_go (fun _ => Jvm.RoadKit.acmp (g := (mkF m 127 #[.val (.int q0), .val (.int q1), .val (.long q2), .second, .val (.int q3), .val (.long q4), .second, .val (.int (0 : Int32)), .val (.int (1 : Int32)), .val .null, .val (.ref b67), .val (.ref b82), .val (.ref b67), .val (.ref b67)] [.null, .null])) X99 hx rfl rfl rfl (pc0 := 127) (pc' := 130) (same := true) rfl (hb hby at_127) rfl (decide_eq_true rfl) (by decide) (by decide)) ?_
      show own_G p e below s _ _ _ (T99.setTop (mkF m 130 #[.val (.int q0), .val (.int q1), .val (.long q2), .second, .val (.int q3), .val (.long q4), .second, .val (.int (0 : Int32)), .val (.int (1 : Int32)), .val .null, .val (.ref b67), .val (.ref b82), .val (.ref b67), .val (.ref b67)] []))
      refine own_go (fun _ => XS.aload X99.here hx rfl (hb hby at_130) rfl rfl) ?_
      show own_G p e below s _ _ _ (T99.setTop (mkF m 132 #[.val (.int q0), .val (.int q1), .val (.long q2), .second, .val (.int q3), .val (.long q4), .second, .val (.int (0 : Int32)), .val (.int (1 : Int32)), .val .null, .val (.ref b67), .val (.ref b82), .val (.ref b67), .val (.ref b67)] [(.ref b82)]))
      obtain ⟨T100, X100, e100, st100⟩ := own_callV X99 hx hZ hown (hw _ (List.mem_of_getElem? (i := 63) rfl)) (hw _ (List.mem_of_getElem? (i := 64) rfl)) (hw _ (List.mem_of_getElem? (i := 66) rfl)) (hw _ (List.mem_of_getElem? (i := 65) rfl)) (hw _ (List.mem_of_getElem? (i := 67) rfl)) (hw _ (List.mem_of_getElem? (i := 44) rfl)) (by decide) (rm11 l Z a0 hw [] b82 h90 (.ref b67) rfl Fc90_1) rfl rfl e99 Ec90 (W := 0) (by decide) (by decide) (by decide) (by decide) (g := (mkF m 132 #[.val (.int q0), .val (.int q1), .val (.long q2), .second, .val (.int q3), .val (.long q4), .second, .val (.int (0 : Int32)), .val (.int (1 : Int32)), .val .null, .val (.ref b67), .val (.ref b82), .val (.ref b67), .val (.ref b67)] [(.ref b82)])) rfl (by rw [hml]; rfl) (argsL := []) (rest := []) (lenOf (by decide +kernel : parseMethodDescriptor "()Lorg/ripplelog/event/BinlogPosition;" = some ⟨[], some (.object "org/ripplelog/event/BinlogPosition")⟩) rfl) rfl rfl (by show 2 * 0 + _ ≤ _; exact Nat.le_of_eq rfl) (hb hby at_132)
      refine own_go (fun _ => st100 _) ?_
      show own_G p e below s _ _ _ (T100.setTop (mkF m 135 #[.val (.int q0), .val (.int q1), .val (.long q2), .second, .val (.int q3), .val (.long q4), .second, .val (.int (0 : Int32)), .val (.int (1 : Int32)), .val .null, .val (.ref b67), .val (.ref b82), .val (.ref b67), .val (.ref b67)] [(.ref b67)]))
      refine own_go (fun _ => XS.aload X100.here hx rfl (hb hby at_135) rfl rfl) ?_
      show own_G p e below s _ _ _ (T100.setTop (mkF m 137 #[.val (.int q0), .val (.int q1), .val (.long q2), .second, .val (.int q3), .val (.long q4), .second, .val (.int (0 : Int32)), .val (.int (1 : Int32)), .val .null, .val (.ref b67), .val (.ref b82), .val (.ref b67), .val (.ref b67)] [(.ref b67), (.ref b67)]))
      refine own_go (fun _ => Jvm.RoadKit.acmp (g := (mkF m 137 #[.val (.int q0), .val (.int q1), .val (.long q2), .second, .val (.int q3), .val (.long q4), .second, .val (.int (0 : Int32)), .val (.int (1 : Int32)), .val .null, .val (.ref b67), .val (.ref b82), .val (.ref b67), .val (.ref b67)] [(.ref b67), (.ref b67)])) X100 hx rfl rfl rfl (pc0 := 137) (pc' := 142) (same := true) rfl (hb hby at_137) rfl (decide_eq_true rfl) (by decide) (by decide)) ?_
      show own_G p e below s _ _ _ (T100.setTop (mkF m 142 #[.val (.int q0), .val (.int q1), .val (.long q2), .second, .val (.int q3), .val (.long q4), .second, .val (.int (0 : Int32)), .val (.int (1 : Int32)), .val .null, .val (.ref b67), .val (.ref b82), .val (.ref b67), .val (.ref b67)] []))
      refine own_go (fun _ => XS.iload X100.here hx rfl (hb hby at_142) rfl) ?_
      show own_G p e below s _ _ _ (T100.setTop (mkF m 144 #[.val (.int q0), .val (.int q1), .val (.long q2), .second, .val (.int q3), .val (.long q4), .second, .val (.int (0 : Int32)), .val (.int (1 : Int32)), .val .null, .val (.ref b67), .val (.ref b82), .val (.ref b67), .val (.ref b67)] [(.int (0 : Int32))]))
      refine own_go (fun _ => XS.ifYes X100.here hx rfl (pc0 := 144) (pc' := 160) rfl (hb hby at_144) rfl ((if0 _ _).trans (teq (by decide : (0 : Int32) = (0 : Int32))).1) (by decide) (by decide)) ?_
      show own_G p e below s _ _ _ (T100.setTop (mkF m 160 #[.val (.int q0), .val (.int q1), .val (.long q2), .second, .val (.int q3), .val (.long q4), .second, .val (.int (0 : Int32)), .val (.int (1 : Int32)), .val .null, .val (.ref b67), .val (.ref b82), .val (.ref b67), .val (.ref b67)] []))
      refine own_go (fun _ => XS.aload X100.here hx rfl (hb hby at_160) rfl rfl) ?_
      show own_G p e below s _ _ _ (T100.setTop (mkF m 162 #[.val (.int q0), .val (.int q1), .val (.long q2), .second, .val (.int q3), .val (.long q4), .second, .val (.int (0 : Int32)), .val (.int (1 : Int32)), .val .null, .val (.ref b67), .val (.ref b82), .val (.ref b67), .val (.ref b67)] [(.ref b67)]))
      refine own_go (fun _ => XS.aload X100.here hx rfl (hb hby at_162) rfl rfl) ?_
      show own_G p e below s _ _ _ (T100.setTop (mkF m 164 #[.val (.int q0), .val (.int q1), .val (.long q2), .second, .val (.int q3), .val (.long q4), .second, .val (.int (0 : Int32)), .val (.int (1 : Int32)), .val .null, .val (.ref b67), .val (.ref b82), .val (.ref b67), .val (.ref b67)] [(.ref b67), (.ref b67)]))
      refine own_go (fun _ => Jvm.RoadKit.acmp (g := (mkF m 164 #[.val (.int q0), .val (.int q1), .val (.long q2), .second, .val (.int q3), .val (.long q4), .second, .val (.int (0 : Int32)), .val (.int (1 : Int32)), .val .null, .val (.ref b67), .val (.ref b82), .val (.ref b67), .val (.ref b67)] [(.ref b67), (.ref b67)])) X100 hx rfl rfl rfl (pc0 := 164) (pc' := 167) (same := true) rfl (hb hby at_164) rfl (decide_eq_true rfl) (by decide) (by decide)) ?_
      show own_G p e below s _ _ _ (T100.setTop (mkF m 167 #[.val (.int q0), .val (.int q1), .val (.long q2), .second, .val (.int q3), .val (.long q4), .second, .val (.int (0 : Int32)), .val (.int (1 : Int32)), .val .null, .val (.ref b67), .val (.ref b82), .val (.ref b67), .val (.ref b67)] []))
      refine own_go (fun _ => XS.iconst X100.here hx rfl (hb hby at_167)) ?_
      show own_G p e below s _ _ _ (T100.setTop (mkF m 168 #[.val (.int q0), .val (.int q1), .val (.long q2), .second, .val (.int q3), .val (.long q4), .second, .val (.int (0 : Int32)), .val (.int (1 : Int32)), .val .null, .val (.ref b67), .val (.ref b82), .val (.ref b67), .val (.ref b67)] [(.int (1 : Int32))]))
      refine own_go (fun _ => XS.goto X100.here hx rfl (pc0 := 168) (pc' := 172) rfl (hb hby at_168) (by decide) (by decide)) ?_
      show own_G p e below s _ _ _ (T100.setTop (mkF m 172 #[.val (.int q0), .val (.int q1), .val (.long q2), .second, .val (.int q3), .val (.long q4), .second, .val (.int (0 : Int32)), .val (.int (1 : Int32)), .val .null, .val (.ref b67), .val (.ref b82), .val (.ref b67), .val (.ref b67)] [(.int (1 : Int32))]))
      exact own_retN X100 hx hlk (t := .boolean) Bd.returns (by simp) (hb hby at_172) (by decide) (by decide) ⟨rfl, N90⟩
  · refine own_eqF (if_neg hc3) ?_
    refine own_go (fun _ => XS.ifNo X0.here hx rfl (hb hby at_3) rfl ((if0 _ _).trans (feq hc3).1)) ?_
    show own_G p e below s _ _ _ (s₁.setTop (mkF m 6 #[.val (.int q0), .val (.int q1), .val (.long q2), .second, .val (.int q3), .val (.long q4), .second, .unset, .unset, .unset, .unset, .unset, .unset, .unset] []))
    refine own_go (fun _ => XS.iconst X0.here hx rfl (hb hby at_6)) ?_
    show own_G p e below s _ _ _ (s₁.setTop (mkF m 7 #[.val (.int q0), .val (.int q1), .val (.long q2), .second, .val (.int q3), .val (.long q4), .second, .unset, .unset, .unset, .unset, .unset, .unset, .unset] [(.int (1 : Int32))]))
    refine own_go (fun _ => XS.goto X0.here hx rfl (pc0 := 7) (pc' := 11) rfl (hb hby at_7) (by decide) (by decide)) ?_
    show own_G p e below s _ _ _ (s₁.setTop (mkF m 11 #[.val (.int q0), .val (.int q1), .val (.long q2), .second, .val (.int q3), .val (.long q4), .second, .unset, .unset, .unset, .unset, .unset, .unset, .unset] [(.int (1 : Int32))]))
    refine own_go (fun _ => XS.istore X0.here hx rfl (hb hby at_11) rfl (l' := #[.val (.int q0), .val (.int q1), .val (.long q2), .second, .val (.int q3), .val (.long q4), .second, .val (.int (1 : Int32)), .unset, .unset, .unset, .unset, .unset, .unset]) rfl) ?_
    show own_G p e below s _ _ _ (s₁.setTop (mkF m 13 #[.val (.int q0), .val (.int q1), .val (.long q2), .second, .val (.int q3), .val (.long q4), .second, .val (.int (1 : Int32)), .unset, .unset, .unset, .unset, .unset, .unset] []))
    refine own_go (fun _ => XS.iloadN X0.here hx rfl (hb hby at_13) rfl) ?_
    show own_G p e below s _ _ _ (s₁.setTop (mkF m 14 #[.val (.int q0), .val (.int q1), .val (.long q2), .second, .val (.int q3), .val (.long q4), .second, .val (.int (1 : Int32)), .unset, .unset, .unset, .unset, .unset, .unset] [(.int q0)]))
    refine own_go (fun _ => XS.iconst X0.here hx rfl (hb hby at_14)) ?_
    show own_G p e below s _ _ _ (s₁.setTop (mkF m 15 #[.val (.int q0), .val (.int q1), .val (.long q2), .second, .val (.int q3), .val (.long q4), .second, .val (.int (1 : Int32)), .unset, .unset, .unset, .unset, .unset, .unset] [(.int (2 : Int32)), (.int q0)]))
    refine own_go (fun _ => XS.iand X0.here hx rfl (hb hby at_15) rfl) ?_
    show own_G p e below s _ _ _ (s₁.setTop (mkF m 16 #[.val (.int q0), .val (.int q1), .val (.long q2), .second, .val (.int q3), .val (.long q4), .second, .val (.int (1 : Int32)), .unset, .unset, .unset, .unset, .unset, .unset] [(.int (q0 &&& (2 : Int32)))]))
    by_cases hc16 : (q0 &&& (2 : Int32)) = (0 : Int32)
    · refine own_eqF (if_pos hc16) ?_
      refine own_go (fun _ => XS.ifYes X0.here hx rfl (pc0 := 16) (pc' := 23) rfl (hb hby at_16) rfl ((if0 _ _).trans (teq hc16).1) (by decide) (by decide)) ?_
      show own_G p e below s _ _ _ (s₁.setTop (mkF m 23 #[.val (.int q0), .val (.int q1), .val (.long q2), .second, .val (.int q3), .val (.long q4), .second, .val (.int (1 : Int32)), .unset, .unset, .unset, .unset, .unset, .unset] []))
      refine own_go (fun _ => XS.iconst X0.here hx rfl (hb hby at_23)) ?_
      show own_G p e below s _ _ _ (s₁.setTop (mkF m 24 #[.val (.int q0), .val (.int q1), .val (.long q2), .second, .val (.int q3), .val (.long q4), .second, .val (.int (1 : Int32)), .unset, .unset, .unset, .unset, .unset, .unset] [(.int (0 : Int32))]))
      refine own_go (fun _ => XS.istore X0.here hx rfl (hb hby at_24) rfl (l' := #[.val (.int q0), .val (.int q1), .val (.long q2), .second, .val (.int q3), .val (.long q4), .second, .val (.int (1 : Int32)), .val (.int (0 : Int32)), .unset, .unset, .unset, .unset, .unset]) rfl) ?_
      show own_G p e below s _ _ _ (s₁.setTop (mkF m 26 #[.val (.int q0), .val (.int q1), .val (.long q2), .second, .val (.int q3), .val (.long q4), .second, .val (.int (1 : Int32)), .val (.int (0 : Int32)), .unset, .unset, .unset, .unset, .unset] []))
      refine own_go (fun _ => XS.iload X0.here hx rfl (hb hby at_26) rfl) ?_
      show own_G p e below s _ _ _ (s₁.setTop (mkF m 28 #[.val (.int q0), .val (.int q1), .val (.long q2), .second, .val (.int q3), .val (.long q4), .second, .val (.int (1 : Int32)), .val (.int (0 : Int32)), .unset, .unset, .unset, .unset, .unset] [(.int (0 : Int32))]))
      refine own_go (fun _ => XS.ifYes X0.here hx rfl (pc0 := 28) (pc' := 35) rfl (hb hby at_28) rfl ((if0 _ _).trans (teq (by decide : (0 : Int32) = (0 : Int32))).1) (by decide) (by decide)) ?_
      show own_G p e below s _ _ _ (s₁.setTop (mkF m 35 #[.val (.int q0), .val (.int q1), .val (.long q2), .second, .val (.int q3), .val (.long q4), .second, .val (.int (1 : Int32)), .val (.int (0 : Int32)), .unset, .unset, .unset, .unset, .unset] []))
      obtain ⟨T101, h101, b101, X101, e101, E101, ga101, g101, z101, A101, D101, st101⟩ := own_newO X0 hx hZ hown (hw _ (List.mem_of_getElem? (i := 0) rfl)) (hw _ (List.mem_of_getElem? (i := 1) rfl)) (hw _ (List.mem_of_getElem? (i := 2) rfl)) e0 Z0 (g := (mkF m 35 #[.val (.int q0), .val (.int q1), .val (.long q2), .second, .val (.int q3), .val (.long q4), .second, .val (.int (1 : Int32)), .val (.int (0 : Int32)), .unset, .unset, .unset, .unset, .unset] [])) rfl (hb hby at_35) (by decide) (by decide)
      have Se102 := S0.ext E101
      have Fd103 : Fld Z h101 b101 "org/ripplelog/event/BinlogPosition" "file" "Ljava/lang/String;" .null := D101 (Or.inr (hw _ (List.mem_of_getElem? (i := 39) rfl))) (ty := (.object "java/lang/String")) (by decide)
      have Fd104 : Fld Z h101 b101 "org/ripplelog/event/BinlogPosition" "offset" "J" (.long (0 : Int64)) := D101 (Or.inr (hw _ (List.mem_of_getElem? (i := 41) rfl))) (ty := .long) (by decide)
      refine own_go (fun _ => st101 _) ?_
      show own_G p e below s _ _ _ (T101.setTop (mkF m 38 #[.val (.int q0), .val (.int q1), .val (.long q2), .second, .val (.int q3), .val (.long q4), .second, .val (.int (1 : Int32)), .val (.int (0 : Int32)), .unset, .unset, .unset, .unset, .unset] [(.ref b101)]))
      refine own_go (fun _ => XS.dup X101.here hx rfl (hb hby at_38) rfl rfl) ?_
      show own_G p e below s _ _ _ (T101.setTop (mkF m 39 #[.val (.int q0), .val (.int q1), .val (.long q2), .second, .val (.int q3), .val (.long q4), .second, .val (.int (1 : Int32)), .val (.int (0 : Int32)), .unset, .unset, .unset, .unset, .unset] [(.ref b101), (.ref b101)]))
      refine own_go (fun _ => XS.iloadN X101.here hx rfl (hb hby at_39) rfl) ?_
      show own_G p e below s _ _ _ (T101.setTop (mkF m 40 #[.val (.int q0), .val (.int q1), .val (.long q2), .second, .val (.int q3), .val (.long q4), .second, .val (.int (1 : Int32)), .val (.int (0 : Int32)), .unset, .unset, .unset, .unset, .unset] [(.int q1), (.ref b101), (.ref b101)]))
      refine own_go (fun _ => XS.sipush X101.here hx rfl (hb hby at_40)) ?_
      show own_G p e below s _ _ _ (T101.setTop (mkF m 43 #[.val (.int q0), .val (.int q1), .val (.long q2), .second, .val (.int q3), .val (.long q4), .second, .val (.int (1 : Int32)), .val (.int (0 : Int32)), .unset, .unset, .unset, .unset, .unset] [(.int (255 : Int32)), (.int q1), (.ref b101), (.ref b101)]))
      refine own_go (fun _ => XS.iand X101.here hx rfl (hb hby at_43) rfl) ?_
      show own_G p e below s _ _ _ (T101.setTop (mkF m 44 #[.val (.int q0), .val (.int q1), .val (.long q2), .second, .val (.int q3), .val (.long q4), .second, .val (.int (1 : Int32)), .val (.int (0 : Int32)), .unset, .unset, .unset, .unset, .unset] [(.int (q1 &&& (255 : Int32))), (.ref b101), (.ref b101)]))
      refine own_go (fun _ => XS.i2c X101.here hx rfl (hb hby at_44) rfl) ?_
      show own_G p e below s _ _ _ (T101.setTop (mkF m 45 #[.val (.int q0), .val (.int q1), .val (.long q2), .second, .val (.int q3), .val (.long q4), .second, .val (.int (1 : Int32)), .val (.int (0 : Int32)), .unset, .unset, .unset, .unset, .unset] [(.int (own_c (q1 &&& (255 : Int32)))), (.ref b101), (.ref b101)]))
      obtain ⟨T105, h105, L105, X105, e105, N105, P105, st105⟩ := own_callSW X101 hx hZ hown (hw _ (List.mem_of_getElem? (i := 3) rfl)) (hw _ (List.mem_of_getElem? (i := 4) rfl)) (hw _ (List.mem_of_getElem? (i := 5) rfl)) (hw _ (List.mem_of_getElem? (i := 6) rfl)) (by decide) (rm1 l Z a0 hw [] (own_c (q1 &&& (255 : Int32))) h101 n0 z101 (own_c255 _) cs hcs Se102) e101 (Fr.nil n0) (W := 2) (by decide) (by decide) (by decide) (by decide) (g := (mkF m 45 #[.val (.int q0), .val (.int q1), .val (.long q2), .second, .val (.int q3), .val (.long q4), .second, .val (.int (1 : Int32)), .val (.int (0 : Int32)), .unset, .unset, .unset, .unset, .unset] [(.int (own_c (q1 &&& (255 : Int32)))), (.ref b101), (.ref b101)])) rfl (by rw [hml]; rfl) (argsL := [(.int (own_c (q1 &&& (255 : Int32))))]) (rest := [(.ref b101), (.ref b101)]) (lenOf (by decide +kernel : parseMethodDescriptor "(C)Ljava/lang/String;" = some ⟨[.char], some (.object "java/lang/String")⟩) rfl) rfl rfl (by show 2 * 0 + _ ≤ _; exact Nat.le_of_eq rfl) (hb hby at_45)
      obtain ⟨sb106, gsb106⟩ : ∃ z, z = h101.size := ⟨_, rfl⟩
      rw [← gsb106] at st105
      have Sk107 := own_sta_keep0 Se102 P105
      have Ek108 := A101.keep P105
      have Fk109 := Fd103.keep P105 (fun q => nomatch q)
      have Fk110 := Fd104.keep P105 (fun q => nomatch q)
      have zk111 := Nat.le_trans z101 P105.1
      refine own_go (fun _ => st105 _) ?_
      show own_G p e below s _ _ _ (T105.setTop (mkF m 48 #[.val (.int q0), .val (.int q1), .val (.long q2), .second, .val (.int q3), .val (.long q4), .second, .val (.int (1 : Int32)), .val (.int (0 : Int32)), .unset, .unset, .unset, .unset, .unset] [(.ref sb106), (.ref b101), (.ref b101)]))
      refine own_go (fun _ => XS.lloadN X105.here hx rfl (hb hby at_48) rfl) ?_
      show own_G p e below s _ _ _ (T105.setTop (mkF m 49 #[.val (.int q0), .val (.int q1), .val (.long q2), .second, .val (.int q3), .val (.long q4), .second, .val (.int (1 : Int32)), .val (.int (0 : Int32)), .unset, .unset, .unset, .unset, .unset] [(.long q2), (.ref sb106), (.ref b101), (.ref b101)]))
      obtain ⟨T112, h112, L112, X112, e112, N112, P112, st112⟩ := own_callI X105 hx hZ rfl hown (hw _ (List.mem_of_getElem? (i := 29) rfl)) (hw _ (List.mem_of_getElem? (i := 30) rfl)) (hw _ (List.mem_of_getElem? (i := 31) rfl)) (hw _ (List.mem_of_getElem? (i := 2) rfl)) (by decide) (rm6 l Z a0 hw [] b101 sb106 q2 h105 n0 zk111 g101 Ek108 Fk109 Fk110) e105 N105 (W := 1) (by decide) (by decide) (by decide) (by decide) (g := (mkF m 49 #[.val (.int q0), .val (.int q1), .val (.long q2), .second, .val (.int q3), .val (.long q4), .second, .val (.int (1 : Int32)), .val (.int (0 : Int32)), .unset, .unset, .unset, .unset, .unset] [(.long q2), (.ref sb106), (.ref b101), (.ref b101)])) rfl (by rw [hml]; rfl) (argsL := [(.ref sb106), (.long q2)]) (rest := [(.ref b101)]) (lenOf (by decide +kernel : parseMethodDescriptor "(Ljava/lang/String;J)V" = some ⟨[(.object "java/lang/String"), .long], none⟩) rfl) rfl rfl (by show 2 * 0 + _ ≤ _; exact Nat.le_of_eq rfl) (hb hby at_49)
      obtain ⟨K112, Ec112, Fc112_0, Fc112_1⟩ := P112
      have Sk113 := own_sta_keep Sk107 Ek108 K112
      have Ek114 := Ek108.keep K112
      have zk115 := Nat.le_trans zk111 K112.1
      refine own_go (fun _ => st112 _) ?_
      show own_G p e below s _ _ _ (T112.setTop (mkF m 52 #[.val (.int q0), .val (.int q1), .val (.long q2), .second, .val (.int q3), .val (.long q4), .second, .val (.int (1 : Int32)), .val (.int (0 : Int32)), .unset, .unset, .unset, .unset, .unset] [(.ref b101)]))
      refine own_go (fun _ => XS.astore X112.here hx rfl (hb hby at_52) rfl rfl (l' := #[.val (.int q0), .val (.int q1), .val (.long q2), .second, .val (.int q3), .val (.long q4), .second, .val (.int (1 : Int32)), .val (.int (0 : Int32)), .val (.ref b101), .unset, .unset, .unset, .unset]) rfl) ?_
      show own_G p e below s _ _ _ (T112.setTop (mkF m 54 #[.val (.int q0), .val (.int q1), .val (.long q2), .second, .val (.int q3), .val (.long q4), .second, .val (.int (1 : Int32)), .val (.int (0 : Int32)), .val (.ref b101), .unset, .unset, .unset, .unset] []))
      refine own_go (fun _ => XS.iload X112.here hx rfl (hb hby at_54) rfl) ?_
      show own_G p e below s _ _ _ (T112.setTop (mkF m 56 #[.val (.int q0), .val (.int q1), .val (.long q2), .second, .val (.int q3), .val (.long q4), .second, .val (.int (1 : Int32)), .val (.int (0 : Int32)), .val (.ref b101), .unset, .unset, .unset, .unset] [(.int (1 : Int32))]))
      refine own_go (fun _ => XS.ifNo X112.here hx rfl (hb hby at_56) rfl ((if0 _ _).trans (feq (by decide : ¬ ((1 : Int32) = (0 : Int32)))).1)) ?_
      show own_G p e below s _ _ _ (T112.setTop (mkF m 59 #[.val (.int q0), .val (.int q1), .val (.long q2), .second, .val (.int q3), .val (.long q4), .second, .val (.int (1 : Int32)), .val (.int (0 : Int32)), .val (.ref b101), .unset, .unset, .unset, .unset] []))
      refine own_go (fun _ => XS.aconstNull X112.here hx rfl (hb hby at_59)) ?_
      show own_G p e below s _ _ _ (T112.setTop (mkF m 60 #[.val (.int q0), .val (.int q1), .val (.long q2), .second, .val (.int q3), .val (.long q4), .second, .val (.int (1 : Int32)), .val (.int (0 : Int32)), .val (.ref b101), .unset, .unset, .unset, .unset] [.null]))
      refine own_go (fun _ => XS.goto X112.here hx rfl (pc0 := 60) (pc' := 82) rfl (hb hby at_60) (by decide) (by decide)) ?_
      show own_G p e below s _ _ _ (T112.setTop (mkF m 82 #[.val (.int q0), .val (.int q1), .val (.long q2), .second, .val (.int q3), .val (.long q4), .second, .val (.int (1 : Int32)), .val (.int (0 : Int32)), .val (.ref b101), .unset, .unset, .unset, .unset] [.null]))
      refine own_go (fun _ => XS.astore X112.here hx rfl (hb hby at_82) rfl rfl (l' := #[.val (.int q0), .val (.int q1), .val (.long q2), .second, .val (.int q3), .val (.long q4), .second, .val (.int (1 : Int32)), .val (.int (0 : Int32)), .val (.ref b101), .val .null, .unset, .unset, .unset]) rfl) ?_
      show own_G p e below s _ _ _ (T112.setTop (mkF m 84 #[.val (.int q0), .val (.int q1), .val (.long q2), .second, .val (.int q3), .val (.long q4), .second, .val (.int (1 : Int32)), .val (.int (0 : Int32)), .val (.ref b101), .val .null, .unset, .unset, .unset] []))
      obtain ⟨T116, h116, b116, X116, e116, E116, ga116, g116, z116, A116, D116, st116⟩ := own_newO X112 hx hZ hown (hw _ (List.mem_of_getElem? (i := 42) rfl)) (hw _ (List.mem_of_getElem? (i := 43) rfl)) (hw _ (List.mem_of_getElem? (i := 44) rfl)) e112 zk115 (g := (mkF m 84 #[.val (.int q0), .val (.int q1), .val (.long q2), .second, .val (.int q3), .val (.long q4), .second, .val (.int (1 : Int32)), .val (.int (0 : Int32)), .val (.ref b101), .val .null, .unset, .unset, .unset] [])) rfl (hb hby at_84) (by decide) (by decide)
      have ne117 : b101 ≠ b116 := Nat.ne_of_lt (Nat.lt_of_lt_of_eq Ec112.lt ga116.symm)
      have Ee118 := Ec112.ext E116
      have Fe119 := Fc112_0.ext E116
      have Fe120 := Fc112_1.ext E116
      have Se121 := Sk113.ext E116
      have Fd122 : Fld Z h116 b116 "org/ripplelog/event/ResumePoint" "position" "Lorg/ripplelog/event/BinlogPosition;" .null := D116 (Or.inr (hw _ (List.mem_of_getElem? (i := 50) rfl))) (ty := (.object "org/ripplelog/event/BinlogPosition")) (by decide)
      have Fd123 : Fld Z h116 b116 "org/ripplelog/event/ResumePoint" "prepared" "Lorg/ripplelog/event/BinlogPosition;" .null := D116 (Or.inr (hw _ (List.mem_of_getElem? (i := 52) rfl))) (ty := (.object "org/ripplelog/event/BinlogPosition")) (by decide)
      refine own_go (fun _ => st116 _) ?_
      show own_G p e below s _ _ _ (T116.setTop (mkF m 87 #[.val (.int q0), .val (.int q1), .val (.long q2), .second, .val (.int q3), .val (.long q4), .second, .val (.int (1 : Int32)), .val (.int (0 : Int32)), .val (.ref b101), .val .null, .unset, .unset, .unset] [(.ref b116)]))
      refine own_go (fun _ => XS.dup X116.here hx rfl (hb hby at_87) rfl rfl) ?_
      show own_G p e below s _ _ _ (T116.setTop (mkF m 88 #[.val (.int q0), .val (.int q1), .val (.long q2), .second, .val (.int q3), .val (.long q4), .second, .val (.int (1 : Int32)), .val (.int (0 : Int32)), .val (.ref b101), .val .null, .unset, .unset, .unset] [(.ref b116), (.ref b116)]))
      refine own_go (fun _ => XS.aload X116.here hx rfl (hb hby at_88) rfl rfl) ?_
      show own_G p e below s _ _ _ (T116.setTop (mkF m 90 #[.val (.int q0), .val (.int q1), .val (.long q2), .second, .val (.int q3), .val (.long q4), .second, .val (.int (1 : Int32)), .val (.int (0 : Int32)), .val (.ref b101), .val .null, .unset, .unset, .unset] [(.ref b101), (.ref b116), (.ref b116)]))
      refine own_go (fun _ => XS.aload X116.here hx rfl (hb hby at_90) rfl rfl) ?_
      show own_G p e below s _ _ _ (T116.setTop (mkF m 92 #[.val (.int q0), .val (.int q1), .val (.long q2), .second, .val (.int q3), .val (.long q4), .second, .val (.int (1 : Int32)), .val (.int (0 : Int32)), .val (.ref b101), .val .null, .unset, .unset, .unset] [.null, (.ref b101), (.ref b116), (.ref b116)]))
      obtain ⟨T124, h124, L124, X124, e124, N124, P124, st124⟩ := own_callI X116 hx hZ rfl hown (hw _ (List.mem_of_getElem? (i := 45) rfl)) (hw _ (List.mem_of_getElem? (i := 46) rfl)) (hw _ (List.mem_of_getElem? (i := 47) rfl)) (hw _ (List.mem_of_getElem? (i := 44) rfl)) (by decide) (rm8 l Z a0 hw [] b116 (.ref b101) .null h116 n0 z116 g116 A116 Fd122 Fd123 rfl rfl) e116 N112 (W := 1) (by decide) (by decide) (by decide) (by decide) (g := (mkF m 92 #[.val (.int q0), .val (.int q1), .val (.long q2), .second, .val (.int q3), .val (.long q4), .second, .val (.int (1 : Int32)), .val (.int (0 : Int32)), .val (.ref b101), .val .null, .unset, .unset, .unset] [.null, (.ref b101), (.ref b116), (.ref b116)])) rfl (by rw [hml]; rfl) (argsL := [(.ref b101), .null]) (rest := [(.ref b116)]) (lenOf (by decide +kernel : parseMethodDescriptor "(Lorg/ripplelog/event/BinlogPosition;Lorg/ripplelog/event/BinlogPosition;)V" = some ⟨[(.object "org/ripplelog/event/BinlogPosition"), (.object "org/ripplelog/event/BinlogPosition")], none⟩) rfl) rfl rfl (by show 2 * 0 + _ ≤ _; exact Nat.le_of_eq rfl) (hb hby at_92)
      obtain ⟨K124, Ec124, Fc124_0, Fc124_1⟩ := P124
      have Sk125 := own_sta_keep Se121 A116 K124
      have Ek126 := Ee118.keep K124
      have Ek127 := A116.keep K124
      have Fk128 := Fe119.keep K124 (fun q => ne117 (List.mem_singleton.mp q))
      have Fk129 := Fe120.keep K124 (fun q => ne117 (List.mem_singleton.mp q))
      have zk130 := Nat.le_trans z116 K124.1
      refine own_go (fun _ => st124 _) ?_
      show own_G p e below s _ _ _ (T124.setTop (mkF m 95 #[.val (.int q0), .val (.int q1), .val (.long q2), .second, .val (.int q3), .val (.long q4), .second, .val (.int (1 : Int32)), .val (.int (0 : Int32)), .val (.ref b101), .val .null, .unset, .unset, .unset] [(.ref b116)]))
      refine own_go (fun _ => XS.astore X124.here hx rfl (hb hby at_95) rfl rfl (l' := #[.val (.int q0), .val (.int q1), .val (.long q2), .second, .val (.int q3), .val (.long q4), .second, .val (.int (1 : Int32)), .val (.int (0 : Int32)), .val (.ref b101), .val .null, .val (.ref b116), .unset, .unset]) rfl) ?_
      show own_G p e below s _ _ _ (T124.setTop (mkF m 97 #[.val (.int q0), .val (.int q1), .val (.long q2), .second, .val (.int q3), .val (.long q4), .second, .val (.int (1 : Int32)), .val (.int (0 : Int32)), .val (.ref b101), .val .null, .val (.ref b116), .unset, .unset] []))
      refine own_go (fun _ => XS.aload X124.here hx rfl (hb hby at_97) rfl rfl) ?_
      show own_G p e below s _ _ _ (T124.setTop (mkF m 99 #[.val (.int q0), .val (.int q1), .val (.long q2), .second, .val (.int q3), .val (.long q4), .second, .val (.int (1 : Int32)), .val (.int (0 : Int32)), .val (.ref b101), .val .null, .val (.ref b116), .unset, .unset] [(.ref b116)]))
      obtain ⟨T131, X131, e131, st131⟩ := own_callV X124 hx hZ hown (hw _ (List.mem_of_getElem? (i := 53) rfl)) (hw _ (List.mem_of_getElem? (i := 54) rfl)) (hw _ (List.mem_of_getElem? (i := 56) rfl)) (hw _ (List.mem_of_getElem? (i := 55) rfl)) (hw _ (List.mem_of_getElem? (i := 57) rfl)) (hw _ (List.mem_of_getElem? (i := 44) rfl)) (by decide) (rm9n l Z a0 hw [] b116 h124 (.ref b101) rfl Fc124_0 Fc124_1) rfl rfl e124 Ec124 (W := 0) (by decide) (by decide) (by decide) (by decide) (g := (mkF m 99 #[.val (.int q0), .val (.int q1), .val (.long q2), .second, .val (.int q3), .val (.long q4), .second, .val (.int (1 : Int32)), .val (.int (0 : Int32)), .val (.ref b101), .val .null, .val (.ref b116), .unset, .unset] [(.ref b116)])) rfl (by rw [hml]; rfl) (argsL := []) (rest := []) (lenOf (by decide +kernel : parseMethodDescriptor "()Lorg/ripplelog/event/BinlogPosition;" = some ⟨[], some (.object "org/ripplelog/event/BinlogPosition")⟩) rfl) rfl rfl (by show 2 * 0 + _ ≤ _; exact Nat.le_of_eq rfl) (hb hby at_99)
      refine own_go (fun _ => st131 _) ?_
      show own_G p e below s _ _ _ (T131.setTop (mkF m 102 #[.val (.int q0), .val (.int q1), .val (.long q2), .second, .val (.int q3), .val (.long q4), .second, .val (.int (1 : Int32)), .val (.int (0 : Int32)), .val (.ref b101), .val .null, .val (.ref b116), .unset, .unset] [(.ref b101)]))
      refine own_go (fun _ => XS.astore X131.here hx rfl (hb hby at_102) rfl rfl (l' := #[.val (.int q0), .val (.int q1), .val (.long q2), .second, .val (.int q3), .val (.long q4), .second, .val (.int (1 : Int32)), .val (.int (0 : Int32)), .val (.ref b101), .val .null, .val (.ref b116), .val (.ref b101), .unset]) rfl) ?_
      show own_G p e below s _ _ _ (T131.setTop (mkF m 104 #[.val (.int q0), .val (.int q1), .val (.long q2), .second, .val (.int q3), .val (.long q4), .second, .val (.int (1 : Int32)), .val (.int (0 : Int32)), .val (.ref b101), .val .null, .val (.ref b116), .val (.ref b101), .unset] []))
      refine own_go (fun _ => XS.aload X131.here hx rfl (hb hby at_104) rfl rfl) ?_
      show own_G p e below s _ _ _ (T131.setTop (mkF m 106 #[.val (.int q0), .val (.int q1), .val (.long q2), .second, .val (.int q3), .val (.long q4), .second, .val (.int (1 : Int32)), .val (.int (0 : Int32)), .val (.ref b101), .val .null, .val (.ref b116), .val (.ref b101), .unset] [(.ref b116)]))
      obtain ⟨T132, X132, e132, st132⟩ := own_callV X131 hx hZ hown (hw _ (List.mem_of_getElem? (i := 53) rfl)) (hw _ (List.mem_of_getElem? (i := 54) rfl)) (hw _ (List.mem_of_getElem? (i := 56) rfl)) (hw _ (List.mem_of_getElem? (i := 55) rfl)) (hw _ (List.mem_of_getElem? (i := 57) rfl)) (hw _ (List.mem_of_getElem? (i := 44) rfl)) (by decide) (rm9n l Z a0 hw [] b116 h124 (.ref b101) rfl Fc124_0 Fc124_1) rfl rfl e131 Ec124 (W := 0) (by decide) (by decide) (by decide) (by decide) (g := (mkF m 106 #[.val (.int q0), .val (.int q1), .val (.long q2), .second, .val (.int q3), .val (.long q4), .second, .val (.int (1 : Int32)), .val (.int (0 : Int32)), .val (.ref b101), .val .null, .val (.ref b116), .val (.ref b101), .unset] [(.ref b116)])) rfl (by rw [hml]; rfl) (argsL := []) (rest := []) (lenOf (by decide +kernel : parseMethodDescriptor "()Lorg/ripplelog/event/BinlogPosition;" = some ⟨[], some (.object "org/ripplelog/event/BinlogPosition")⟩) rfl) rfl rfl (by show 2 * 0 + _ ≤ _; exact Nat.le_of_eq rfl) (hb hby at_106)
      refine own_go (fun _ => st132 _) ?_
      show own_G p e below s _ _ _ (T132.setTop (mkF m 109 #[.val (.int q0), .val (.int q1), .val (.long q2), .second, .val (.int q3), .val (.long q4), .second, .val (.int (1 : Int32)), .val (.int (0 : Int32)), .val (.ref b101), .val .null, .val (.ref b116), .val (.ref b101), .unset] [(.ref b101)]))
      refine own_go (fun _ => XS.astore X132.here hx rfl (hb hby at_109) rfl rfl (l' := #[.val (.int q0), .val (.int q1), .val (.long q2), .second, .val (.int q3), .val (.long q4), .second, .val (.int (1 : Int32)), .val (.int (0 : Int32)), .val (.ref b101), .val .null, .val (.ref b116), .val (.ref b101), .val (.ref b101)]) rfl) ?_
      show own_G p e below s _ _ _ (T132.setTop (mkF m 111 #[.val (.int q0), .val (.int q1), .val (.long q2), .second, .val (.int q3), .val (.long q4), .second, .val (.int (1 : Int32)), .val (.int (0 : Int32)), .val (.ref b101), .val .null, .val (.ref b116), .val (.ref b101), .val (.ref b101)] []))
      refine own_go (fun _ => XS.aload X132.here hx rfl (hb hby at_111) rfl rfl) ?_
      show own_G p e below s _ _ _ (T132.setTop (mkF m 113 #[.val (.int q0), .val (.int q1), .val (.long q2), .second, .val (.int q3), .val (.long q4), .second, .val (.int (1 : Int32)), .val (.int (0 : Int32)), .val (.ref b101), .val .null, .val (.ref b116), .val (.ref b101), .val (.ref b101)] [(.ref b101)]))
      refine own_go (fun _ => XS.aload X132.here hx rfl (hb hby at_113) rfl rfl) ?_
      show own_G p e below s _ _ _ (T132.setTop (mkF m 115 #[.val (.int q0), .val (.int q1), .val (.long q2), .second, .val (.int q3), .val (.long q4), .second, .val (.int (1 : Int32)), .val (.int (0 : Int32)), .val (.ref b101), .val .null, .val (.ref b116), .val (.ref b101), .val (.ref b101)] [(.ref b101), (.ref b101)]))
      refine own_go (fun _ => Jvm.RoadKit.acmp (g := (mkF m 115 #[.val (.int q0), .val (.int q1), .val (.long q2), .second, .val (.int q3), .val (.long q4), .second, .val (.int (1 : Int32)), .val (.int (0 : Int32)), .val (.ref b101), .val .null, .val (.ref b116), .val (.ref b101), .val (.ref b101)] [(.ref b101), (.ref b101)])) X132 hx rfl rfl rfl (pc0 := 115) (pc' := 120) (same := true) rfl (hb hby at_115) rfl (decide_eq_true rfl) (by decide) (by decide)) ?_
      show own_G p e below s _ _ _ (T132.setTop (mkF m 120 #[.val (.int q0), .val (.int q1), .val (.long q2), .second, .val (.int q3), .val (.long q4), .second, .val (.int (1 : Int32)), .val (.int (0 : Int32)), .val (.ref b101), .val .null, .val (.ref b116), .val (.ref b101), .val (.ref b101)] []))
      refine own_go (fun _ => XS.aload X132.here hx rfl (hb hby at_120) rfl rfl) ?_
      show own_G p e below s _ _ _ (T132.setTop (mkF m 122 #[.val (.int q0), .val (.int q1), .val (.long q2), .second, .val (.int q3), .val (.long q4), .second, .val (.int (1 : Int32)), .val (.int (0 : Int32)), .val (.ref b101), .val .null, .val (.ref b116), .val (.ref b101), .val (.ref b101)] [(.ref b116)]))
      obtain ⟨T133, X133, e133, st133⟩ := own_callV X132 hx hZ hown (hw _ (List.mem_of_getElem? (i := 58) rfl)) (hw _ (List.mem_of_getElem? (i := 59) rfl)) (hw _ (List.mem_of_getElem? (i := 61) rfl)) (hw _ (List.mem_of_getElem? (i := 60) rfl)) (hw _ (List.mem_of_getElem? (i := 62) rfl)) (hw _ (List.mem_of_getElem? (i := 44) rfl)) (by decide) (rm10 l Z a0 hw [] b116 h124 (.ref b101) rfl Fc124_0) rfl rfl e132 Ec124 (W := 0) (by decide) (by decide) (by decide) (by decide) (g := (mkF m 122 #[.val (.int q0), .val (.int q1), .val (.long q2), .second, .val (.int q3), .val (.long q4), .second, .val (.int (1 : Int32)), .val (.int (0 : Int32)), .val (.ref b101), .val .null, .val (.ref b116), .val (.ref b101), .val (.ref b101)] [(.ref b116)])) rfl (by rw [hml]; rfl) (argsL := []) (rest := []) (lenOf (by decide +kernel : parseMethodDescriptor "()Lorg/ripplelog/event/BinlogPosition;" = some ⟨[], some (.object "org/ripplelog/event/BinlogPosition")⟩) rfl) rfl rfl (by show 2 * 0 + _ ≤ _; exact Nat.le_of_eq rfl) (hb hby at_122)
      refine own_go (fun _ => st133 _) ?_
      show own_G p e below s _ _ _ (T133.setTop (mkF m 125 #[.val (.int q0), .val (.int q1), .val (.long q2), .second, .val (.int q3), .val (.long q4), .second, .val (.int (1 : Int32)), .val (.int (0 : Int32)), .val (.ref b101), .val .null, .val (.ref b116), .val (.ref b101), .val (.ref b101)] [(.ref b101)]))
      refine own_go (fun _ => XS.aload X133.here hx rfl (hb hby at_125) rfl rfl) ?_
      show own_G p e below s _ _ _ (T133.setTop (mkF m 127 #[.val (.int q0), .val (.int q1), .val (.long q2), .second, .val (.int q3), .val (.long q4), .second, .val (.int (1 : Int32)), .val (.int (0 : Int32)), .val (.ref b101), .val .null, .val (.ref b116), .val (.ref b101), .val (.ref b101)] [(.ref b101), (.ref b101)]))
      refine own_go (fun _ => Jvm.RoadKit.acmp (g := (mkF m 127 #[.val (.int q0), .val (.int q1), .val (.long q2), .second, .val (.int q3), .val (.long q4), .second, .val (.int (1 : Int32)), .val (.int (0 : Int32)), .val (.ref b101), .val .null, .val (.ref b116), .val (.ref b101), .val (.ref b101)] [(.ref b101), (.ref b101)])) X133 hx rfl rfl rfl (pc0 := 127) (pc' := 130) (same := true) rfl (hb hby at_127) rfl (decide_eq_true rfl) (by decide) (by decide)) ?_
      show own_G p e below s _ _ _ (T133.setTop (mkF m 130 #[.val (.int q0), .val (.int q1), .val (.long q2), .second, .val (.int q3), .val (.long q4), .second, .val (.int (1 : Int32)), .val (.int (0 : Int32)), .val (.ref b101), .val .null, .val (.ref b116), .val (.ref b101), .val (.ref b101)] []))
      refine own_go (fun _ => XS.aload X133.here hx rfl (hb hby at_130) rfl rfl) ?_
      show own_G p e below s _ _ _ (T133.setTop (mkF m 132 #[.val (.int q0), .val (.int q1), .val (.long q2), .second, .val (.int q3), .val (.long q4), .second, .val (.int (1 : Int32)), .val (.int (0 : Int32)), .val (.ref b101), .val .null, .val (.ref b116), .val (.ref b101), .val (.ref b101)] [(.ref b116)]))
      obtain ⟨T134, X134, e134, st134⟩ := own_callV X133 hx hZ hown (hw _ (List.mem_of_getElem? (i := 63) rfl)) (hw _ (List.mem_of_getElem? (i := 64) rfl)) (hw _ (List.mem_of_getElem? (i := 66) rfl)) (hw _ (List.mem_of_getElem? (i := 65) rfl)) (hw _ (List.mem_of_getElem? (i := 67) rfl)) (hw _ (List.mem_of_getElem? (i := 44) rfl)) (by decide) (rm11 l Z a0 hw [] b116 h124 .null rfl Fc124_1) rfl rfl e133 Ec124 (W := 0) (by decide) (by decide) (by decide) (by decide) (g := (mkF m 132 #[.val (.int q0), .val (.int q1), .val (.long q2), .second, .val (.int q3), .val (.long q4), .second, .val (.int (1 : Int32)), .val (.int (0 : Int32)), .val (.ref b101), .val .null, .val (.ref b116), .val (.ref b101), .val (.ref b101)] [(.ref b116)])) rfl (by rw [hml]; rfl) (argsL := []) (rest := []) (lenOf (by decide +kernel : parseMethodDescriptor "()Lorg/ripplelog/event/BinlogPosition;" = some ⟨[], some (.object "org/ripplelog/event/BinlogPosition")⟩) rfl) rfl rfl (by show 2 * 0 + _ ≤ _; exact Nat.le_of_eq rfl) (hb hby at_132)
      refine own_go (fun _ => st134 _) ?_
      show own_G p e below s _ _ _ (T134.setTop (mkF m 135 #[.val (.int q0), .val (.int q1), .val (.long q2), .second, .val (.int q3), .val (.long q4), .second, .val (.int (1 : Int32)), .val (.int (0 : Int32)), .val (.ref b101), .val .null, .val (.ref b116), .val (.ref b101), .val (.ref b101)] [.null]))
      refine own_go (fun _ => XS.aload X134.here hx rfl (hb hby at_135) rfl rfl) ?_
      show own_G p e below s _ _ _ (T134.setTop (mkF m 137 #[.val (.int q0), .val (.int q1), .val (.long q2), .second, .val (.int q3), .val (.long q4), .second, .val (.int (1 : Int32)), .val (.int (0 : Int32)), .val (.ref b101), .val .null, .val (.ref b116), .val (.ref b101), .val (.ref b101)] [.null, .null]))
      refine own_go (fun _ => Jvm.RoadKit.acmp (g := (mkF m 137 #[.val (.int q0), .val (.int q1), .val (.long q2), .second, .val (.int q3), .val (.long q4), .second, .val (.int (1 : Int32)), .val (.int (0 : Int32)), .val (.ref b101), .val .null, .val (.ref b116), .val (.ref b101), .val (.ref b101)] [.null, .null])) X134 hx rfl rfl rfl (pc0 := 137) (pc' := 142) (same := true) rfl (hb hby at_137) rfl (decide_eq_true rfl) (by decide) (by decide)) ?_
      show own_G p e below s _ _ _ (T134.setTop (mkF m 142 #[.val (.int q0), .val (.int q1), .val (.long q2), .second, .val (.int q3), .val (.long q4), .second, .val (.int (1 : Int32)), .val (.int (0 : Int32)), .val (.ref b101), .val .null, .val (.ref b116), .val (.ref b101), .val (.ref b101)] []))
      refine own_go (fun _ => XS.iload X134.here hx rfl (hb hby at_142) rfl) ?_
      show own_G p e below s _ _ _ (T134.setTop (mkF m 144 #[.val (.int q0), .val (.int q1), .val (.long q2), .second, .val (.int q3), .val (.long q4), .second, .val (.int (1 : Int32)), .val (.int (0 : Int32)), .val (.ref b101), .val .null, .val (.ref b116), .val (.ref b101), .val (.ref b101)] [(.int (1 : Int32))]))
      refine own_go (fun _ => XS.ifNo X134.here hx rfl (hb hby at_144) rfl ((if0 _ _).trans (feq (by decide : ¬ ((1 : Int32) = (0 : Int32)))).1)) ?_
      show own_G p e below s _ _ _ (T134.setTop (mkF m 147 #[.val (.int q0), .val (.int q1), .val (.long q2), .second, .val (.int q3), .val (.long q4), .second, .val (.int (1 : Int32)), .val (.int (0 : Int32)), .val (.ref b101), .val .null, .val (.ref b116), .val (.ref b101), .val (.ref b101)] []))
      refine own_go (fun _ => XS.aload X134.here hx rfl (hb hby at_147) rfl rfl) ?_
      show own_G p e below s _ _ _ (T134.setTop (mkF m 149 #[.val (.int q0), .val (.int q1), .val (.long q2), .second, .val (.int q3), .val (.long q4), .second, .val (.int (1 : Int32)), .val (.int (0 : Int32)), .val (.ref b101), .val .null, .val (.ref b116), .val (.ref b101), .val (.ref b101)] [(.ref b101)]))
      refine own_go (fun _ => XS.aload X134.here hx rfl (hb hby at_149) rfl rfl) ?_
      show own_G p e below s _ _ _ (T134.setTop (mkF m 151 #[.val (.int q0), .val (.int q1), .val (.long q2), .second, .val (.int q3), .val (.long q4), .second, .val (.int (1 : Int32)), .val (.int (0 : Int32)), .val (.ref b101), .val .null, .val (.ref b116), .val (.ref b101), .val (.ref b101)] [(.ref b101), (.ref b101)]))
      refine own_go (fun _ => Jvm.RoadKit.acmp (g := (mkF m 151 #[.val (.int q0), .val (.int q1), .val (.long q2), .second, .val (.int q3), .val (.long q4), .second, .val (.int (1 : Int32)), .val (.int (0 : Int32)), .val (.ref b101), .val .null, .val (.ref b116), .val (.ref b101), .val (.ref b101)] [(.ref b101), (.ref b101)])) X134 hx rfl rfl rfl (pc0 := 151) (pc' := 154) (same := true) rfl (hb hby at_151) rfl (decide_eq_true rfl) (by decide) (by decide)) ?_
      show own_G p e below s _ _ _ (T134.setTop (mkF m 154 #[.val (.int q0), .val (.int q1), .val (.long q2), .second, .val (.int q3), .val (.long q4), .second, .val (.int (1 : Int32)), .val (.int (0 : Int32)), .val (.ref b101), .val .null, .val (.ref b116), .val (.ref b101), .val (.ref b101)] []))
      refine own_go (fun _ => XS.iconst X134.here hx rfl (hb hby at_154)) ?_
      show own_G p e below s _ _ _ (T134.setTop (mkF m 155 #[.val (.int q0), .val (.int q1), .val (.long q2), .second, .val (.int q3), .val (.long q4), .second, .val (.int (1 : Int32)), .val (.int (0 : Int32)), .val (.ref b101), .val .null, .val (.ref b116), .val (.ref b101), .val (.ref b101)] [(.int (1 : Int32))]))
      refine own_go (fun _ => XS.goto X134.here hx rfl (pc0 := 155) (pc' := 159) rfl (hb hby at_155) (by decide) (by decide)) ?_
      show own_G p e below s _ _ _ (T134.setTop (mkF m 159 #[.val (.int q0), .val (.int q1), .val (.long q2), .second, .val (.int q3), .val (.long q4), .second, .val (.int (1 : Int32)), .val (.int (0 : Int32)), .val (.ref b101), .val .null, .val (.ref b116), .val (.ref b101), .val (.ref b101)] [(.int (1 : Int32))]))
      exact own_retN X134 hx hlk (t := .boolean) Bd.returns (by simp) (hb hby at_159) (by decide) (by decide) ⟨rfl, N124⟩
    · refine own_eqF (if_neg hc16) ?_
      refine own_go (fun _ => XS.ifNo X0.here hx rfl (hb hby at_16) rfl ((if0 _ _).trans (feq hc16).1)) ?_
      show own_G p e below s _ _ _ (s₁.setTop (mkF m 19 #[.val (.int q0), .val (.int q1), .val (.long q2), .second, .val (.int q3), .val (.long q4), .second, .val (.int (1 : Int32)), .unset, .unset, .unset, .unset, .unset, .unset] []))
      refine own_go (fun _ => XS.iconst X0.here hx rfl (hb hby at_19)) ?_
      show own_G p e below s _ _ _ (s₁.setTop (mkF m 20 #[.val (.int q0), .val (.int q1), .val (.long q2), .second, .val (.int q3), .val (.long q4), .second, .val (.int (1 : Int32)), .unset, .unset, .unset, .unset, .unset, .unset] [(.int (1 : Int32))]))
      refine own_go (fun _ => XS.goto X0.here hx rfl (pc0 := 20) (pc' := 24) rfl (hb hby at_20) (by decide) (by decide)) ?_
      show own_G p e below s _ _ _ (s₁.setTop (mkF m 24 #[.val (.int q0), .val (.int q1), .val (.long q2), .second, .val (.int q3), .val (.long q4), .second, .val (.int (1 : Int32)), .unset, .unset, .unset, .unset, .unset, .unset] [(.int (1 : Int32))]))
      refine own_go (fun _ => XS.istore X0.here hx rfl (hb hby at_24) rfl (l' := #[.val (.int q0), .val (.int q1), .val (.long q2), .second, .val (.int q3), .val (.long q4), .second, .val (.int (1 : Int32)), .val (.int (1 : Int32)), .unset, .unset, .unset, .unset, .unset]) rfl) ?_
      show own_G p e below s _ _ _ (s₁.setTop (mkF m 26 #[.val (.int q0), .val (.int q1), .val (.long q2), .second, .val (.int q3), .val (.long q4), .second, .val (.int (1 : Int32)), .val (.int (1 : Int32)), .unset, .unset, .unset, .unset, .unset] []))
      refine own_go (fun _ => XS.iload X0.here hx rfl (hb hby at_26) rfl) ?_
      show own_G p e below s _ _ _ (s₁.setTop (mkF m 28 #[.val (.int q0), .val (.int q1), .val (.long q2), .second, .val (.int q3), .val (.long q4), .second, .val (.int (1 : Int32)), .val (.int (1 : Int32)), .unset, .unset, .unset, .unset, .unset] [(.int (1 : Int32))]))
      refine own_go (fun _ => XS.ifNo X0.here hx rfl (hb hby at_28) rfl ((if0 _ _).trans (feq (by decide : ¬ ((1 : Int32) = (0 : Int32)))).1)) ?_
      show own_G p e below s _ _ _ (s₁.setTop (mkF m 31 #[.val (.int q0), .val (.int q1), .val (.long q2), .second, .val (.int q3), .val (.long q4), .second, .val (.int (1 : Int32)), .val (.int (1 : Int32)), .unset, .unset, .unset, .unset, .unset] []))
      refine own_go (fun _ => XS.aconstNull X0.here hx rfl (hb hby at_31)) ?_
      show own_G p e below s _ _ _ (s₁.setTop (mkF m 32 #[.val (.int q0), .val (.int q1), .val (.long q2), .second, .val (.int q3), .val (.long q4), .second, .val (.int (1 : Int32)), .val (.int (1 : Int32)), .unset, .unset, .unset, .unset, .unset] [.null]))
      refine own_go (fun _ => XS.goto X0.here hx rfl (pc0 := 32) (pc' := 52) rfl (hb hby at_32) (by decide) (by decide)) ?_
      show own_G p e below s _ _ _ (s₁.setTop (mkF m 52 #[.val (.int q0), .val (.int q1), .val (.long q2), .second, .val (.int q3), .val (.long q4), .second, .val (.int (1 : Int32)), .val (.int (1 : Int32)), .unset, .unset, .unset, .unset, .unset] [.null]))
      refine own_go (fun _ => XS.astore X0.here hx rfl (hb hby at_52) rfl rfl (l' := #[.val (.int q0), .val (.int q1), .val (.long q2), .second, .val (.int q3), .val (.long q4), .second, .val (.int (1 : Int32)), .val (.int (1 : Int32)), .val .null, .unset, .unset, .unset, .unset]) rfl) ?_
      show own_G p e below s _ _ _ (s₁.setTop (mkF m 54 #[.val (.int q0), .val (.int q1), .val (.long q2), .second, .val (.int q3), .val (.long q4), .second, .val (.int (1 : Int32)), .val (.int (1 : Int32)), .val .null, .unset, .unset, .unset, .unset] []))
      refine own_go (fun _ => XS.iload X0.here hx rfl (hb hby at_54) rfl) ?_
      show own_G p e below s _ _ _ (s₁.setTop (mkF m 56 #[.val (.int q0), .val (.int q1), .val (.long q2), .second, .val (.int q3), .val (.long q4), .second, .val (.int (1 : Int32)), .val (.int (1 : Int32)), .val .null, .unset, .unset, .unset, .unset] [(.int (1 : Int32))]))
      refine own_go (fun _ => XS.ifNo X0.here hx rfl (hb hby at_56) rfl ((if0 _ _).trans (feq (by decide : ¬ ((1 : Int32) = (0 : Int32)))).1)) ?_
      show own_G p e below s _ _ _ (s₁.setTop (mkF m 59 #[.val (.int q0), .val (.int q1), .val (.long q2), .second, .val (.int q3), .val (.long q4), .second, .val (.int (1 : Int32)), .val (.int (1 : Int32)), .val .null, .unset, .unset, .unset, .unset] []))
      refine own_go (fun _ => XS.aconstNull X0.here hx rfl (hb hby at_59)) ?_
      show own_G p e below s _ _ _ (s₁.setTop (mkF m 60 #[.val (.int q0), .val (.int q1), .val (.long q2), .second, .val (.int q3), .val (.long q4), .second, .val (.int (1 : Int32)), .val (.int (1 : Int32)), .val .null, .unset, .unset, .unset, .unset] [.null]))
      refine own_go (fun _ => XS.goto X0.here hx rfl (pc0 := 60) (pc' := 82) rfl (hb hby at_60) (by decide) (by decide)) ?_
      show own_G p e below s _ _ _ (s₁.setTop (mkF m 82 #[.val (.int q0), .val (.int q1), .val (.long q2), .second, .val (.int q3), .val (.long q4), .second, .val (.int (1 : Int32)), .val (.int (1 : Int32)), .val .null, .unset, .unset, .unset, .unset] [.null]))
      refine own_go (fun _ => XS.astore X0.here hx rfl (hb hby at_82) rfl rfl (l' := #[.val (.int q0), .val (.int q1), .val (.long q2), .second, .val (.int q3), .val (.long q4), .second, .val (.int (1 : Int32)), .val (.int (1 : Int32)), .val .null, .val .null, .unset, .unset, .unset]) rfl) ?_
      show own_G p e below s _ _ _ (s₁.setTop (mkF m 84 #[.val (.int q0), .val (.int q1), .val (.long q2), .second, .val (.int q3), .val (.long q4), .second, .val (.int (1 : Int32)), .val (.int (1 : Int32)), .val .null, .val .null, .unset, .unset, .unset] []))
      obtain ⟨T135, h135, b135, X135, e135, E135, ga135, g135, z135, A135, D135, st135⟩ := own_newO X0 hx hZ hown (hw _ (List.mem_of_getElem? (i := 42) rfl)) (hw _ (List.mem_of_getElem? (i := 43) rfl)) (hw _ (List.mem_of_getElem? (i := 44) rfl)) e0 Z0 (g := (mkF m 84 #[.val (.int q0), .val (.int q1), .val (.long q2), .second, .val (.int q3), .val (.long q4), .second, .val (.int (1 : Int32)), .val (.int (1 : Int32)), .val .null, .val .null, .unset, .unset, .unset] [])) rfl (hb hby at_84) (by decide) (by decide)
      have Se136 := S0.ext E135
      have Fd137 : Fld Z h135 b135 "org/ripplelog/event/ResumePoint" "position" "Lorg/ripplelog/event/BinlogPosition;" .null := D135 (Or.inr (hw _ (List.mem_of_getElem? (i := 50) rfl))) (ty := (.object "org/ripplelog/event/BinlogPosition")) (by decide)
      have Fd138 : Fld Z h135 b135 "org/ripplelog/event/ResumePoint" "prepared" "Lorg/ripplelog/event/BinlogPosition;" .null := D135 (Or.inr (hw _ (List.mem_of_getElem? (i := 52) rfl))) (ty := (.object "org/ripplelog/event/BinlogPosition")) (by decide)
      refine own_go (fun _ => st135 _) ?_
      show own_G p e below s _ _ _ (T135.setTop (mkF m 87 #[.val (.int q0), .val (.int q1), .val (.long q2), .second, .val (.int q3), .val (.long q4), .second, .val (.int (1 : Int32)), .val (.int (1 : Int32)), .val .null, .val .null, .unset, .unset, .unset] [(.ref b135)]))
      refine own_go (fun _ => XS.dup X135.here hx rfl (hb hby at_87) rfl rfl) ?_
      show own_G p e below s _ _ _ (T135.setTop (mkF m 88 #[.val (.int q0), .val (.int q1), .val (.long q2), .second, .val (.int q3), .val (.long q4), .second, .val (.int (1 : Int32)), .val (.int (1 : Int32)), .val .null, .val .null, .unset, .unset, .unset] [(.ref b135), (.ref b135)]))
      refine own_go (fun _ => XS.aload X135.here hx rfl (hb hby at_88) rfl rfl) ?_
      show own_G p e below s _ _ _ (T135.setTop (mkF m 90 #[.val (.int q0), .val (.int q1), .val (.long q2), .second, .val (.int q3), .val (.long q4), .second, .val (.int (1 : Int32)), .val (.int (1 : Int32)), .val .null, .val .null, .unset, .unset, .unset] [.null, (.ref b135), (.ref b135)]))
      refine own_go (fun _ => XS.aload X135.here hx rfl (hb hby at_90) rfl rfl) ?_
      show own_G p e below s _ _ _ (T135.setTop (mkF m 92 #[.val (.int q0), .val (.int q1), .val (.long q2), .second, .val (.int q3), .val (.long q4), .second, .val (.int (1 : Int32)), .val (.int (1 : Int32)), .val .null, .val .null, .unset, .unset, .unset] [.null, .null, (.ref b135), (.ref b135)]))
      obtain ⟨T139, h139, L139, X139, e139, N139, P139, st139⟩ := own_callI X135 hx hZ rfl hown (hw _ (List.mem_of_getElem? (i := 45) rfl)) (hw _ (List.mem_of_getElem? (i := 46) rfl)) (hw _ (List.mem_of_getElem? (i := 47) rfl)) (hw _ (List.mem_of_getElem? (i := 44) rfl)) (by decide) (rm8 l Z a0 hw [] b135 .null .null h135 n0 z135 g135 A135 Fd137 Fd138 rfl rfl) e135 (Fr.nil n0) (W := 1) (by decide) (by decide) (by decide) (by decide) (g := (mkF m 92 #[.val (.int q0), .val (.int q1), .val (.long q2), .second, .val (.int q3), .val (.long q4), .second, .val (.int (1 : Int32)), .val (.int (1 : Int32)), .val .null, .val .null, .unset, .unset, .unset] [.null, .null, (.ref b135), (.ref b135)])) rfl (by rw [hml]; rfl) (argsL := [.null, .null]) (rest := [(.ref b135)]) (lenOf (by decide +kernel : parseMethodDescriptor "(Lorg/ripplelog/event/BinlogPosition;Lorg/ripplelog/event/BinlogPosition;)V" = some ⟨[(.object "org/ripplelog/event/BinlogPosition"), (.object "org/ripplelog/event/BinlogPosition")], none⟩) rfl) rfl rfl (by show 2 * 0 + _ ≤ _; exact Nat.le_of_eq rfl) (hb hby at_92)
      obtain ⟨K139, Ec139, Fc139_0, Fc139_1⟩ := P139
      have Sk140 := own_sta_keep Se136 A135 K139
      have Ek141 := A135.keep K139
      have zk142 := Nat.le_trans z135 K139.1
      refine own_go (fun _ => st139 _) ?_
      show own_G p e below s _ _ _ (T139.setTop (mkF m 95 #[.val (.int q0), .val (.int q1), .val (.long q2), .second, .val (.int q3), .val (.long q4), .second, .val (.int (1 : Int32)), .val (.int (1 : Int32)), .val .null, .val .null, .unset, .unset, .unset] [(.ref b135)]))
      refine own_go (fun _ => XS.astore X139.here hx rfl (hb hby at_95) rfl rfl (l' := #[.val (.int q0), .val (.int q1), .val (.long q2), .second, .val (.int q3), .val (.long q4), .second, .val (.int (1 : Int32)), .val (.int (1 : Int32)), .val .null, .val .null, .val (.ref b135), .unset, .unset]) rfl) ?_
      show own_G p e below s _ _ _ (T139.setTop (mkF m 97 #[.val (.int q0), .val (.int q1), .val (.long q2), .second, .val (.int q3), .val (.long q4), .second, .val (.int (1 : Int32)), .val (.int (1 : Int32)), .val .null, .val .null, .val (.ref b135), .unset, .unset] []))
      refine own_go (fun _ => XS.aload X139.here hx rfl (hb hby at_97) rfl rfl) ?_
      show own_G p e below s _ _ _ (T139.setTop (mkF m 99 #[.val (.int q0), .val (.int q1), .val (.long q2), .second, .val (.int q3), .val (.long q4), .second, .val (.int (1 : Int32)), .val (.int (1 : Int32)), .val .null, .val .null, .val (.ref b135), .unset, .unset] [(.ref b135)]))
      obtain ⟨T143, X143, e143, st143⟩ := own_callV X139 hx hZ hown (hw _ (List.mem_of_getElem? (i := 53) rfl)) (hw _ (List.mem_of_getElem? (i := 54) rfl)) (hw _ (List.mem_of_getElem? (i := 56) rfl)) (hw _ (List.mem_of_getElem? (i := 55) rfl)) (hw _ (List.mem_of_getElem? (i := 57) rfl)) (hw _ (List.mem_of_getElem? (i := 44) rfl)) (by decide) (rm9n l Z a0 hw [] b135 h139 .null rfl Fc139_0 Fc139_1) rfl rfl e139 Ec139 (W := 0) (by decide) (by decide) (by decide) (by decide) (g := (mkF m 99 #[.val (.int q0), .val (.int q1), .val (.long q2), .second, .val (.int q3), .val (.long q4), .second, .val (.int (1 : Int32)), .val (.int (1 : Int32)), .val .null, .val .null, .val (.ref b135), .unset, .unset] [(.ref b135)])) rfl (by rw [hml]; rfl) (argsL := []) (rest := []) (lenOf (by decide +kernel : parseMethodDescriptor "()Lorg/ripplelog/event/BinlogPosition;" = some ⟨[], some (.object "org/ripplelog/event/BinlogPosition")⟩) rfl) rfl rfl (by show 2 * 0 + _ ≤ _; exact Nat.le_of_eq rfl) (hb hby at_99)
      refine own_go (fun _ => st143 _) ?_
      show own_G p e below s _ _ _ (T143.setTop (mkF m 102 #[.val (.int q0), .val (.int q1), .val (.long q2), .second, .val (.int q3), .val (.long q4), .second, .val (.int (1 : Int32)), .val (.int (1 : Int32)), .val .null, .val .null, .val (.ref b135), .unset, .unset] [.null]))
      refine own_go (fun _ => XS.astore X143.here hx rfl (hb hby at_102) rfl rfl (l' := #[.val (.int q0), .val (.int q1), .val (.long q2), .second, .val (.int q3), .val (.long q4), .second, .val (.int (1 : Int32)), .val (.int (1 : Int32)), .val .null, .val .null, .val (.ref b135), .val .null, .unset]) rfl) ?_
      show own_G p e below s _ _ _ (T143.setTop (mkF m 104 #[.val (.int q0), .val (.int q1), .val (.long q2), .second, .val (.int q3), .val (.long q4), .second, .val (.int (1 : Int32)), .val (.int (1 : Int32)), .val .null, .val .null, .val (.ref b135), .val .null, .unset] []))
      refine own_go (fun _ => XS.aload X143.here hx rfl (hb hby at_104) rfl rfl) ?_
      show own_G p e below s _ _ _ (T143.setTop (mkF m 106 #[.val (.int q0), .val (.int q1), .val (.long q2), .second, .val (.int q3), .val (.long q4), .second, .val (.int (1 : Int32)), .val (.int (1 : Int32)), .val .null, .val .null, .val (.ref b135), .val .null, .unset] [(.ref b135)]))
      obtain ⟨T144, X144, e144, st144⟩ := own_callV X143 hx hZ hown (hw _ (List.mem_of_getElem? (i := 53) rfl)) (hw _ (List.mem_of_getElem? (i := 54) rfl)) (hw _ (List.mem_of_getElem? (i := 56) rfl)) (hw _ (List.mem_of_getElem? (i := 55) rfl)) (hw _ (List.mem_of_getElem? (i := 57) rfl)) (hw _ (List.mem_of_getElem? (i := 44) rfl)) (by decide) (rm9n l Z a0 hw [] b135 h139 .null rfl Fc139_0 Fc139_1) rfl rfl e143 Ec139 (W := 0) (by decide) (by decide) (by decide) (by decide) (g := (mkF m 106 #[.val (.int q0), .val (.int q1), .val (.long q2), .second, .val (.int q3), .val (.long q4), .second, .val (.int (1 : Int32)), .val (.int (1 : Int32)), .val .null, .val .null, .val (.ref b135), .val .null, .unset] [(.ref b135)])) rfl (by rw [hml]; rfl) (argsL := []) (rest := []) (lenOf (by decide +kernel : parseMethodDescriptor "()Lorg/ripplelog/event/BinlogPosition;" = some ⟨[], some (.object "org/ripplelog/event/BinlogPosition")⟩) rfl) rfl rfl (by show 2 * 0 + _ ≤ _; exact Nat.le_of_eq rfl) (hb hby at_106)
      refine own_go (fun _ => st144 _) ?_
      show own_G p e below s _ _ _ (T144.setTop (mkF m 109 #[.val (.int q0), .val (.int q1), .val (.long q2), .second, .val (.int q3), .val (.long q4), .second, .val (.int (1 : Int32)), .val (.int (1 : Int32)), .val .null, .val .null, .val (.ref b135), .val .null, .unset] [.null]))
      refine own_go (fun _ => XS.astore X144.here hx rfl (hb hby at_109) rfl rfl (l' := #[.val (.int q0), .val (.int q1), .val (.long q2), .second, .val (.int q3), .val (.long q4), .second, .val (.int (1 : Int32)), .val (.int (1 : Int32)), .val .null, .val .null, .val (.ref b135), .val .null, .val .null]) rfl) ?_
      show own_G p e below s _ _ _ (T144.setTop (mkF m 111 #[.val (.int q0), .val (.int q1), .val (.long q2), .second, .val (.int q3), .val (.long q4), .second, .val (.int (1 : Int32)), .val (.int (1 : Int32)), .val .null, .val .null, .val (.ref b135), .val .null, .val .null] []))
      refine own_go (fun _ => XS.aload X144.here hx rfl (hb hby at_111) rfl rfl) ?_
      show own_G p e below s _ _ _ (T144.setTop (mkF m 113 #[.val (.int q0), .val (.int q1), .val (.long q2), .second, .val (.int q3), .val (.long q4), .second, .val (.int (1 : Int32)), .val (.int (1 : Int32)), .val .null, .val .null, .val (.ref b135), .val .null, .val .null] [.null]))
      refine own_go (fun _ => XS.aload X144.here hx rfl (hb hby at_113) rfl rfl) ?_
      show own_G p e below s _ _ _ (T144.setTop (mkF m 115 #[.val (.int q0), .val (.int q1), .val (.long q2), .second, .val (.int q3), .val (.long q4), .second, .val (.int (1 : Int32)), .val (.int (1 : Int32)), .val .null, .val .null, .val (.ref b135), .val .null, .val .null] [.null, .null]))
      refine own_go (fun _ => Jvm.RoadKit.acmp (g := (mkF m 115 #[.val (.int q0), .val (.int q1), .val (.long q2), .second, .val (.int q3), .val (.long q4), .second, .val (.int (1 : Int32)), .val (.int (1 : Int32)), .val .null, .val .null, .val (.ref b135), .val .null, .val .null] [.null, .null])) X144 hx rfl rfl rfl (pc0 := 115) (pc' := 120) (same := true) rfl (hb hby at_115) rfl (decide_eq_true rfl) (by decide) (by decide)) ?_
      show own_G p e below s _ _ _ (T144.setTop (mkF m 120 #[.val (.int q0), .val (.int q1), .val (.long q2), .second, .val (.int q3), .val (.long q4), .second, .val (.int (1 : Int32)), .val (.int (1 : Int32)), .val .null, .val .null, .val (.ref b135), .val .null, .val .null] []))
      refine own_go (fun _ => XS.aload X144.here hx rfl (hb hby at_120) rfl rfl) ?_
      show own_G p e below s _ _ _ (T144.setTop (mkF m 122 #[.val (.int q0), .val (.int q1), .val (.long q2), .second, .val (.int q3), .val (.long q4), .second, .val (.int (1 : Int32)), .val (.int (1 : Int32)), .val .null, .val .null, .val (.ref b135), .val .null, .val .null] [(.ref b135)]))
      obtain ⟨T145, X145, e145, st145⟩ := own_callV X144 hx hZ hown (hw _ (List.mem_of_getElem? (i := 58) rfl)) (hw _ (List.mem_of_getElem? (i := 59) rfl)) (hw _ (List.mem_of_getElem? (i := 61) rfl)) (hw _ (List.mem_of_getElem? (i := 60) rfl)) (hw _ (List.mem_of_getElem? (i := 62) rfl)) (hw _ (List.mem_of_getElem? (i := 44) rfl)) (by decide) (rm10 l Z a0 hw [] b135 h139 .null rfl Fc139_0) rfl rfl e144 Ec139 (W := 0) (by decide) (by decide) (by decide) (by decide) (g := (mkF m 122 #[.val (.int q0), .val (.int q1), .val (.long q2), .second, .val (.int q3), .val (.long q4), .second, .val (.int (1 : Int32)), .val (.int (1 : Int32)), .val .null, .val .null, .val (.ref b135), .val .null, .val .null] [(.ref b135)])) rfl (by rw [hml]; rfl) (argsL := []) (rest := []) (lenOf (by decide +kernel : parseMethodDescriptor "()Lorg/ripplelog/event/BinlogPosition;" = some ⟨[], some (.object "org/ripplelog/event/BinlogPosition")⟩) rfl) rfl rfl (by show 2 * 0 + _ ≤ _; exact Nat.le_of_eq rfl) (hb hby at_122)
      refine own_go (fun _ => st145 _) ?_
      show own_G p e below s _ _ _ (T145.setTop (mkF m 125 #[.val (.int q0), .val (.int q1), .val (.long q2), .second, .val (.int q3), .val (.long q4), .second, .val (.int (1 : Int32)), .val (.int (1 : Int32)), .val .null, .val .null, .val (.ref b135), .val .null, .val .null] [.null]))
      refine own_go (fun _ => XS.aload X145.here hx rfl (hb hby at_125) rfl rfl) ?_
      show own_G p e below s _ _ _ (T145.setTop (mkF m 127 #[.val (.int q0), .val (.int q1), .val (.long q2), .second, .val (.int q3), .val (.long q4), .second, .val (.int (1 : Int32)), .val (.int (1 : Int32)), .val .null, .val .null, .val (.ref b135), .val .null, .val .null] [.null, .null]))
      refine own_go (fun _ => Jvm.RoadKit.acmp (g := (mkF m 127 #[.val (.int q0), .val (.int q1), .val (.long q2), .second, .val (.int q3), .val (.long q4), .second, .val (.int (1 : Int32)), .val (.int (1 : Int32)), .val .null, .val .null, .val (.ref b135), .val .null, .val .null] [.null, .null])) X145 hx rfl rfl rfl (pc0 := 127) (pc' := 130) (same := true) rfl (hb hby at_127) rfl (decide_eq_true rfl) (by decide) (by decide)) ?_
      show own_G p e below s _ _ _ (T145.setTop (mkF m 130 #[.val (.int q0), .val (.int q1), .val (.long q2), .second, .val (.int q3), .val (.long q4), .second, .val (.int (1 : Int32)), .val (.int (1 : Int32)), .val .null, .val .null, .val (.ref b135), .val .null, .val .null] []))
      refine own_go (fun _ => XS.aload X145.here hx rfl (hb hby at_130) rfl rfl) ?_
      show own_G p e below s _ _ _ (T145.setTop (mkF m 132 #[.val (.int q0), .val (.int q1), .val (.long q2), .second, .val (.int q3), .val (.long q4), .second, .val (.int (1 : Int32)), .val (.int (1 : Int32)), .val .null, .val .null, .val (.ref b135), .val .null, .val .null] [(.ref b135)]))
      obtain ⟨T146, X146, e146, st146⟩ := own_callV X145 hx hZ hown (hw _ (List.mem_of_getElem? (i := 63) rfl)) (hw _ (List.mem_of_getElem? (i := 64) rfl)) (hw _ (List.mem_of_getElem? (i := 66) rfl)) (hw _ (List.mem_of_getElem? (i := 65) rfl)) (hw _ (List.mem_of_getElem? (i := 67) rfl)) (hw _ (List.mem_of_getElem? (i := 44) rfl)) (by decide) (rm11 l Z a0 hw [] b135 h139 .null rfl Fc139_1) rfl rfl e145 Ec139 (W := 0) (by decide) (by decide) (by decide) (by decide) (g := (mkF m 132 #[.val (.int q0), .val (.int q1), .val (.long q2), .second, .val (.int q3), .val (.long q4), .second, .val (.int (1 : Int32)), .val (.int (1 : Int32)), .val .null, .val .null, .val (.ref b135), .val .null, .val .null] [(.ref b135)])) rfl (by rw [hml]; rfl) (argsL := []) (rest := []) (lenOf (by decide +kernel : parseMethodDescriptor "()Lorg/ripplelog/event/BinlogPosition;" = some ⟨[], some (.object "org/ripplelog/event/BinlogPosition")⟩) rfl) rfl rfl (by show 2 * 0 + _ ≤ _; exact Nat.le_of_eq rfl) (hb hby at_132)
      refine own_go (fun _ => st146 _) ?_
      show own_G p e below s _ _ _ (T146.setTop (mkF m 135 #[.val (.int q0), .val (.int q1), .val (.long q2), .second, .val (.int q3), .val (.long q4), .second, .val (.int (1 : Int32)), .val (.int (1 : Int32)), .val .null, .val .null, .val (.ref b135), .val .null, .val .null] [.null]))
      refine own_go (fun _ => XS.aload X146.here hx rfl (hb hby at_135) rfl rfl) ?_
      show own_G p e below s _ _ _ (T146.setTop (mkF m 137 #[.val (.int q0), .val (.int q1), .val (.long q2), .second, .val (.int q3), .val (.long q4), .second, .val (.int (1 : Int32)), .val (.int (1 : Int32)), .val .null, .val .null, .val (.ref b135), .val .null, .val .null] [.null, .null]))
      refine own_go (fun _ => Jvm.RoadKit.acmp (g := (mkF m 137 #[.val (.int q0), .val (.int q1), .val (.long q2), .second, .val (.int q3), .val (.long q4), .second, .val (.int (1 : Int32)), .val (.int (1 : Int32)), .val .null, .val .null, .val (.ref b135), .val .null, .val .null] [.null, .null])) X146 hx rfl rfl rfl (pc0 := 137) (pc' := 142) (same := true) rfl (hb hby at_137) rfl (decide_eq_true rfl) (by decide) (by decide)) ?_
      show own_G p e below s _ _ _ (T146.setTop (mkF m 142 #[.val (.int q0), .val (.int q1), .val (.long q2), .second, .val (.int q3), .val (.long q4), .second, .val (.int (1 : Int32)), .val (.int (1 : Int32)), .val .null, .val .null, .val (.ref b135), .val .null, .val .null] []))
      refine own_go (fun _ => XS.iload X146.here hx rfl (hb hby at_142) rfl) ?_
      show own_G p e below s _ _ _ (T146.setTop (mkF m 144 #[.val (.int q0), .val (.int q1), .val (.long q2), .second, .val (.int q3), .val (.long q4), .second, .val (.int (1 : Int32)), .val (.int (1 : Int32)), .val .null, .val .null, .val (.ref b135), .val .null, .val .null] [(.int (1 : Int32))]))
      refine own_go (fun _ => XS.ifNo X146.here hx rfl (hb hby at_144) rfl ((if0 _ _).trans (feq (by decide : ¬ ((1 : Int32) = (0 : Int32)))).1)) ?_
      show own_G p e below s _ _ _ (T146.setTop (mkF m 147 #[.val (.int q0), .val (.int q1), .val (.long q2), .second, .val (.int q3), .val (.long q4), .second, .val (.int (1 : Int32)), .val (.int (1 : Int32)), .val .null, .val .null, .val (.ref b135), .val .null, .val .null] []))
      refine own_go (fun _ => XS.aload X146.here hx rfl (hb hby at_147) rfl rfl) ?_
      show own_G p e below s _ _ _ (T146.setTop (mkF m 149 #[.val (.int q0), .val (.int q1), .val (.long q2), .second, .val (.int q3), .val (.long q4), .second, .val (.int (1 : Int32)), .val (.int (1 : Int32)), .val .null, .val .null, .val (.ref b135), .val .null, .val .null] [.null]))
      refine own_go (fun _ => XS.aload X146.here hx rfl (hb hby at_149) rfl rfl) ?_
      show own_G p e below s _ _ _ (T146.setTop (mkF m 151 #[.val (.int q0), .val (.int q1), .val (.long q2), .second, .val (.int q3), .val (.long q4), .second, .val (.int (1 : Int32)), .val (.int (1 : Int32)), .val .null, .val .null, .val (.ref b135), .val .null, .val .null] [.null, .null]))
      refine own_go (fun _ => Jvm.RoadKit.acmp (g := (mkF m 151 #[.val (.int q0), .val (.int q1), .val (.long q2), .second, .val (.int q3), .val (.long q4), .second, .val (.int (1 : Int32)), .val (.int (1 : Int32)), .val .null, .val .null, .val (.ref b135), .val .null, .val .null] [.null, .null])) X146 hx rfl rfl rfl (pc0 := 151) (pc' := 154) (same := true) rfl (hb hby at_151) rfl (decide_eq_true rfl) (by decide) (by decide)) ?_
      show own_G p e below s _ _ _ (T146.setTop (mkF m 154 #[.val (.int q0), .val (.int q1), .val (.long q2), .second, .val (.int q3), .val (.long q4), .second, .val (.int (1 : Int32)), .val (.int (1 : Int32)), .val .null, .val .null, .val (.ref b135), .val .null, .val .null] []))
      refine own_go (fun _ => XS.iconst X146.here hx rfl (hb hby at_154)) ?_
      show own_G p e below s _ _ _ (T146.setTop (mkF m 155 #[.val (.int q0), .val (.int q1), .val (.long q2), .second, .val (.int q3), .val (.long q4), .second, .val (.int (1 : Int32)), .val (.int (1 : Int32)), .val .null, .val .null, .val (.ref b135), .val .null, .val .null] [(.int (1 : Int32))]))
      refine own_go (fun _ => XS.goto X146.here hx rfl (pc0 := 155) (pc' := 159) rfl (hb hby at_155) (by decide) (by decide)) ?_
      show own_G p e below s _ _ _ (T146.setTop (mkF m 159 #[.val (.int q0), .val (.int q1), .val (.long q2), .second, .val (.int q3), .val (.long q4), .second, .val (.int (1 : Int32)), .val (.int (1 : Int32)), .val .null, .val .null, .val (.ref b135), .val .null, .val .null] [(.int (1 : Int32))]))
      exact own_retN X146 hx hlk (t := .boolean) Bd.returns (by simp) (hb hby at_159) (by decide) (by decide) ⟨rfl, N139⟩
set_option maxRecDepth 65536 in
set_option maxHeartbeats 40000000 in
theorem comes_1 {Post : Tables → Env → Array Value → State → Outcome → State → Prop} (hpost : ∀ tb e args s v u, (limb_1_1.after args s (.returned v) u = true ∧ limb_1_2.after args s (.returned v) u = true ∧ True) → FrameEnd s (.returned v) u (Jvm.fieldLocs frame_1_writes args s ++ Jvm.arrayLocs frame_1_arrays args s ++ Jvm.staticLocs frame_1_statics s) 24 128 → Post tb e args s (.returned v) u) :
    ArmFor flags0 classFile x code maxLocals ret World_1 tables_1 room_1 Calls_1 rest_1 Pre_1 Post := by
  intro l hfl _ _ p e ha hc hk s m args below hf hA hF happ hP
  obtain ⟨hcalls, hrest, hpre⟩ := hP
  obtain ⟨-, -, -, hnamed, -, -, -, hat⟩ := (Spec.applies_iff hf).mp happ
  obtain ⟨hg, hn⟩ := and_e (Cond.before_iff.mp (show (Jvm.Cond.and given_1 narrow_1).before args s = true from hpre))
  obtain ⟨cg0, cq0⟩ := and_e hg
  obtain ⟨w0, w1, w2, w3, w4, rfl⟩ : ∃ w0 w1 w2 w3 w4 : Value, args = #[w0, w1, w2, w3, w4] := by
    have hs : args.size = 5 := by simpa [Cond.value, given_1] using cg0
    obtain ⟨L⟩ := args
    match L, hs with
    | [w0, w1, w2, w3, w4], _ => exact ⟨w0, w1, w2, w3, w4, rfl⟩
  have hw := fun d (hd : d ∈ tables_1) => atoms_spec (ws := Jvm.Cond.code x code maxLocals ret :: tables_1) hat d (List.mem_cons_of_mem _ hd)
  obtain ⟨ca0, cq1⟩ := and_e cq0
  obtain ⟨q0, eq0⟩ := is_v ca0
  obtain rfl : w0 = (.int q0) := Option.some.inj eq0
  obtain ⟨ca1, cq2⟩ := and_e cq1
  obtain ⟨q1, eq1⟩ := is_v ca1
  obtain rfl : w1 = (.int q1) := Option.some.inj eq1
  obtain ⟨ca2, cq3⟩ := and_e cq2
  obtain ⟨q2, eq2⟩ := isL_v ca2
  obtain rfl : w2 = (.long q2) := Option.some.inj eq2
  obtain ⟨ca3, cq4⟩ := and_e cq3
  obtain ⟨q3, eq3⟩ := is_v ca3
  obtain rfl : w3 = (.int q3) := Option.some.inj eq3
  obtain ⟨q4, eq4⟩ := isL_v cq4
  obtain rfl : w4 = (.long q4) := Option.some.inj eq4
  obtain ⟨hsets, hown0⟩ := atoms_of _ (rest_1_c_eq ▸ (show rest_1_c.before _ s = true from hrest))
  have n3 := not_v (Cond.before_iff.mp (hsets _ (List.mem_of_getElem? (i := 2) rfl)))
  obtain ⟨cs, ecs⟩ := is_v (Cond.before_iff.mp (hsets _ (List.mem_of_getElem? (i := 1) rfl)))
  have S0 : Sta s s.heap "java/lang/String" "COMPACT_STRINGS" "Z" (.int cs) := Sta.start ecs (Or.inl (hsets _ (List.mem_of_getElem? (i := 0) rfl)))
  have hcs : ¬ (cs = (0 : Int32)) := gotF (Cond.eq_ints ecs (Term.int_eval (0))) n3
  obtain ⟨n, o, h1, h2, h3, _, L, rfl, ⟨hv, N⟩, hq⟩ := rm0 l s _ hw tables_1 q0 q1 q2 q3 q4 s.heap s.heap.size (Nat.le_refl _) cs hcs S0 p e ha hc hk s m _ below hf ((Spec.applies_iff_loose hf).mp happ).1 ⟨rfl, State.Warmed39.refl s, rfl⟩ trivial
  rw [own_law] at hv
  subst hv
  refine ⟨n, _, h1, h2, h3, hpost _ _ _ _ _ _ ⟨Cond.after_iff.mpr rfl, Cond.after_iff.mpr (eq_i res_at (Term.int_eval (1)) rfl), trivial⟩ ⟨hq.1, hq.2.1, (hq.2.2.sift fun y hy => Or.inr (N y hy)).mono (by decide) (by decide)⟩⟩
theorem main_1_1 : Claimed_1_1 := comes_1 fun _ _ _ _ _ _ h hF => ⟨h.1, hF⟩
theorem main_1_2 : Claimed_1_2 := comes_1 fun _ _ _ _ _ _ h hF => ⟨h.2.1, hF⟩
end Jvm.Pilot.@@N@@
namespace Jvm.Pilot.@@N@@
open Jvm Jvm.ClassFile Sem Op Lib Jvm.Free Jvm.Stand Jvm.Pilot.@@N@@.Jvm.D
/-! MADE BY PROGRAM (witnessworld.py) out of the Statement's table words and the real class files: 19 classes; the members and pool entries that the words name. The judged class is class 1, her method 1. -/
namespace start1
open Jvm.ClassFile
def u (s : String) : CpInfo := .utf8 (stringToUtf16 s)
/-- a pool by its gaps: so many unusable entries, then the entry; so many at the end -/
def gap : Nat → List CpInfo → List CpInfo
  | 0, r => r
  | n + 1, r => .unusable :: gap n r
def poolList (es : List (Nat × CpInfo)) (last : Nat) : List CpInfo := es.foldr (fun e r => gap e.1 (e.2 :: r)) (gap last [])
def pool (es : List (Nat × CpInfo)) (last : Nat) : Array CpInfo := ⟨poolList es last⟩
def fileOf (pool : Array CpInfo) (this : Nat) (attrs : Array Attribute := #[]) (ms : Array MethodInfo := #[]) (fl : Nat := 33) (sup : Nat := 0) (ifs : Array Nat := #[]) (fds : Array FieldInfo := #[]) : ClassFile where
  minorVersion := 0
  majorVersion := 65
  constantPool := pool
  accessFlags := fl
  thisClass := this
  superClass := sup
  interfaces := ifs
  fields := fds
  methods := ms
  attributes := attrs
def plain (name : String) (sup : Option ClassId) : Class where
  name := name
  kind := .ordinary
  loader := none
  accessFlags := 33
  super := sup
  interfaces := #[]
  cf := none
  fields := #[]
  methods := #[]
  instanceTypes := #[]
  staticTypes := #[]
  resolved := #[]
  callSites := []
  init := .initialized
  statics := none
  mirror := none

def pool0 : Array CpInfo := pool [(5, u "<init>"), (0, u "()V"), (1, .class_ 10), (1, u "java/lang/Object")] 113

def k0c0 : Code := { maxStack := 0, maxLocals := 1, code := object_method_1_code, exceptionTable := #[], attributes := #[] }
def k0m0 : Method := { name := "<init>", desc := "()V", sig := { parameters := [], returnType := none }, accessFlags := 1, code := some k0c0 }
/-- java/lang/Object -/
def k0 : Class := { plain "java/lang/Object" none with
  accessFlags := 33
  interfaces := #[]
  cf := some (fileOf pool0 8 #[] #[{ accessFlags := 1, nameIndex := 5, descriptorIndex := 6, attributes := #[] }] 33 0 #[] #[])
  fields := #[]
  methods := #[k0m0]
  instanceTypes := #[]
  staticTypes := #[]
  resolved := Array.replicate 124 none
  statics := none }

def pool1 : Array CpInfo := pool [(2, .class_ 4), (1, u "java/lang/Object"), (0, u "<init>"), (0, u "()V"), (0, .class_ 8), (0, u "org/ripplelog/event/BinlogPosition"), (0, .methodref 10 11), (0, .class_ 12), (0, .nameAndType 13 14), (0, u "java/lang/String"), (0, u "valueOf"), (0, u "(C)Ljava/lang/String;"), (0, .methodref 7 16), (0, .nameAndType 5 17), (0, u "(Ljava/lang/String;J)V"), (0, .class_ 19), (0, u "org/ripplelog/event/ResumePoint"), (0, .methodref 18 21), (0, .nameAndType 5 22), (0, u "(Lorg/ripplelog/event/BinlogPosition;Lorg/ripplelog/event/BinlogPosition;)V"), (0, .methodref 18 24), (0, .nameAndType 25 26), (0, u "from"), (0, u "()Lorg/ripplelog/event/BinlogPosition;"), (0, .methodref 18 28), (0, .nameAndType 29 26), (0, u "position"), (0, .methodref 18 31), (0, .nameAndType 32 26), (0, u "prepared"), (0, .class_ 34), (0, u "org/ripplelog/event/ResumePointFromPinLaw"), (2, u "law"), (0, u "(IIJIJ)Z")] 3

def k1m0 : Method := { name := "<init>", desc := "()V", sig := { parameters := [], returnType := none }, accessFlags := 1, code := none }
def k1c1 : Code := { maxStack := 5, maxLocals := 14, code := code, exceptionTable := #[], attributes := #[] }
def k1m1 : Method := { name := "law", desc := "(IIJIJ)Z", sig := { parameters := [.int, .int, .long, .int, .long], returnType := some .boolean }, accessFlags := 9, code := some k1c1 }
/-- org/ripplelog/event/ResumePointFromPinLaw -/
def k1 : Class := { plain "org/ripplelog/event/ResumePointFromPinLaw" (some 0) with
  accessFlags := 49
  interfaces := #[]
  cf := some (fileOf pool1 33 #[] #[{ accessFlags := 1, nameIndex := 5, descriptorIndex := 6, attributes := #[] }, { accessFlags := 9, nameIndex := 37, descriptorIndex := 38, attributes := #[] }] 49 2 #[] #[])
  fields := #[]
  methods := #[k1m0, k1m1]
  instanceTypes := #[]
  staticTypes := #[]
  resolved := Array.replicate 42 none
  statics := none }

def pool2 : Array CpInfo := pool [(1, .methodref 2 3), (0, .class_ 4), (0, .nameAndType 5 6), (0, u "java/lang/Object"), (0, u "<init>"), (0, u "()V"), (0, .class_ 8), (0, u "java/lang/Record")] 13

def k2c0 : Code := { maxStack := 1, maxLocals := 1, code := jdk_30_method_1_code, exceptionTable := #[], attributes := #[] }
def k2m0 : Method := { name := "<init>", desc := "()V", sig := { parameters := [], returnType := none }, accessFlags := 4, code := some k2c0 }
/-- java/lang/Record -/
def k2 : Class := { plain "java/lang/Record" (some 0) with
  accessFlags := 1057
  interfaces := #[]
  cf := some (fileOf pool2 7 #[] #[{ accessFlags := 4, nameIndex := 5, descriptorIndex := 6, attributes := #[] }] 1057 2 #[] #[])
  fields := #[]
  methods := #[k2m0]
  instanceTypes := #[]
  staticTypes := #[]
  resolved := Array.replicate 22 none
  statics := none }

def pool3 : Array CpInfo := pool [(1, .class_ 2), (0, u "java/lang/Comparable"), (0, .class_ 4), (0, u "java/lang/Object")] 7

/-- java/lang/Comparable -/
def k3 : Class := { plain "java/lang/Comparable" (some 0) with
  accessFlags := 1537
  interfaces := #[]
  cf := some (fileOf pool3 1 #[] #[] 1537 3 #[] #[])
  fields := #[]
  methods := #[]
  instanceTypes := #[]
  staticTypes := #[]
  resolved := Array.replicate 12 none
  statics := none }

def pool4 : Array CpInfo := pool [(1, .methodref 2 3), (0, .class_ 4), (0, .nameAndType 5 6), (0, u "java/lang/Record"), (0, u "<init>"), (0, u "()V"), (0, .fieldref 8 9), (0, .class_ 10), (0, .nameAndType 11 12), (0, u "org/ripplelog/event/BinlogPosition"), (0, u "file"), (0, u "Ljava/lang/String;"), (0, .fieldref 8 14), (0, .nameAndType 15 16), (0, u "offset"), (0, u "J"), (38, u "(Ljava/lang/String;J)V"), (34, .class_ 91), (0, u "java/lang/Comparable"), (0, u "FIRST_EVENT")] 45

def k4c0 : Code := { maxStack := 3, maxLocals := 4, code := prog_152_method_1_code, exceptionTable := #[], attributes := #[] }
def k4m0 : Method := { name := "<init>", desc := "(Ljava/lang/String;J)V", sig := { parameters := [(.object "java/lang/String"), .long], returnType := none }, accessFlags := 1, code := some k4c0 }
/-- org/ripplelog/event/BinlogPosition -/
def k4 : Class := { plain "org/ripplelog/event/BinlogPosition" (some 2) with
  accessFlags := 49
  interfaces := #[3]
  cf := some (fileOf pool4 8 #[] #[{ accessFlags := 1, nameIndex := 5, descriptorIndex := 55, attributes := #[] }] 49 2 #[90] #[{ accessFlags := 18, nameIndex := 11, descriptorIndex := 12, attributes := #[] }, { accessFlags := 18, nameIndex := 15, descriptorIndex := 16, attributes := #[] }, { accessFlags := 25, nameIndex := 92, descriptorIndex := 16, attributes := #[] }])
  fields := #[{ name := "file", type := (.object "java/lang/String"), accessFlags := 18, slot := 0, constantValue := 0 }, { name := "offset", type := .long, accessFlags := 18, slot := 1, constantValue := 0 }, { name := "FIRST_EVENT", type := .long, accessFlags := 25, slot := 0, constantValue := 0 }]
  methods := #[k4m0]
  instanceTypes := #[(.object "java/lang/String"), .long]
  staticTypes := #[.long]
  resolved := Array.replicate 138 none
  statics := none }

def pool5 : Array CpInfo := pool [(1, .class_ 2), (0, u "java/io/Serializable"), (0, .class_ 4), (0, u "java/lang/Object")] 2

/-- java/io/Serializable -/
def k5 : Class := { plain "java/io/Serializable" (some 0) with
  accessFlags := 1537
  interfaces := #[]
  cf := some (fileOf pool5 1 #[] #[] 1537 3 #[] #[])
  fields := #[]
  methods := #[]
  instanceTypes := #[]
  staticTypes := #[]
  resolved := Array.replicate 7 none
  statics := none }

def pool6 : Array CpInfo := pool [(2, .class_ 4), (1, u "java/lang/CharSequence"), (42, .class_ 48), (0, u "java/lang/CharSequence$1CodePointIterator"), (10, .class_ 60), (0, u "java/lang/CharSequence$1CharIterator"), (5, .class_ 67), (0, u "java/lang/Object")] 63

/-- java/lang/CharSequence -/
def k6 : Class := { plain "java/lang/CharSequence" (some 0) with
  accessFlags := 1537
  interfaces := #[]
  cf := some (fileOf pool6 2 #[.nestMembers #[47, 59]] #[] 1537 66 #[] #[])
  fields := #[]
  methods := #[]
  instanceTypes := #[]
  staticTypes := #[]
  resolved := Array.replicate 131 none
  statics := none }

def pool7 : Array CpInfo := pool [(1, .class_ 2), (0, u "java/lang/constant/Constable"), (0, .class_ 4), (0, u "java/lang/Object")] 6

/-- java/lang/constant/Constable -/
def k7 : Class := { plain "java/lang/constant/Constable" (some 0) with
  accessFlags := 1537
  interfaces := #[]
  cf := some (fileOf pool7 1 #[] #[] 1537 3 #[] #[])
  fields := #[]
  methods := #[]
  instanceTypes := #[]
  staticTypes := #[]
  resolved := Array.replicate 11 none
  statics := none }

def pool8 : Array CpInfo := pool [(1, .class_ 2), (0, u "java/lang/constant/ConstantDesc"), (0, .class_ 4), (0, u "java/lang/Object")] 32

/-- java/lang/constant/ConstantDesc -/
def k8 : Class := { plain "java/lang/constant/ConstantDesc" (some 0) with
  accessFlags := 1537
  interfaces := #[]
  cf := some (fileOf pool8 1 #[] #[] 1537 3 #[] #[])
  fields := #[]
  methods := #[]
  instanceTypes := #[]
  staticTypes := #[]
  resolved := Array.replicate 37 none
  statics := none }

def pool9 : Array CpInfo := pool [(1, .methodref 2 3), (0, .class_ 4), (0, .nameAndType 5 6), (0, u "java/lang/Object"), (0, u "<init>"), (0, u "()V"), (2, .fieldref 10 11), (0, .class_ 12), (0, .nameAndType 13 14), (0, u "java/lang/String"), (0, u "value"), (0, u "[B"), (0, .fieldref 10 16), (0, .nameAndType 17 18), (0, u "coder"), (0, u "B"), (2, u "hash"), (0, u "I"), (2, u "hashIsZero"), (0, u "Z"), (11, .fieldref 10 39), (0, .nameAndType 40 26), (0, u "COMPACT_STRINGS"), (12, u "toBytes"), (53, .class_ 109), (1, u "java/lang/StringLatin1"), (99, .methodref 10 210), (0, .nameAndType 5 211), (0, u "([BB)V"), (157, u "(C)Z"), (205, .class_ 576), (0, u "java/lang/CharSequence"), (22, u "CASE_INSENSITIVE_ORDER"), (0, u "Ljava/util/Comparator;"), (181, u "valueOf"), (0, u "(C)Ljava/lang/String;"), (231, .methodref 107 1016), (0, .nameAndType 1017 369), (0, u "canEncode"), (0, .methodref 107 1019), (0, .nameAndType 53 1020), (0, u "(C)[B"), (80, u "serialPersistentFields"), (0, u "[Ljava/io/ObjectStreamField;"), (0, .class_ 1104), (0, u "java/lang/String$CaseInsensitiveComparator"), (1, .class_ 1107), (0, u "java/io/Serializable"), (0, .class_ 1109), (0, u "java/lang/Comparable"), (0, .class_ 1111), (0, u "java/lang/constant/Constable"), (0, .class_ 1113), (0, u "java/lang/constant/ConstantDesc"), (2, u "serialVersionUID"), (0, u "J"), (3, u "REPL"), (0, u "C"), (2, u "LATIN1"), (1, u "UTF16")] 323

def k9m0 : Method := { name := "<init>", desc := "()V", sig := { parameters := [], returnType := none }, accessFlags := 1, code := none }
def k9c1 : Code := { maxStack := 4, maxLocals := 1, code := jdk_42_method_139_code, exceptionTable := #[], attributes := #[] }
def k9m1 : Method := { name := "valueOf", desc := "(C)Ljava/lang/String;", sig := { parameters := [.char], returnType := some (.object "java/lang/String") }, accessFlags := 9, code := some k9c1 }
def k9c2 : Code := { maxStack := 2, maxLocals := 3, code := jdk_42_method_151_code, exceptionTable := #[], attributes := #[] }
def k9m2 : Method := { name := "<init>", desc := "([BB)V", sig := { parameters := [(.array .byte), .byte], returnType := none }, accessFlags := 0, code := some k9c2 }
/-- java/lang/String -/
def k9 : Class := { plain "java/lang/String" (some 0) with
  accessFlags := 49
  interfaces := #[5, 3, 6, 7, 8]
  cf := some (fileOf pool9 10 #[.nestMembers #[1103]] #[{ accessFlags := 1, nameIndex := 5, descriptorIndex := 6, attributes := #[] }, { accessFlags := 9, nameIndex := 782, descriptorIndex := 783, attributes := #[] }, { accessFlags := 0, nameIndex := 5, descriptorIndex := 211, attributes := #[] }] 49 2 #[1106, 1108, 575, 1110, 1112] #[{ accessFlags := 18, nameIndex := 13, descriptorIndex := 14, attributes := #[] }, { accessFlags := 18, nameIndex := 17, descriptorIndex := 18, attributes := #[] }, { accessFlags := 2, nameIndex := 21, descriptorIndex := 22, attributes := #[] }, { accessFlags := 2, nameIndex := 25, descriptorIndex := 26, attributes := #[] }, { accessFlags := 26, nameIndex := 1116, descriptorIndex := 1117, attributes := #[] }, { accessFlags := 24, nameIndex := 40, descriptorIndex := 26, attributes := #[] }, { accessFlags := 26, nameIndex := 1101, descriptorIndex := 1102, attributes := #[] }, { accessFlags := 26, nameIndex := 1121, descriptorIndex := 1122, attributes := #[] }, { accessFlags := 25, nameIndex := 599, descriptorIndex := 600, attributes := #[] }, { accessFlags := 24, nameIndex := 1125, descriptorIndex := 18, attributes := #[] }, { accessFlags := 24, nameIndex := 1127, descriptorIndex := 18, attributes := #[] }])
  fields := #[{ name := "value", type := (.array .byte), accessFlags := 18, slot := 0, constantValue := 0 }, { name := "coder", type := .byte, accessFlags := 18, slot := 1, constantValue := 0 }, { name := "hash", type := .int, accessFlags := 2, slot := 2, constantValue := 0 }, { name := "hashIsZero", type := .boolean, accessFlags := 2, slot := 3, constantValue := 0 }, { name := "serialVersionUID", type := .long, accessFlags := 26, slot := 0, constantValue := 0 }, { name := "COMPACT_STRINGS", type := .boolean, accessFlags := 24, slot := 1, constantValue := 0 }, { name := "serialPersistentFields", type := (.array (.object "java/io/ObjectStreamField")), accessFlags := 26, slot := 2, constantValue := 0 }, { name := "REPL", type := .char, accessFlags := 26, slot := 3, constantValue := 0 }, { name := "CASE_INSENSITIVE_ORDER", type := (.object "java/util/Comparator"), accessFlags := 25, slot := 4, constantValue := 0 }, { name := "LATIN1", type := .byte, accessFlags := 24, slot := 5, constantValue := 0 }, { name := "UTF16", type := .byte, accessFlags := 24, slot := 6, constantValue := 0 }]
  methods := #[k9m0, k9m1, k9m2]
  instanceTypes := #[(.array .byte), .byte, .int, .boolean]
  staticTypes := #[.long, .boolean, (.array (.object "java/io/ObjectStreamField")), .char, (.object "java/util/Comparator"), .byte, .byte]
  resolved := Array.replicate 1451 none
  statics := some 0 }

def pool10 : Array CpInfo := pool [(4, .class_ 6), (1, u "java/lang/Object"), (0, u "<init>"), (0, u "()V"), (5, .class_ 16), (1, u "java/lang/StringLatin1"), (73, u "canEncode"), (14, u "(C)Z"), (15, u "$assertionsDisabled"), (0, u "Z"), (98, .class_ 223), (1, u "java/lang/StringLatin1$LinesSpliterator"), (156, u "toBytes"), (1, u "(C)[B"), (7, .class_ 391), (0, u "java/lang/StringLatin1$CharsSpliterator")] 3

def k10m0 : Method := { name := "<init>", desc := "()V", sig := { parameters := [], returnType := none }, accessFlags := 0, code := none }
def k10c1 : Code := { maxStack := 2, maxLocals := 1, code := jdk_43_method_3_code, exceptionTable := #[], attributes := #[] }
def k10m1 : Method := { name := "canEncode", desc := "(C)Z", sig := { parameters := [.char], returnType := some .boolean }, accessFlags := 9, code := some k10c1 }
def k10c2 : Code := { maxStack := 4, maxLocals := 1, code := jdk_43_method_46_code, exceptionTable := #[], attributes := #[] }
def k10m2 : Method := { name := "toBytes", desc := "(C)[B", sig := { parameters := [.char], returnType := some (.array .byte) }, accessFlags := 9, code := some k10c2 }
/-- java/lang/StringLatin1 -/
def k10 : Class := { plain "java/lang/StringLatin1" (some 0) with
  accessFlags := 48
  interfaces := #[]
  cf := some (fileOf pool10 14 #[.nestMembers #[390, 221]] #[{ accessFlags := 0, nameIndex := 7, descriptorIndex := 8, attributes := #[] }, { accessFlags := 9, nameIndex := 90, descriptorIndex := 105, attributes := #[] }, { accessFlags := 9, nameIndex := 380, descriptorIndex := 382, attributes := #[] }] 48 4 #[] #[{ accessFlags := 4120, nameIndex := 121, descriptorIndex := 122, attributes := #[] }])
  fields := #[{ name := "$assertionsDisabled", type := .boolean, accessFlags := 4120, slot := 0, constantValue := 0 }]
  methods := #[k10m0, k10m1, k10m2]
  instanceTypes := #[]
  staticTypes := #[.boolean]
  resolved := Array.replicate 395 none
  statics := none }

def pool11 : Array CpInfo := pool [(1, .methodref 2 3), (0, .class_ 4), (0, .nameAndType 5 6), (0, u "java/lang/Record"), (0, u "<init>"), (0, u "()V"), (0, .fieldref 8 9), (0, .class_ 10), (0, .nameAndType 11 12), (0, u "org/ripplelog/event/ResumePoint"), (0, u "position"), (0, u "Lorg/ripplelog/event/BinlogPosition;"), (0, .fieldref 8 14), (0, .nameAndType 15 12), (0, u "prepared"), (2, u "(Lorg/ripplelog/event/BinlogPosition;Lorg/ripplelog/event/BinlogPosition;)V"), (29, u "from"), (0, u "()Lorg/ripplelog/event/BinlogPosition;")] 32

def k11c0 : Code := { maxStack := 2, maxLocals := 3, code := prog_169_method_1_code, exceptionTable := #[], attributes := #[] }
def k11m0 : Method := { name := "<init>", desc := "(Lorg/ripplelog/event/BinlogPosition;Lorg/ripplelog/event/BinlogPosition;)V", sig := { parameters := [(.object "org/ripplelog/event/BinlogPosition"), (.object "org/ripplelog/event/BinlogPosition")], returnType := none }, accessFlags := 1, code := some k11c0 }
def k11c1 : Code := { maxStack := 1, maxLocals := 1, code := prog_169_method_3_code, exceptionTable := #[], attributes := #[] }
def k11m1 : Method := { name := "from", desc := "()Lorg/ripplelog/event/BinlogPosition;", sig := { parameters := [], returnType := some (.object "org/ripplelog/event/BinlogPosition") }, accessFlags := 1, code := some k11c1 }
def k11c2 : Code := { maxStack := 1, maxLocals := 1, code := prog_169_method_7_code, exceptionTable := #[], attributes := #[] }
def k11m2 : Method := { name := "position", desc := "()Lorg/ripplelog/event/BinlogPosition;", sig := { parameters := [], returnType := some (.object "org/ripplelog/event/BinlogPosition") }, accessFlags := 1, code := some k11c2 }
def k11c3 : Code := { maxStack := 1, maxLocals := 1, code := prog_169_method_8_code, exceptionTable := #[], attributes := #[] }
def k11m3 : Method := { name := "prepared", desc := "()Lorg/ripplelog/event/BinlogPosition;", sig := { parameters := [], returnType := some (.object "org/ripplelog/event/BinlogPosition") }, accessFlags := 1, code := some k11c3 }
/-- org/ripplelog/event/ResumePoint -/
def k11 : Class := { plain "org/ripplelog/event/ResumePoint" (some 2) with
  accessFlags := 49
  interfaces := #[]
  cf := some (fileOf pool11 8 #[] #[{ accessFlags := 1, nameIndex := 5, descriptorIndex := 18, attributes := #[] }, { accessFlags := 1, nameIndex := 48, descriptorIndex := 49, attributes := #[] }, { accessFlags := 1, nameIndex := 11, descriptorIndex := 49, attributes := #[] }, { accessFlags := 1, nameIndex := 15, descriptorIndex := 49, attributes := #[] }] 49 2 #[] #[{ accessFlags := 18, nameIndex := 11, descriptorIndex := 12, attributes := #[] }, { accessFlags := 18, nameIndex := 15, descriptorIndex := 12, attributes := #[] }])
  fields := #[{ name := "position", type := (.object "org/ripplelog/event/BinlogPosition"), accessFlags := 18, slot := 0, constantValue := 0 }, { name := "prepared", type := (.object "org/ripplelog/event/BinlogPosition"), accessFlags := 18, slot := 1, constantValue := 0 }]
  methods := #[k11m0, k11m1, k11m2, k11m3]
  instanceTypes := #[(.object "org/ripplelog/event/BinlogPosition"), (.object "org/ripplelog/event/BinlogPosition")]
  staticTypes := #[]
  resolved := Array.replicate 82 none
  statics := none }

def pool12 : Array CpInfo := pool [(2, .class_ 4), (1, u "java/lang/Object"), (0, u "<init>"), (0, u "()V"), (17, .class_ 26), (1, u "jdk/internal/util/Preconditions"), (28, .class_ 56), (0, u "jdk/internal/util/Preconditions$4"), (57, .class_ 115), (0, u "jdk/internal/util/Preconditions$1"), (7, u "SIOOBE_FORMATTER"), (0, u "Ljava/util/function/BiFunction;"), (0, .class_ 126), (0, u "jdk/internal/util/Preconditions$2"), (3, u "AIOOBE_FORMATTER"), (0, .class_ 132), (0, u "jdk/internal/util/Preconditions$3"), (3, u "IOOBE_FORMATTER")] 57

def k12m0 : Method := { name := "<init>", desc := "()V", sig := { parameters := [], returnType := none }, accessFlags := 1, code := none }
/-- jdk/internal/util/Preconditions -/
def k12 : Class := { plain "jdk/internal/util/Preconditions" (some 0) with
  accessFlags := 33
  interfaces := #[]
  cf := some (fileOf pool12 24 #[.nestMembers #[55, 131, 125, 114]] #[{ accessFlags := 1, nameIndex := 5, descriptorIndex := 6, attributes := #[] }] 33 2 #[] #[{ accessFlags := 25, nameIndex := 123, descriptorIndex := 124, attributes := #[] }, { accessFlags := 25, nameIndex := 130, descriptorIndex := 124, attributes := #[] }, { accessFlags := 25, nameIndex := 136, descriptorIndex := 124, attributes := #[] }])
  fields := #[{ name := "SIOOBE_FORMATTER", type := (.object "java/util/function/BiFunction"), accessFlags := 25, slot := 0, constantValue := 0 }, { name := "AIOOBE_FORMATTER", type := (.object "java/util/function/BiFunction"), accessFlags := 25, slot := 1, constantValue := 0 }, { name := "IOOBE_FORMATTER", type := (.object "java/util/function/BiFunction"), accessFlags := 25, slot := 2, constantValue := 0 }]
  methods := #[k12m0]
  instanceTypes := #[]
  staticTypes := #[(.object "java/util/function/BiFunction"), (.object "java/util/function/BiFunction"), (.object "java/util/function/BiFunction")]
  resolved := Array.replicate 194 none
  statics := some 1 }

def pool13 : Array CpInfo := pool [(9, u "<init>"), (6, .class_ 18), (1, u "java/lang/Object"), (0, u "()V"), (1, .class_ 23), (1, u "jdk/internal/util/ArraysSupport"), (0, u "LOG2_ARRAY_LONG_INDEX_SCALE"), (0, u "I"), (2, u "U"), (0, u "Ljdk/internal/misc/Unsafe;"), (8, u "BIG_ENDIAN"), (0, u "Z"), (8, u "LOG2_BYTE_BIT_SIZE"), (4, u "LOG2_ARRAY_INT_INDEX_SCALE"), (54, u "JLA"), (0, u "Ljdk/internal/access/JavaLangAccess;"), (11, u "LOG2_ARRAY_BOOLEAN_INDEX_SCALE"), (9, u "LOG2_ARRAY_BYTE_INDEX_SCALE"), (5, u "LOG2_ARRAY_CHAR_INDEX_SCALE"), (5, u "LOG2_ARRAY_SHORT_INDEX_SCALE"), (18, u "LOG2_ARRAY_FLOAT_INDEX_SCALE"), (24, u "LOG2_ARRAY_DOUBLE_INDEX_SCALE"), (89, u "T_BOOLEAN"), (2, u "T_CHAR"), (1, u "T_FLOAT"), (1, u "T_DOUBLE"), (1, u "T_BYTE"), (1, u "T_SHORT"), (1, u "T_INT"), (1, u "T_LONG"), (1, u "SOFT_MAX_ARRAY_LENGTH")] 83

def k13m0 : Method := { name := "<init>", desc := "()V", sig := { parameters := [], returnType := none }, accessFlags := 2, code := none }
/-- jdk/internal/util/ArraysSupport -/
def k13 : Class := { plain "jdk/internal/util/ArraysSupport" (some 0) with
  accessFlags := 33
  interfaces := #[]
  cf := some (fileOf pool13 21 #[] #[{ accessFlags := 2, nameIndex := 9, descriptorIndex := 19, attributes := #[] }] 33 16 #[] #[{ accessFlags := 24, nameIndex := 28, descriptorIndex := 29, attributes := #[] }, { accessFlags := 26, nameIndex := 38, descriptorIndex := 39, attributes := #[] }, { accessFlags := 25, nameIndex := 121, descriptorIndex := 25, attributes := #[] }, { accessFlags := 25, nameIndex := 131, descriptorIndex := 25, attributes := #[] }, { accessFlags := 25, nameIndex := 137, descriptorIndex := 25, attributes := #[] }, { accessFlags := 25, nameIndex := 143, descriptorIndex := 25, attributes := #[] }, { accessFlags := 25, nameIndex := 53, descriptorIndex := 25, attributes := #[] }, { accessFlags := 25, nameIndex := 24, descriptorIndex := 25, attributes := #[] }, { accessFlags := 25, nameIndex := 162, descriptorIndex := 25, attributes := #[] }, { accessFlags := 25, nameIndex := 187, descriptorIndex := 25, attributes := #[] }, { accessFlags := 26, nameIndex := 48, descriptorIndex := 25, attributes := #[] }, { accessFlags := 25, nameIndex := 277, descriptorIndex := 25, attributes := #[] }, { accessFlags := 25, nameIndex := 280, descriptorIndex := 25, attributes := #[] }, { accessFlags := 25, nameIndex := 282, descriptorIndex := 25, attributes := #[] }, { accessFlags := 25, nameIndex := 284, descriptorIndex := 25, attributes := #[] }, { accessFlags := 25, nameIndex := 286, descriptorIndex := 25, attributes := #[] }, { accessFlags := 25, nameIndex := 288, descriptorIndex := 25, attributes := #[] }, { accessFlags := 25, nameIndex := 290, descriptorIndex := 25, attributes := #[] }, { accessFlags := 25, nameIndex := 292, descriptorIndex := 25, attributes := #[] }, { accessFlags := 26, nameIndex := 108, descriptorIndex := 109, attributes := #[] }, { accessFlags := 25, nameIndex := 294, descriptorIndex := 25, attributes := #[] }])
  fields := #[{ name := "U", type := (.object "jdk/internal/misc/Unsafe"), accessFlags := 24, slot := 0, constantValue := 0 }, { name := "BIG_ENDIAN", type := .boolean, accessFlags := 26, slot := 1, constantValue := 0 }, { name := "LOG2_ARRAY_BOOLEAN_INDEX_SCALE", type := .int, accessFlags := 25, slot := 2, constantValue := 0 }, { name := "LOG2_ARRAY_BYTE_INDEX_SCALE", type := .int, accessFlags := 25, slot := 3, constantValue := 0 }, { name := "LOG2_ARRAY_CHAR_INDEX_SCALE", type := .int, accessFlags := 25, slot := 4, constantValue := 0 }, { name := "LOG2_ARRAY_SHORT_INDEX_SCALE", type := .int, accessFlags := 25, slot := 5, constantValue := 0 }, { name := "LOG2_ARRAY_INT_INDEX_SCALE", type := .int, accessFlags := 25, slot := 6, constantValue := 0 }, { name := "LOG2_ARRAY_LONG_INDEX_SCALE", type := .int, accessFlags := 25, slot := 7, constantValue := 0 }, { name := "LOG2_ARRAY_FLOAT_INDEX_SCALE", type := .int, accessFlags := 25, slot := 8, constantValue := 0 }, { name := "LOG2_ARRAY_DOUBLE_INDEX_SCALE", type := .int, accessFlags := 25, slot := 9, constantValue := 0 }, { name := "LOG2_BYTE_BIT_SIZE", type := .int, accessFlags := 26, slot := 10, constantValue := 0 }, { name := "T_BOOLEAN", type := .int, accessFlags := 25, slot := 11, constantValue := 0 }, { name := "T_CHAR", type := .int, accessFlags := 25, slot := 12, constantValue := 0 }, { name := "T_FLOAT", type := .int, accessFlags := 25, slot := 13, constantValue := 0 }, { name := "T_DOUBLE", type := .int, accessFlags := 25, slot := 14, constantValue := 0 }, { name := "T_BYTE", type := .int, accessFlags := 25, slot := 15, constantValue := 0 }, { name := "T_SHORT", type := .int, accessFlags := 25, slot := 16, constantValue := 0 }, { name := "T_INT", type := .int, accessFlags := 25, slot := 17, constantValue := 0 }, { name := "T_LONG", type := .int, accessFlags := 25, slot := 18, constantValue := 0 }, { name := "JLA", type := (.object "jdk/internal/access/JavaLangAccess"), accessFlags := 26, slot := 19, constantValue := 0 }, { name := "SOFT_MAX_ARRAY_LENGTH", type := .int, accessFlags := 25, slot := 20, constantValue := 0 }]
  methods := #[k13m0]
  instanceTypes := #[]
  staticTypes := #[(.object "jdk/internal/misc/Unsafe"), .boolean, .int, .int, .int, .int, .int, .int, .int, .int, .int, .int, .int, .int, .int, .int, .int, .int, .int, (.object "jdk/internal/access/JavaLangAccess"), .int]
  resolved := Array.replicate 378 none
  statics := none }

def pool14 : Array CpInfo := pool [(1, u "java/lang/Cloneable"), (0, .class_ 1), (0, u "java/lang/Object"), (0, .class_ 3)] 3

/-- java/lang/Cloneable -/
def k14 : Class := { plain "java/lang/Cloneable" (some 0) with
  accessFlags := 1537
  interfaces := #[]
  cf := some (fileOf pool14 2 #[] #[] 1537 4 #[] #[])
  fields := #[]
  methods := #[]
  instanceTypes := #[]
  staticTypes := #[]
  resolved := Array.replicate 8 none
  statics := none }

/-- the primitive byte -/
def k15 : Class := { plain "byte" none with kind := .primitive 'B', accessFlags := 0x411 }
/-- [B -/
def k16 : Class := { plain "[B" (some 0) with kind := .array 15 .byte, interfaces := #[14, 5], accessFlags := 1041 }

/-- the primitive int -/
def k17 : Class := { plain "int" none with kind := .primitive 'I', accessFlags := 0x411 }
/-- [I -/
def k18 : Class := { plain "[I" (some 0) with kind := .array 17 .int, interfaces := #[14, 5], accessFlags := 1041 }

def heap : Heap := #[{ cls := 9, slots := #[.long 0, .int 1, .null, .int 0, .null, .int 0, .int 0], vm := .statics 9 },
  { cls := 12, slots := #[.null, .null, .null], vm := .statics 12 }]
def classes : Array Class := #[k0, k1, k2, k3, k4, k5, k6, k7, k8, k9, k10, k11, k12, k13, k14, k15, k16, k17, k18]
def interned : List (Array UInt16 × Addr) := []
def slotsUsed : Nat := 10
def theMethod : MethodId := ⟨1, 1⟩
def args0 : Array Value := #[.int 5, .int 3, .long 1, .int 2, .long 4]
def aboutOver (below : List Frame) : State where
  vm := { classes := classes, interned := interned.toArray }
  heap := heap
  slotsUsed := slotsUsed
  threads := #[{ frames := .invoking theMethod args0 :: below }]
def below0 : List Frame := [.native { method := ⟨0, 0⟩, args := #[] }]
def about1 : State := aboutOver below0
def p0 : Program := .bare "" "" ""
def e0 : Env := launch0.env 0 0 0
theorem w_frames : about1.frames = Frame.invoking theMethod args0 :: below0 := rfl
set_option maxRecDepth 65536 in
theorem w_args : argsFit about1.vm theMethod args0 = true := by decide +kernel
set_option maxRecDepth 65536 in
theorem w_heap : heapFits about1 = true := by decide +kernel
set_option maxRecDepth 65536 in
theorem w_runnable : about1.curStatus? = some .runnable := by decide +kernel
set_option maxRecDepth 65536 in
theorem w_alone : about1.alone = true := by decide +kernel
set_option maxRecDepth 65536 in
theorem w_named : about1.methodNamed? x = some theMethod := by decide +kernel
set_option maxRecDepth 65536 in
theorem w_hears : about1.hears theMethod below0 = true := by decide +kernel
set_option maxRecDepth 65536 in
theorem w_ripe : about1.ripe theMethod args0 below0 = true := by decide +kernel
theorem w_running : about1.status = .running := rfl
set_option maxRecDepth 65536 in
theorem w_room : about1.hasRoom e0.platform room_1 = true :=
  launch0.hasRoom_least _ room_1 (by decide +kernel) (by decide +kernel) (by decide +kernel) (by decide +kernel) (by decide +kernel) (by decide +kernel)
theorem allAtoms_all (ts : List Jvm.Cond) (a : Array Jvm.Value) (st : Jvm.State) : (allAtoms ts).before a st = ts.all (fun c => c.before a st) := by
  induction ts with
  | nil => rfl
  | cons c t ih =>
    show (Jvm.Cond.and c (allAtoms t)).before a st = _
    rw [Jvm.Cond.before_and, ih, List.all_cons]
def words1 : List Jvm.Cond := Jvm.Cond.code x code maxLocals ret :: tables_1
/-- a 'code' word, met by the world's own term for the bytes: nothing is compared byte by byte -/
theorem code_word {y : MethodName} {bytes : ByteArray} {mx : Nat} {rt : Option FieldType} {a : Array Value} {s : State} {m : MethodId} {meth : Method} {c : Code} (h1 : s.methodNamed? y = some m) (h2 : s.vm.method? m = some meth) (h3 : meth.code = some c) (h4 : c.code = bytes)
    (h5 : (c.maxLocals == mx && c.exceptionTable.isEmpty && decide (c.maxStack ≤ mostOperands) && decide (meth.sig.returnType = rt) && !meth.locks && decide (parseMethodDescriptor y.desc = some meth.sig)) = true) : (Jvm.Cond.code y bytes mx rt).before a s = true := by
  simp only [Bool.and_eq_true, beq_iff_eq, Bool.not_eq_true', decide_eq_true_eq] at h5
  obtain ⟨⟨⟨⟨⟨g1, g2⟩, g3⟩, g4⟩, g5⟩, g6⟩ := h5
  simp [Cond.before, Cond.holds, Cond.value, h1, h2, h3, h4, g1, g2, g3, g4, g5, g6]
def isCode : Jvm.Cond → Bool
  | .code _ _ _ _ => true
  | _ => false
theorem all_split {L : List Jvm.Cond} {P : Jvm.Cond → Bool} (h1 : L.all (fun c => isCode c || P c) = true) (h2 : ∀ c ∈ L.filter isCode, P c = true) : L.all P = true := by
  refine List.all_eq_true.mpr fun c hc => ?_
  have h := List.all_eq_true.mp h1 c hc
  rcases Bool.eq_false_or_eq_true (isCode c) with hi | hi
  · exact h2 c (List.mem_filter.mpr ⟨hc, hi⟩)
  · simpa [hi] using h
set_option maxRecDepth 65536 in
theorem w_c0 : (Jvm.Cond.code x code maxLocals ret).before args0 about1 = true := code_word (m := ⟨1, 1⟩) (meth := k1m1) (c := k1c1) (by decide +kernel) rfl rfl rfl (by decide +kernel)
set_option maxRecDepth 65536 in
theorem w_c1 : (Jvm.Cond.code ({ cls := "java/lang/String", name := "valueOf", desc := "(C)Ljava/lang/String;" } : Jvm.MethodName) jdk_42_method_139_code (1 : Nat) (Option.some (Jvm.ClassFile.FieldType.object "java/lang/String"))).before args0 about1 = true := code_word (m := ⟨9, 1⟩) (meth := k9m1) (c := k9c1) (by decide +kernel) rfl rfl rfl (by decide +kernel)
set_option maxRecDepth 65536 in
theorem w_c2 : (Jvm.Cond.code ({ cls := "java/lang/StringLatin1", name := "canEncode", desc := "(C)Z" } : Jvm.MethodName) jdk_43_method_3_code (1 : Nat) (Option.some Jvm.ClassFile.FieldType.boolean)).before args0 about1 = true := code_word (m := ⟨10, 1⟩) (meth := k10m1) (c := k10c1) (by decide +kernel) rfl rfl rfl (by decide +kernel)
set_option maxRecDepth 65536 in
theorem w_c3 : (Jvm.Cond.code ({ cls := "java/lang/StringLatin1", name := "toBytes", desc := "(C)[B" } : Jvm.MethodName) jdk_43_method_46_code (1 : Nat) (Option.some (Jvm.ClassFile.FieldType.array Jvm.ClassFile.FieldType.byte))).before args0 about1 = true := code_word (m := ⟨10, 2⟩) (meth := k10m2) (c := k10c2) (by decide +kernel) rfl rfl rfl (by decide +kernel)
set_option maxRecDepth 65536 in
theorem w_c4 : (Jvm.Cond.code ({ cls := "java/lang/String", name := "<init>", desc := "([BB)V" } : Jvm.MethodName) jdk_42_method_151_code (3 : Nat) (Option.none : Option Jvm.ClassFile.FieldType)).before args0 about1 = true := code_word (m := ⟨9, 2⟩) (meth := k9m2) (c := k9c2) (by decide +kernel) rfl rfl rfl (by decide +kernel)
set_option maxRecDepth 65536 in
theorem w_c5 : (Jvm.Cond.code ({ cls := "java/lang/Object", name := "<init>", desc := "()V" } : Jvm.MethodName) object_method_1_code (1 : Nat) (Option.none : Option Jvm.ClassFile.FieldType)).before args0 about1 = true := code_word (m := ⟨0, 0⟩) (meth := k0m0) (c := k0c0) (by decide +kernel) rfl rfl rfl (by decide +kernel)
set_option maxRecDepth 65536 in
theorem w_c6 : (Jvm.Cond.code ({ cls := "org/ripplelog/event/BinlogPosition", name := "<init>", desc := "(Ljava/lang/String;J)V" } : Jvm.MethodName) prog_152_method_1_code (4 : Nat) (Option.none : Option Jvm.ClassFile.FieldType)).before args0 about1 = true := code_word (m := ⟨4, 0⟩) (meth := k4m0) (c := k4c0) (by decide +kernel) rfl rfl rfl (by decide +kernel)
set_option maxRecDepth 65536 in
theorem w_c7 : (Jvm.Cond.code ({ cls := "java/lang/Record", name := "<init>", desc := "()V" } : Jvm.MethodName) jdk_30_method_1_code (1 : Nat) (Option.none : Option Jvm.ClassFile.FieldType)).before args0 about1 = true := code_word (m := ⟨2, 0⟩) (meth := k2m0) (c := k2c0) (by decide +kernel) rfl rfl rfl (by decide +kernel)
set_option maxRecDepth 65536 in
theorem w_c8 : (Jvm.Cond.code ({ cls := "org/ripplelog/event/ResumePoint", name := "<init>", desc := "(Lorg/ripplelog/event/BinlogPosition;Lorg/ripplelog/event/BinlogPosition;)V" } : Jvm.MethodName) prog_169_method_1_code (3 : Nat) (Option.none : Option Jvm.ClassFile.FieldType)).before args0 about1 = true := code_word (m := ⟨11, 0⟩) (meth := k11m0) (c := k11c0) (by decide +kernel) rfl rfl rfl (by decide +kernel)
set_option maxRecDepth 65536 in
theorem w_c9 : (Jvm.Cond.code ({ cls := "org/ripplelog/event/ResumePoint", name := "from", desc := "()Lorg/ripplelog/event/BinlogPosition;" } : Jvm.MethodName) prog_169_method_3_code (1 : Nat) (Option.some (Jvm.ClassFile.FieldType.object "org/ripplelog/event/BinlogPosition"))).before args0 about1 = true := code_word (m := ⟨11, 1⟩) (meth := k11m1) (c := k11c1) (by decide +kernel) rfl rfl rfl (by decide +kernel)
set_option maxRecDepth 65536 in
theorem w_c10 : (Jvm.Cond.code ({ cls := "org/ripplelog/event/ResumePoint", name := "position", desc := "()Lorg/ripplelog/event/BinlogPosition;" } : Jvm.MethodName) prog_169_method_7_code (1 : Nat) (Option.some (Jvm.ClassFile.FieldType.object "org/ripplelog/event/BinlogPosition"))).before args0 about1 = true := code_word (m := ⟨11, 2⟩) (meth := k11m2) (c := k11c2) (by decide +kernel) rfl rfl rfl (by decide +kernel)
set_option maxRecDepth 65536 in
theorem w_c11 : (Jvm.Cond.code ({ cls := "org/ripplelog/event/ResumePoint", name := "prepared", desc := "()Lorg/ripplelog/event/BinlogPosition;" } : Jvm.MethodName) prog_169_method_8_code (1 : Nat) (Option.some (Jvm.ClassFile.FieldType.object "org/ripplelog/event/BinlogPosition"))).before args0 about1 = true := code_word (m := ⟨11, 3⟩) (meth := k11m3) (c := k11c3) (by decide +kernel) rfl rfl rfl (by decide +kernel)
def codes1 : List Jvm.Cond := [Jvm.Cond.code x code maxLocals ret, Jvm.Cond.code ({ cls := "java/lang/String", name := "valueOf", desc := "(C)Ljava/lang/String;" } : Jvm.MethodName) jdk_42_method_139_code (1 : Nat) (Option.some (Jvm.ClassFile.FieldType.object "java/lang/String")), Jvm.Cond.code ({ cls := "java/lang/StringLatin1", name := "canEncode", desc := "(C)Z" } : Jvm.MethodName) jdk_43_method_3_code (1 : Nat) (Option.some Jvm.ClassFile.FieldType.boolean), Jvm.Cond.code ({ cls := "java/lang/StringLatin1", name := "toBytes", desc := "(C)[B" } : Jvm.MethodName) jdk_43_method_46_code (1 : Nat) (Option.some (Jvm.ClassFile.FieldType.array Jvm.ClassFile.FieldType.byte)), Jvm.Cond.code ({ cls := "java/lang/String", name := "<init>", desc := "([BB)V" } : Jvm.MethodName) jdk_42_method_151_code (3 : Nat) (Option.none : Option Jvm.ClassFile.FieldType), Jvm.Cond.code ({ cls := "java/lang/Object", name := "<init>", desc := "()V" } : Jvm.MethodName) object_method_1_code (1 : Nat) (Option.none : Option Jvm.ClassFile.FieldType), Jvm.Cond.code ({ cls := "org/ripplelog/event/BinlogPosition", name := "<init>", desc := "(Ljava/lang/String;J)V" } : Jvm.MethodName) prog_152_method_1_code (4 : Nat) (Option.none : Option Jvm.ClassFile.FieldType), Jvm.Cond.code ({ cls := "java/lang/Record", name := "<init>", desc := "()V" } : Jvm.MethodName) jdk_30_method_1_code (1 : Nat) (Option.none : Option Jvm.ClassFile.FieldType), Jvm.Cond.code ({ cls := "org/ripplelog/event/ResumePoint", name := "<init>", desc := "(Lorg/ripplelog/event/BinlogPosition;Lorg/ripplelog/event/BinlogPosition;)V" } : Jvm.MethodName) prog_169_method_1_code (3 : Nat) (Option.none : Option Jvm.ClassFile.FieldType), Jvm.Cond.code ({ cls := "org/ripplelog/event/ResumePoint", name := "from", desc := "()Lorg/ripplelog/event/BinlogPosition;" } : Jvm.MethodName) prog_169_method_3_code (1 : Nat) (Option.some (Jvm.ClassFile.FieldType.object "org/ripplelog/event/BinlogPosition")), Jvm.Cond.code ({ cls := "org/ripplelog/event/ResumePoint", name := "position", desc := "()Lorg/ripplelog/event/BinlogPosition;" } : Jvm.MethodName) prog_169_method_7_code (1 : Nat) (Option.some (Jvm.ClassFile.FieldType.object "org/ripplelog/event/BinlogPosition")), Jvm.Cond.code ({ cls := "org/ripplelog/event/ResumePoint", name := "prepared", desc := "()Lorg/ripplelog/event/BinlogPosition;" } : Jvm.MethodName) prog_169_method_8_code (1 : Nat) (Option.some (Jvm.ClassFile.FieldType.object "org/ripplelog/event/BinlogPosition"))]
set_option maxRecDepth 65536 in
theorem codes_eq : words1.filter isCode = codes1 := rfl
theorem w_codes : ∀ c ∈ words1.filter isCode, c.before args0 about1 = true := by
  rw [codes_eq]
  intro c hc
  simp only [codes1, List.mem_cons, List.not_mem_nil, or_false] at hc
  rcases hc with rfl | rfl | rfl | rfl | rfl | rfl | rfl | rfl | rfl | rfl | rfl | rfl
  · exact w_c0
  · exact w_c1
  · exact w_c2
  · exact w_c3
  · exact w_c4
  · exact w_c5
  · exact w_c6
  · exact w_c7
  · exact w_c8
  · exact w_c9
  · exact w_c10
  · exact w_c11
set_option maxRecDepth 65536 in
theorem w_t1 : (words1.take 24).all (fun c => isCode c || c.before args0 about1) = true := by decide +kernel
set_option maxRecDepth 65536 in
theorem w_t2 : ((words1.drop 24).take 24).all (fun c => isCode c || c.before args0 about1) = true := by decide +kernel
set_option maxRecDepth 65536 in
theorem w_t3 : ((words1.drop 24).drop 24).all (fun c => isCode c || c.before args0 about1) = true := by decide +kernel
theorem w_tables : (allAtoms (Jvm.Cond.code x code maxLocals ret :: tables_1)).before args0 about1 = true := by
  rw [allAtoms_all]
  show words1.all (fun c => c.before args0 about1) = true
  refine all_split ?_ w_codes
  rw [← List.take_append_drop 24 words1, List.all_append, w_t1, ← List.take_append_drop 24 (words1.drop 24), List.all_append, w_t2, w_t3]
  rfl
set_option maxRecDepth 65536 in
theorem w_rest : rest_1_c.before args0 about1 = true := by decide +kernel
set_option maxRecDepth 65536 in
theorem w_case : (Jvm.Cond.and given_1 narrow_1).before args0 about1 = true := by decide +kernel
theorem w_applies : (headSpec (Jvm.Cond.code x code maxLocals ret :: tables_1) room_1).applies x e0.platform about1 = true :=
  (Spec.applies_iff w_frames).mpr ⟨w_running, w_runnable, w_alone, w_named, w_hears, w_ripe, w_room, w_tables⟩
theorem atStart : AtStart classFile x code maxLocals ret World_1 tables_1 room_1 Calls_1 rest_1 Pre_1 launch0 p0 e0 about1 theMethod args0 below0 :=
  ⟨lists_1, trivial, launch0.admits_env _ _ _, launch0.least_env, fairChoices_fair.cas, fairChoices_fair.clock, w_frames, w_args, w_heap, w_applies, trivial, w_rest, w_case⟩
end start1
theorem witness_1 : WitnessClaimed_1 := ⟨start1.p0, start1.e0, start1.about1, start1.theMethod, start1.args0, start1.below0, start1.atStart⟩
end Jvm.Pilot.@@N@@
