import JvmDerived
import JvmDerived.Pilot.@@N@@Statement
import JvmDerived.Pilot.@@N@@Code
set_option linter.unusedVariables false
set_option linter.unusedSimpArgs false
namespace Jvm.RoadKit
open Sem ClassFile Op Lib Jvm.Stand Jvm.Free Jvm.LawKit
section New
variable {p : Program} {l : Launch} {e : Env} {R : Room} {s : State} {m : MethodId} {args : Array Value} {below : List Frame} {meth : Method} {c : Code} {T : State} {locs : List Loc} {cells slots : Nat}
theorem retI (X : Stand p l e R s m args below meth c T locs cells slots) (hx : p.tables.exec = Jvm.exec) {pc : Nat} {Ls : Array Slot} {z : Int32} {rest : List Value} (hret : meth.sig.returnType = some .int) (hd : decode c.code pc = .ok (.ireturn, 1)) {fs : List Frame}
    (hl : ∀ (f : JFrame) (acts : List Action), f.method = m → f.locked = none → f.entered = [] → (doReturn e (T.setTop f) acts (some (.int z))).1 = T.setFrames fs) : Steps p.tables e below (T.setTop (mkF m pc Ls (.int z :: rest))) (T.setFrames fs) := by
  have hm' : T.vm.method? m = some meth := X.method'
  have hn : narrow .int (.int z) = .int z := rfl
  show Steps p.tables e below (T.setTop { method := m, pc := pc, locals := Ls, stack := _ :: rest, locked := none }) _
  jvm_step X.here [X.here.top, hx, hd, hm', hret, hn]
  first | (intro acts; rw [hl _ acts rfl rfl rfl]) | rw [hl _ _ rfl rfl rfl]
  exact Steps.refl _
end New
end Jvm.RoadKit
namespace Jvm.Pilot.@@N@@
open Jvm Jvm.ClassFile Sem Op Lib Jvm.Free Jvm.Stand Jvm.LawKit Jvm.RoadKit Bundle Jvm.Pilot.@@N@@.Jvm.D
/-! 0. the walk's goal: from the state S the body ends, and Q says what it leaves -/
def own_G (p : Program) (e : Env) (below : List Frame) (s : State) (Q : Option Value → Heap → List Loc → Prop) (k n : Nat) (S : State) : Prop :=
  ∃ s₂ o, Steps p.tables e below S s₂ ∧ s₂.status = .running ∧ Ended s₂ below o ∧ ∃ v L, o = .returned v ∧ Q v s₂.heap L ∧ FrameEnd s o s₂ L k n
theorem own_go {p : Program} {e : Env} {below : List Frame} {s : State} {Q : Option Value → Heap → List Loc → Prop} {k n : Nat} {S S' : State} (h : ∀ t, Steps p.tables e below S' t → Steps p.tables e below S t) (g : own_G p e below s Q k n S') : own_G p e below s Q k n S := by
  obtain ⟨t, o, h1, h2⟩ := g
  exact ⟨t, o, h t h1, h2⟩
theorem own_G0 {p : Program} {e : Env} {below : List Frame} {s : State} {Q : Option Value → Heap → List Loc → Prop} {k n : Nat} {S : State} (g : own_G p e below s Q k n S) :
    ∃ s₂ o, Steps p.tables e below S s₂ ∧ s₂.status = .running ∧ Ended s₂ below o ∧ ∃ v L, o = .returned v ∧ Q v s₂.heap L ∧ FrameEnd s o s₂ L k n := g
/-- a body that writes nothing and returns r -/
def own_Q (r : Option Value) (h0 : Heap) (v : Option Value) (h : Heap) (L : List Loc) : Prop := v = r ∧ L = [] ∧ h = h0
/-- Java's x % y, x >>> y on ints and longs, (char) x -/
def own_rem (x y : Int32) : Int32 := x - (x / y) * y
def own_us (x y : Int32) : Int32 := (x.toUInt32 >>> (y &&& 31).toUInt32).toInt32
def own_usL (x : Int64) (y : Int32) : Int64 := (x.toUInt64 >>> (y &&& 0x3f).toInt64.toUInt64).toInt64
def own_c (x : Int32) : Int32 := x.toUInt32.toUInt16.toUInt32.toInt32
theorem own_eq {p : Program} {e : Env} {below : List Frame} {s : State} {h0 : Heap} {k n : Nat} {S : State} {a b : Int32} (h : a = b) (g : own_G p e below s (own_Q (some (.int b)) h0) k n S) : own_G p e below s (own_Q (some (.int a)) h0) k n S := h ▸ g
section Own
variable {p : Program} {l : Launch} {e : Env} {R : Room} {s : State} {m : MethodId} {args : Array Value} {below : List Frame} {meth : Method} {c : Code} {T : State} {locs : List Loc} {cells slots : Nat} {Q : Option Value → Heap → List Loc → Prop} {k n : Nat}
theorem own_retI (X : Stand p l e R s m args below meth c T locs cells slots) (hx : p.tables.exec = Jvm.exec) (hlk : meth.locks = false) {pc : Nat} {Ls : Array Slot} {z : Int32} {rest : List Value} (hret : meth.sig.returnType = some .int) (hd : decode c.code pc = .ok (.ireturn, 1)) (hc : cells ≤ k) (hs : slots ≤ n) (hq : Q (some (.int z)) T.heap locs) :
    own_G p e below s Q k n (T.setTop (mkF m pc Ls (.int z :: rest))) := by
  obtain ⟨fs, hr, hrun, hended, hW, hsame⟩ := X.leave (v := some (.int z)) (fun h => by rw [hret] at h; cases h) hlk
  exact ⟨_, _, retI X hx hret hd hr, hrun, hended, _, _, rfl, hq, ⟨_, rfl⟩, hW, hsame.mono hc hs⟩
theorem own_retN (X : Stand p l e R s m args below meth c T locs cells slots) (hx : p.tables.exec = Jvm.exec) (hlk : meth.locks = false) {pc : Nat} {Ls : Array Slot} {z : Int32} {t : FieldType} {rest : List Value} (hret : meth.sig.returnType = some t) (ht : t = .boolean ∨ t = .byte ∨ t = .char ∨ t = .short) (hd : decode c.code pc = .ok (.ireturn, 1)) (hc : cells ≤ k) (hs : slots ≤ n) (hq : Q (some (.int (nar t z))) T.heap locs) :
    own_G p e below s Q k n (T.setTop (mkF m pc Ls (.int z :: rest))) := by
  obtain ⟨fs, hr, hrun, hended, hW, hsame⟩ := X.leave (v := some (.int (nar t z))) (fun h => by rw [hret] at h; cases h) hlk
  exact ⟨_, _, retN X hx hret ht hd hr, hrun, hended, _, _, rfl, hq, ⟨_, rfl⟩, hW, hsame.mono hc hs⟩
theorem own_retJ (X : Stand p l e R s m args below meth c T locs cells slots) (hx : p.tables.exec = Jvm.exec) (hlk : meth.locks = false) {pc : Nat} {Ls : Array Slot} {z : Int64} (hret : meth.sig.returnType = some .long) (hd : decode c.code pc = .ok (.lreturn, 1)) (hc : cells ≤ k) (hs : slots ≤ n) (hq : Q (some (.long z)) T.heap locs) :
    own_G p e below s Q k n (T.setTop (mkF m pc Ls [.long z])) := by
  obtain ⟨fs, hr, hrun, hended, hW, hsame⟩ := X.leave (v := some (.long z)) (fun h => by rw [hret] at h; cases h) hlk
  exact ⟨_, _, X.lreturnOut hx hret hd hr, hrun, hended, _, _, rfl, hq, ⟨_, rfl⟩, hW, hsame.mono hc hs⟩
theorem own_retA (X : Stand p l e R s m args below meth c T locs cells slots) (hx : p.tables.exec = Jvm.exec) (hlk : meth.locks = false) {pc : Nat} {Ls : Array Slot} {w : Value} {t : FieldType} (hw : w.isRef = true) (hret : meth.sig.returnType = some t) (ht : t.isReference = true) (hd : decode c.code pc = .ok (.areturn, 1)) (hc : cells ≤ k) (hs : slots ≤ n) (hq : Q (some w) T.heap locs) :
    own_G p e below s Q k n (T.setTop (mkF m pc Ls [w])) := by
  obtain ⟨fs, hr, hrun, hended, hW, hsame⟩ := X.leave (v := some w) (fun h => by rw [hret] at h; cases h) hlk
  exact ⟨_, _, X.areturnOut hx hw hret ht hd hr, hrun, hended, _, _, rfl, hq, ⟨_, rfl⟩, hW, hsame.mono hc hs⟩
theorem own_retV (X : Stand p l e R s m args below meth c T locs cells slots) (hx : p.tables.exec = Jvm.exec) (hlk : meth.locks = false) {pc : Nat} {Ls : Array Slot} (hret : meth.sig.returnType = none) (hd : decode c.code pc = .ok (.return_, 1)) (hc : cells ≤ k) (hs : slots ≤ n) (hq : Q none T.heap locs) :
    own_G p e below s Q k n (T.setTop (mkF m pc Ls [])) := by
  obtain ⟨fs, hr, hrun, hended, hW, hsame⟩ := X.leave (v := none) (fun _ => rfl) hlk
  exact ⟨_, _, X.returnOut hx hret hd hr, hrun, hended, _, _, rfl, hq, ⟨_, rfl⟩, hW, hsame.mono hc hs⟩
/-- a static call of a body that writes nothing -/
theorem own_call (X : Stand p l e R s m args below meth c T locs cells slots) (hx : p.tables.exec = Jvm.exec) {Z : State} (hZ : Z.Warmed39 s.vm) {a0 : Array Value} {own : String} {index : Nat} {y : MethodName} {bytes : ByteArray} {maxL : Nat} {ret : Option FieldType} {rm : Room} (hown : s.vm.findClass own = some m.cls)
    (w1 : (Cond.methodLink own index y).before a0 Z = true) (w2 : (Cond.static y).before a0 Z = true) (w3 : (Cond.initialized y.cls).before a0 Z = true) (w4 : (Cond.code y bytes maxL ret).before a0 Z = true) (hy : y.cls ≠ "java/lang/invoke/MethodHandle" ∧ y.cls ≠ "java/lang/invoke/VarHandle")
    {as' : Array Value} {h : Heap} {r : Option Value} (hM : MetFree l y (head1 [Cond.code y bytes maxL ret] rm) (fun a U => a = as' ∧ Z.Warmed39 U.vm ∧ U.heap = h) (fun _ _ _ _ _ => True) (fun _ U o U' => ∃ v L, o = .returned v ∧ own_Q r h v U'.heap L ∧ FrameEnd U o U' L rm.cells rm.slots)) (hc0 : rm.cells = 0) (hs0 : rm.slots = 0) (eT : T.heap = h)
    {W : Nat} (hf : rm.frames + 1 ≤ R.frames) (hl : W + (maxL + 11) + rm.locals ≤ R.locals) (hcR : cells ≤ R.cells) (hsR : slots ≤ R.slots) {g : JFrame} (hg : g.method = m) (hsize : g.locals.size = c.maxLocals) {argsL rest : List Value} (hlen : ∀ sig, parseMethodDescriptor y.desc = some sig → argsL.length = sig.parameters.length) (has : argsL.toArray = as') (hstack : g.stack = argsL.reverse ++ rest)
    (hW : 2 * g.monitorRoom + (rest.map fun v => v.category).sum ≤ W) (hdg : decode c.code g.pc = .ok (.invokestatic index, 3)) :
    ∃ T', Stand p l e R s m args below meth c T' locs cells slots ∧ T'.heap = h ∧ ∀ t, Steps p.tables e below (T'.setTop { g with pc := g.pc + 3, stack := r.toList ++ rest }) t → Steps p.tables e below (T.setTop g) t := by
  obtain ⟨_, _, ⟨T2, L2, k2, n2⟩, -, X2, ⟨Lc2, hQ2, l2, y2, z2⟩, st2⟩ := Jvm.LawKit.callS X hx hown (mvT hZ w1) (mvT hZ w2) (mvT hZ w3) (mvT hZ w4) hy (backOf (W := W) hM hZ w4 w3 hf hl) hg hsize hlen hstack hW hdg (fun _ _ => ⟨has, eT, (by show cells + rm.cells ≤ R.cells; rw [hc0]; exact hcR), (by show slots + rm.slots ≤ R.slots; rw [hs0]; exact hsR)⟩)
  dsimp only [Pt.U, Pt.locs, Pt.cells, Pt.slots] at X2 l2 y2 z2 st2 hQ2
  obtain ⟨rfl, rfl, e2⟩ := hQ2
  rw [hc0] at y2
  rw [hs0] at z2
  rw [List.append_nil] at l2
  subst l2 y2 z2
  exact ⟨T2, X2, e2, st2⟩
end Own

def own_QF (r : Option Value) (n0 : Nat) (v : Option Value) (h : Heap) (L : List Loc) : Prop := v = r ∧ Fr n0 L
theorem own_eqF {p : Program} {e : Env} {below : List Frame} {s : State} {n0 : Nat} {k n : Nat} {S : State} {a b : Int32} (h : a = b) (g : own_G p e below s (own_QF (some (.int b)) n0) k n S) : own_G p e below s (own_QF (some (.int a)) n0) k n S := h ▸ g
/-! arrays: at a stands an array of n values, the j-th f j -/
def own_A (Z : State) (h : Heap) (a : Addr) (ty : FieldType) (n : Int32) (f : Int32 → Int32) : Prop :=
  ∃ c : Cell, Arr Z h a c ty ∧ c.slots.size = n.toNatClampNeg ∧ ¬ n < 0 ∧ ∀ j : Int32, ¬ j < 0 → j < n → c.slots[j.toNatClampNeg]? = some (.int (f j))
def own_set (f : Int32 → Int32) (j v : Int32) (i : Int32) : Int32 := if i = j then v else f i
theorem own_clamp {j n : Int32} (h0 : ¬ j < 0) (h1 : j < n) : j.toNatClampNeg < n.toNatClampNeg := by
  rw [Int32.lt_iff_toInt_lt] at h0 h1
  have : (0 : Int32).toInt = 0 := rfl
  show j.toInt.toNat < n.toInt.toNat
  omega
theorem own_clinj {i j : Int32} (h0 : ¬ i < 0) (h1 : ¬ j < 0) (h : i.toNatClampNeg = j.toNatClampNeg) : i = j := by
  rw [Int32.lt_iff_toInt_lt] at h0 h1
  have z : (0 : Int32).toInt = 0 := rfl
  have e : i.toInt.toNat = j.toInt.toNat := h
  apply Int32.toInt_inj.mp
  omega
theorem own_A_new {Z : State} {h : Heap} {a : Addr} {k : ClassId} {ty : FieldType} {n : Int32} (A : Arr Z h a (newA k ty n) ty) (q : ¬ n < 0) (hd : defaultValue ty = .int 0) : own_A Z h a ty n (fun _ => 0) := by
  obtain ⟨c, h1, -, h3, h4, h5, -⟩ := Arv.new A q
  refine ⟨c, h1, h3, q, fun j h0 hj => ?_⟩
  have := h5 j.toNatClampNeg (by rw [h3]; exact own_clamp h0 hj)
  rw [this, hd]
  rfl
theorem own_A_set {Z : State} {h h' : Heap} {a : Addr} {ty : FieldType} {n j v : Int32} {f : Int32 → Int32} (A : own_A Z h a ty n f) (h0 : ¬ j < 0) (h1 : j < n) (W : Wr h h' a j.toNatClampNeg (.int v)) : own_A Z h' a ty n (own_set f j v) := by
  obtain ⟨c, A1, A2, A3, A4⟩ := A
  refine ⟨_, A1.same W, by rw [← A2]; simp [Cell.setSlot], A3, fun i i0 i1 => ?_⟩
  show (c.slots.setIfInBounds j.toNatClampNeg (.int v))[i.toNatClampNeg]? = _
  by_cases e : i = j
  · subst e
    rw [Array.getElem?_setIfInBounds_self_of_lt (by rw [A2]; exact own_clamp h0 h1)]
    simp [own_set]
  · rw [Array.getElem?_setIfInBounds_ne (fun q => e (own_clinj i0 h0 q.symm)), A4 i i0 i1]
    simp [own_set, e]
theorem own_A_other {Z : State} {h h' : Heap} {a b : Addr} {ty : FieldType} {n : Int32} {f : Int32 → Int32} {sl : Nat} {v : Value} (A : own_A Z h a ty n f) (W : Wr h h' b sl v) (q : a ≠ b) : own_A Z h' a ty n f := by
  obtain ⟨c, A1, A2⟩ := A
  exact ⟨c, A1.other W q, A2⟩
theorem own_A_ext {Z : State} {h h' : Heap} {a : Addr} {ty : FieldType} {n : Int32} {f : Int32 → Int32} (A : own_A Z h a ty n f) (E : Ext h h') : own_A Z h' a ty n f := by
  obtain ⟨c, A1, A2⟩ := A
  exact ⟨c, A1.ext E, A2⟩
theorem own_A_lt {Z : State} {h : Heap} {a : Addr} {ty : FieldType} {n : Int32} {f : Int32 → Int32} (A : own_A Z h a ty n f) : a < h.size := by
  obtain ⟨c, A1, A2⟩ := A
  exact A1.lt
section OwnA
variable {p : Program} {l : Launch} {e : Env} {R : Room} {s : State} {m : MethodId} {args : Array Value} {below : List Frame} {meth : Method} {c : Code} {T : State} {locs : List Loc} {cells slots : Nat} {Z : State} {h : Heap} {n0 : Nat}
theorem own_new (X : Stand p l e R s m args below meth c T locs cells slots) (hx : p.tables.exec = Jvm.exec) (hZ : Z.Warmed39 s.vm) {a0 : Array Value} {aty : ArrayType} (w : (Cond.arrayClass (newarray.typeOf aty)).before a0 Z = true) (eT : T.heap = h) (hn0 : n0 ≤ h.size) (hdv : defaultValue (newarray.typeOf aty) = .int 0) {g : JFrame} (hg : g.method = m) (hd : decode c.code g.pc = .ok (.newarray aty, 2)) {n : Int32} {rest : List Value} (hs : g.stack = .int n :: rest)
    (hn : ¬ n < 0) {cap : Nat} (hcap : n.toNatClampNeg ≤ cap) (hb : cap * 8 ≤ 536870912) (hc : cells + 1 ≤ R.cells) (hl : slots + cap ≤ R.slots) :
    ∃ T' h' a, Stand p l e R s m args below meth c T' locs (cells + 1) (slots + cap) ∧ T'.heap = h' ∧ Ext h h' ∧ a = h.size ∧ n0 ≤ a ∧ own_A Z h' a (newarray.typeOf aty) n (fun _ => 0) ∧
      ∀ target, Steps p.tables e below (T'.setTop { g with pc := g.pc + 2, stack := .ref a :: rest }) target → Steps p.tables e below (T.setTop g) target := by
  obtain ⟨T', h', cA, X', e', E', A', st⟩ := newP X hx hZ w eT hg hd hs hn hcap hb hc hl
  exact ⟨T', h', h.size, X', e', E', rfl, hn0, own_A_new A' hn hdv, st⟩
theorem own_stC (X : Stand p l e R s m args below meth c T locs cells slots) (hx : p.tables.exec = Jvm.exec) (hZ : Z.Warmed39 s.vm) (eT : T.heap = h) {a : Addr} {n : Int32} {f : Int32 → Int32} (A : own_A Z h a .char n f) (N : Fr n0 locs) (ha : n0 ≤ a) {j x : Int32} (h0 : ¬ j < 0) (h1 : j < n) {g : JFrame} (hg : g.method = m) {rest : List Value} (hs : g.stack = .int x :: .int j :: .ref a :: rest) (hd : decode c.code g.pc = .ok (.castore, 1)) :
    ∃ T' h' locs', Stand p l e R s m args below meth c T' locs' cells slots ∧ T'.heap = h' ∧ Fr n0 locs' ∧ own_A Z h' a .char n (own_set f j (nar .char x)) ∧ Wr h h' a j.toNatClampNeg (.int (nar .char x)) ∧
      ∀ target, Steps p.tables e below (T'.setTop { g with pc := g.pc + 1, stack := rest }) target → Steps p.tables e below (T.setTop g) target := by
  obtain ⟨cl, Ar, Sz, Hn, Hf⟩ := A
  obtain ⟨T', h', X', e', W', st⟩ := stC X hx hZ eT Ar (inb_of Sz ⟨h0, h1⟩) hg hs hd
  exact ⟨T', h', _, X', e', Fr.snoc X' N ha, own_A_set ⟨cl, Ar, Sz, Hn, Hf⟩ h0 h1 W', W', st⟩
theorem own_stI (X : Stand p l e R s m args below meth c T locs cells slots) (hx : p.tables.exec = Jvm.exec) (hZ : Z.Warmed39 s.vm) (eT : T.heap = h) {a : Addr} {n : Int32} {f : Int32 → Int32} (A : own_A Z h a .int n f) (N : Fr n0 locs) (ha : n0 ≤ a) {j x : Int32} (h0 : ¬ j < 0) (h1 : j < n) {g : JFrame} (hg : g.method = m) {rest : List Value} (hs : g.stack = .int x :: .int j :: .ref a :: rest) (hd : decode c.code g.pc = .ok (.iastore, 1)) :
    ∃ T' h' locs', Stand p l e R s m args below meth c T' locs' cells slots ∧ T'.heap = h' ∧ Fr n0 locs' ∧ own_A Z h' a .int n (own_set f j x) ∧ Wr h h' a j.toNatClampNeg (.int x) ∧
      ∀ target, Steps p.tables e below (T'.setTop { g with pc := g.pc + 1, stack := rest }) target → Steps p.tables e below (T.setTop g) target := by
  obtain ⟨cl, Ar, Sz, Hn, Hf⟩ := A
  obtain ⟨T', h', X', e', W', st⟩ := stI X hx hZ eT Ar (inb_of Sz ⟨h0, h1⟩) hg hs hd
  exact ⟨T', h', _, X', e', Fr.snoc X' N ha, own_A_set ⟨cl, Ar, Sz, Hn, Hf⟩ h0 h1 W', W', st⟩
theorem own_stB (X : Stand p l e R s m args below meth c T locs cells slots) (hx : p.tables.exec = Jvm.exec) (hZ : Z.Warmed39 s.vm) (eT : T.heap = h) {a : Addr} {n : Int32} {f : Int32 → Int32} (A : own_A Z h a .byte n f) (N : Fr n0 locs) (ha : n0 ≤ a) {j x : Int32} (h0 : ¬ j < 0) (h1 : j < n) {g : JFrame} (hg : g.method = m) {rest : List Value} (hs : g.stack = .int x :: .int j :: .ref a :: rest) (hd : decode c.code g.pc = .ok (.bastore, 1)) :
    ∃ T' h' locs', Stand p l e R s m args below meth c T' locs' cells slots ∧ T'.heap = h' ∧ Fr n0 locs' ∧ own_A Z h' a .byte n (own_set f j (nar .byte x)) ∧ Wr h h' a j.toNatClampNeg (.int (nar .byte x)) ∧
      ∀ target, Steps p.tables e below (T'.setTop { g with pc := g.pc + 1, stack := rest }) target → Steps p.tables e below (T.setTop g) target := by
  obtain ⟨cl, Ar, Sz, Hn, Hf⟩ := A
  obtain ⟨T', h', X', e', W', st⟩ := stB X hx hZ eT Ar (inb_of Sz ⟨h0, h1⟩) hg hs hd
  exact ⟨T', h', _, X', e', Fr.snoc X' N ha, own_A_set ⟨cl, Ar, Sz, Hn, Hf⟩ h0 h1 W', W', st⟩
theorem own_ldC (X : Stand p l e R s m args below meth c T locs cells slots) (hx : p.tables.exec = Jvm.exec) (hZ : Z.Warmed39 s.vm) (eT : T.heap = h) {a : Addr} {n : Int32} {f : Int32 → Int32} (A : own_A Z h a .char n f) {j : Int32} (h0 : ¬ j < 0) (h1 : j < n) {g : JFrame} (hg : g.method = m) {rest : List Value} (hs : g.stack = .int j :: .ref a :: rest) (hd : decode c.code g.pc = .ok (.caload, 1)) :
    ∀ target, Steps p.tables e below (T.setTop { g with pc := g.pc + 1, stack := .int (f j) :: rest }) target → Steps p.tables e below (T.setTop g) target := by
  obtain ⟨cl, Ar, Sz, Hn, Hf⟩ := A
  exact fun t k => X.caload hx (j := j) (v := .int (f j)) (by rw [eT]; exact Ar.1) (State.isArrayOf_alike hZ.alike Ar.2.1) Ar.2.2 (inb_of Sz ⟨h0, h1⟩) (Hf j h0 h1) hg hs hd t k
theorem own_ldI (X : Stand p l e R s m args below meth c T locs cells slots) (hx : p.tables.exec = Jvm.exec) (hZ : Z.Warmed39 s.vm) (eT : T.heap = h) {a : Addr} {n : Int32} {f : Int32 → Int32} (A : own_A Z h a .int n f) {j : Int32} (h0 : ¬ j < 0) (h1 : j < n) {g : JFrame} (hg : g.method = m) {rest : List Value} (hs : g.stack = .int j :: .ref a :: rest) (hd : decode c.code g.pc = .ok (.iaload, 1)) :
    ∀ target, Steps p.tables e below (T.setTop { g with pc := g.pc + 1, stack := .int (f j) :: rest }) target → Steps p.tables e below (T.setTop g) target := by
  obtain ⟨cl, Ar, Sz, Hn, Hf⟩ := A
  exact fun t k => X.iaload hx (j := j) (v := .int (f j)) (by rw [eT]; exact Ar.1) (State.isArrayOf_alike hZ.alike Ar.2.1) Ar.2.2 (inb_of Sz ⟨h0, h1⟩) (Hf j h0 h1) hg hs hd t k
theorem own_ldB (X : Stand p l e R s m args below meth c T locs cells slots) (hx : p.tables.exec = Jvm.exec) (hZ : Z.Warmed39 s.vm) (eT : T.heap = h) {a : Addr} {n : Int32} {f : Int32 → Int32} (A : own_A Z h a .byte n f) {j : Int32} (h0 : ¬ j < 0) (h1 : j < n) {g : JFrame} (hg : g.method = m) {rest : List Value} (hs : g.stack = .int j :: .ref a :: rest) (hd : decode c.code g.pc = .ok (.baload, 1)) :
    ∀ target, Steps p.tables e below (T.setTop { g with pc := g.pc + 1, stack := .int (f j) :: rest }) target → Steps p.tables e below (T.setTop g) target := by
  obtain ⟨cl, Ar, Sz, Hn, Hf⟩ := A
  exact fun t k => X.baloadBytes hx (j := j) (v := .int (f j)) (by rw [eT]; exact Ar.1) (State.isArrayOf_alike hZ.alike Ar.2.1) Ar.2.2 (inb_of Sz ⟨h0, h1⟩) (Hf j h0 h1) hg hs hd t k
theorem own_len (X : Stand p l e R s m args below meth c T locs cells slots) (hx : p.tables.exec = Jvm.exec) (hZ : Z.Warmed39 s.vm) (eT : T.heap = h) {a : Addr} {ty : FieldType} {n : Int32} {f : Int32 → Int32} (A : own_A Z h a ty n f) {g : JFrame} (hg : g.method = m) {rest : List Value} (hs : g.stack = .ref a :: rest) (hd : decode c.code g.pc = .ok (.arraylength, 1)) :
    ∀ target, Steps p.tables e below (T.setTop { g with pc := g.pc + 1, stack := .int n :: rest }) target → Steps p.tables e below (T.setTop g) target := by
  obtain ⟨cl, Ar, Sz, Hn, Hf⟩ := A
  intro t k
  refine X.arraylength hx (by rw [eT]; exact Ar.1) (State.isArrayOf_alike hZ.alike Ar.2.1) hg hs hd t ?_
  rw [len_of Sz Hn]
  exact k
end OwnA

theorem own_m31 (x : Int32) : 0 ≤ (x &&& (2147483647 : Int32)).toInt := by
  have h : (x &&& (2147483647 : Int32)).toBitVec.msb = false := by
    rw [Int32.toBitVec_and, BitVec.msb_and, show (2147483647 : Int32).toBitVec.msb = false from rfl, Bool.and_false]
  rw [← Int32.toInt_toBitVec, BitVec.toInt_eq_msb_cond, h]
  simp
theorem own_rem_i {x y : Int32} (hx : 0 ≤ x.toInt) (hy : 0 < y.toInt) : (own_rem x y).toInt = x.toInt % y.toInt := by
  have lx := Int32.toInt_lt x
  have ly := Int32.toInt_lt y
  have e1 : (x / y).toInt = x.toInt / y.toInt := by
    rw [Int32.toInt_div, Int.tdiv_eq_ediv_of_nonneg hx]
    have a1 : 0 ≤ x.toInt / y.toInt := Int.ediv_nonneg hx (Int.le_of_lt hy)
    have a2 : x.toInt / y.toInt ≤ x.toInt := Int.ediv_le_self _ hx
    rw [Int.bmod_eq_of_le] <;> omega
  have b0 : 0 ≤ x.toInt / y.toInt := Int.ediv_nonneg hx (Int.le_of_lt hy)
  have b1 : x.toInt / y.toInt * y.toInt ≤ x.toInt := Int.ediv_mul_le _ (by omega)
  have b2 : 0 ≤ x.toInt / y.toInt * y.toInt := Int.mul_nonneg b0 (Int.le_of_lt hy)
  have e2 : (x / y * y).toInt = x.toInt / y.toInt * y.toInt := by
    rw [Int32.toInt_mul, e1, Int.bmod_eq_of_le] <;> omega
  have b3 : x.toInt % y.toInt = x.toInt - x.toInt / y.toInt * y.toInt := by
    have := Int.mul_ediv_add_emod x.toInt y.toInt
    rw [Int.mul_comm] at this
    omega
  rw [own_rem, Int32.toInt_sub, e2, Int.bmod_eq_of_le] <;> omega
theorem own_add_i {x y : Int32} (h1 : -2147483648 ≤ x.toInt + y.toInt) (h2 : x.toInt + y.toInt < 2147483648) : (x + y).toInt = x.toInt + y.toInt := by
  rw [Int32.toInt_add, Int.bmod_eq_of_le] <;> omega
theorem own_sub_i {x y : Int32} (h1 : -2147483648 ≤ x.toInt - y.toInt) (h2 : x.toInt - y.toInt < 2147483648) : (x - y).toInt = x.toInt - y.toInt := by
  rw [Int32.toInt_sub, Int.bmod_eq_of_le] <;> omega
theorem own_ne0 {y : Int32} (hy : 0 < y.toInt) : y ≠ 0 := fun h => by rw [h] at hy; exact absurd hy (by decide)
theorem own_mask (x m : Int32) (hm : 0 ≤ m.toInt) : 0 ≤ (x &&& m).toInt ∧ (x &&& m).toInt ≤ m.toInt := by
  have hm' : m.toBitVec.msb = false := by
    rw [← Int32.toInt_toBitVec] at hm
    exact BitVec.msb_eq_false_iff_two_mul_lt.mpr (by have := BitVec.toInt_eq_toNat_cond m.toBitVec; split at this <;> omega)
  have h1 : (x &&& m).toBitVec.msb = false := by rw [Int32.toBitVec_and, BitVec.msb_and, hm', Bool.and_false]
  have e1 : (x &&& m).toInt = ((x &&& m).toBitVec.toNat : Int) := by rw [← Int32.toInt_toBitVec, BitVec.toInt_eq_msb_cond, h1]; simp
  have e2 : m.toInt = (m.toBitVec.toNat : Int) := by rw [← Int32.toInt_toBitVec, BitVec.toInt_eq_msb_cond, hm']; simp
  have h2 : (x &&& m).toBitVec.toNat ≤ m.toBitVec.toNat := by rw [Int32.toBitVec_and, BitVec.toNat_and]; exact Nat.and_le_right
  omega
theorem own_lt {x y : Int32} : x < y ↔ x.toInt < y.toInt := Int32.lt_iff_toInt_lt
theorem own_inc {i n : Int32} (h : i < n) : (i + 1).toInt = i.toInt + 1 := by
  rw [own_lt] at h
  have a := Int32.toInt_lt n
  have b := Int32.le_toInt i
  have e : (1 : Int32).toInt = 1 := rfl
  rw [own_add_i (by omega) (by omega), e]
theorem own_of_i {x y : Int32} (h : x.toInt = y.toInt) : x = y := Int32.toInt_inj.mp h

theorem d1_0 : decode method_2_code 0 = .ok (.lload_n 0, 1) := by decide +kernel
theorem d1_1 : decode method_2_code 1 = .ok (.ldc2_w 7, 3) := by decide +kernel
theorem d1_4 : decode method_2_code 4 = .ok (.land, 1) := by decide +kernel
theorem d1_5 : decode method_2_code 5 = .ok (.l2i, 1) := by decide +kernel
theorem d1_6 : decode method_2_code 6 = .ok (.istore_n 2, 1) := by decide +kernel
theorem d1_7 : decode method_2_code 7 = .ok (.iload_n 2, 1) := by decide +kernel
theorem d1_8 : decode method_2_code 8 = .ok (.iconst 3, 1) := by decide +kernel
theorem d1_9 : decode method_2_code 9 = .ok (.iand, 1) := by decide +kernel
theorem d1_10 : decode method_2_code 10 = .ok (.istore_n 3, 1) := by decide +kernel
theorem d1_11 : decode method_2_code 11 = .ok (.iload_n 3, 1) := by decide +kernel
theorem d1_12 : decode method_2_code 12 = .ok (.ifCond .ne 6, 3) := by decide +kernel
theorem d1_15 : decode method_2_code 15 = .ok (.bipush 13, 2) := by decide +kernel
theorem d1_17 : decode method_2_code 17 = .ok (.ireturn, 1) := by decide +kernel
theorem d1_18 : decode method_2_code 18 = .ok (.iload_n 3, 1) := by decide +kernel
theorem d1_19 : decode method_2_code 19 = .ok (.iconst 1, 1) := by decide +kernel
theorem d1_20 : decode method_2_code 20 = .ok (.if_icmp .ne 6, 3) := by decide +kernel
theorem d1_23 : decode method_2_code 23 = .ok (.bipush 10, 2) := by decide +kernel
theorem d1_25 : decode method_2_code 25 = .ok (.ireturn, 1) := by decide +kernel
theorem d1_26 : decode method_2_code 26 = .ok (.iload_n 2, 1) := by decide +kernel
theorem d1_27 : decode method_2_code 27 = .ok (.iconst 2, 1) := by decide +kernel
theorem d1_28 : decode method_2_code 28 = .ok (.iushr, 1) := by decide +kernel
theorem d1_29 : decode method_2_code 29 = .ok (.sipush 255, 3) := by decide +kernel
theorem d1_32 : decode method_2_code 32 = .ok (.iand, 1) := by decide +kernel
theorem d1_33 : decode method_2_code 33 = .ok (.i2c, 1) := by decide +kernel
theorem d1_34 : decode method_2_code 34 = .ok (.ireturn, 1) := by decide +kernel
def own_n1_6 (q : Int64) : Int32 := (q &&& (1023 : Int64)).toInt32
def own_n1_10 (q : Int64) : Int32 := ((own_n1_6 q) &&& (3 : Int32))
def own_v1_0 (q : Int64) : Int32 := (if (own_n1_10 q) = (0 : Int32) then (nar .char (13 : Int32)) else (if (own_n1_10 q) = (1 : Int32) then (nar .char (10 : Int32)) else (nar .char (own_c ((own_us (own_n1_6 q) (2 : Int32)) &&& (255 : Int32))))))
theorem pn_1 : plainName "com/example/covenantry/covenantry/TextFilesNextLinePinLaw" = true := by first | (simp [plainName, overriddenIn]; done) | decide +kernel
theorem ef_1 (m : MethodId) (q : Int64) : entryFrame m #[(.long q)] 4 = mkF m 0 #[.val (.long q), .second, .unset, .unset] [] := by first | (simp [entryFrame, mkF, argsToLocals, Value.category]; done) | rfl
set_option maxRecDepth 65536 in
set_option maxHeartbeats 40000000 in
theorem rm1 (l : Launch) (Z : State) (a0 : Array Value) (hw : ∀ d ∈ tables_1, d.before a0 Z = true) (ws : List Jvm.Cond) (q : Int64) (h0 : Heap)  :
    MetFree l (⟨"com/example/covenantry/covenantry/TextFilesNextLinePinLaw", "ch", "(J)C"⟩ : MethodName) (head1 (Jvm.Cond.code (⟨"com/example/covenantry/covenantry/TextFilesNextLinePinLaw", "ch", "(J)C"⟩ : MethodName) method_2_code 4 (some .char) :: ws) ({ frames := 0, cells := 0, slots := 0, locals := 0 } : Room)) (fun aa U => aa = #[(.long q)] ∧ Z.Warmed39 U.vm ∧ U.heap = h0) (fun _ _ _ _ _ => True) (fun _ U o U' => ∃ v L, o = .returned v ∧ own_Q (some (.int (own_v1_0 q))) h0 v U'.heap L ∧ FrameEnd U o U' L ({ frames := 0, cells := 0, slots := 0, locals := 0 } : Room).cells ({ frames := 0, cells := 0, slots := 0, locals := 0 } : Room).slots) := by
  refine MetFree.of_bodySF (plainFor_of_name pn_1) hisR ?_
  intro p e s m args below meth c s₁ Bd hml0 hP hK
  obtain ⟨rfl, hZ, hh⟩ := hP
  have hx := Bd.exec
  have hby := Bd.bytes
  have hml : c.maxLocals = 4 := hml0
  have hlk : meth.locks = false := Bd.notSynchronized
  have hown : s.vm.findClass "com/example/covenantry/covenantry/TextFilesNextLinePinLaw" = some m.cls := findClass_of_methodNamed Bd.named
  have X0 : Stand p l e ({ frames := 0, cells := 0, slots := 0, locals := 0 } : Room) s m #[(.long q)] below meth c s₁ [] 0 0 := Stand.of_body Bd
  have e0 : s₁.heap = h0 := by rw [← hh, Bd.state]; rfl
  refine own_G0 (own_go (fun _ k => castTop (ef_1 m q) k) ?_)
  show own_G p e below s (own_Q (some (.int (if (own_n1_10 q) = (0 : Int32) then (nar .char (13 : Int32)) else (if (own_n1_10 q) = (1 : Int32) then (nar .char (10 : Int32)) else (nar .char (own_c ((own_us (own_n1_6 q) (2 : Int32)) &&& (255 : Int32)))))))) h0) ({ frames := 0, cells := 0, slots := 0, locals := 0 } : Room).cells ({ frames := 0, cells := 0, slots := 0, locals := 0 } : Room).slots (s₁.setTop (mkF m 0 #[.val (.long q), .second, .unset, .unset] []))
  refine own_go (fun _ => XS.lloadN X0.here hx rfl (hb hby d1_0) rfl) ?_
  show own_G p e below s _ _ _ (s₁.setTop (mkF m 1 #[.val (.long q), .second, .unset, .unset] [(.long q)]))
  refine own_go (fun _ => X0.ldc2Long hx hown (mvT hZ (hw _ (List.mem_of_getElem? (i := 5) rfl))) (g := (mkF m 1 #[.val (.long q), .second, .unset, .unset] [(.long q)])) rfl (hb hby d1_1) _) ?_
  show own_G p e below s _ _ _ (s₁.setTop (mkF m 4 #[.val (.long q), .second, .unset, .unset] [(.long (1023 : Int64)), (.long q)]))
  refine own_go (fun _ => XS.land X0.here hx rfl (hb hby d1_4) rfl) ?_
  show own_G p e below s _ _ _ (s₁.setTop (mkF m 5 #[.val (.long q), .second, .unset, .unset] [(.long (q &&& (1023 : Int64)))]))
  refine own_go (fun _ => XS.l2i X0.here hx rfl (hb hby d1_5) rfl) ?_
  show own_G p e below s _ _ _ (s₁.setTop (mkF m 6 #[.val (.long q), .second, .unset, .unset] [(.int (q &&& (1023 : Int64)).toInt32)]))
  refine own_go (fun _ => XS.istoreN X0.here hx rfl (hb hby d1_6) rfl (l' := #[.val (.long q), .second, .val (.int (own_n1_6 q)), .unset]) rfl) ?_
  show own_G p e below s _ _ _ (s₁.setTop (mkF m 7 #[.val (.long q), .second, .val (.int (own_n1_6 q)), .unset] []))
  refine own_go (fun _ => XS.iloadN X0.here hx rfl (hb hby d1_7) rfl) ?_
  show own_G p e below s _ _ _ (s₁.setTop (mkF m 8 #[.val (.long q), .second, .val (.int (own_n1_6 q)), .unset] [(.int (own_n1_6 q))]))
  refine own_go (fun _ => XS.iconst X0.here hx rfl (hb hby d1_8)) ?_
  show own_G p e below s _ _ _ (s₁.setTop (mkF m 9 #[.val (.long q), .second, .val (.int (own_n1_6 q)), .unset] [(.int (3 : Int32)), (.int (own_n1_6 q))]))
  refine own_go (fun _ => XS.iand X0.here hx rfl (hb hby d1_9) rfl) ?_
  show own_G p e below s _ _ _ (s₁.setTop (mkF m 10 #[.val (.long q), .second, .val (.int (own_n1_6 q)), .unset] [(.int ((own_n1_6 q) &&& (3 : Int32)))]))
  refine own_go (fun _ => XS.istoreN X0.here hx rfl (hb hby d1_10) rfl (l' := #[.val (.long q), .second, .val (.int (own_n1_6 q)), .val (.int (own_n1_10 q))]) rfl) ?_
  show own_G p e below s _ _ _ (s₁.setTop (mkF m 11 #[.val (.long q), .second, .val (.int (own_n1_6 q)), .val (.int (own_n1_10 q))] []))
  refine own_go (fun _ => XS.iloadN X0.here hx rfl (hb hby d1_11) rfl) ?_
  show own_G p e below s _ _ _ (s₁.setTop (mkF m 12 #[.val (.long q), .second, .val (.int (own_n1_6 q)), .val (.int (own_n1_10 q))] [(.int (own_n1_10 q))]))
  by_cases hc12 : (own_n1_10 q) = (0 : Int32)
  · refine own_eq (if_pos hc12) ?_
    refine own_go (fun _ => XS.ifNo X0.here hx rfl (hb hby d1_12) rfl ((if0 _ _).trans (teq hc12).2)) ?_
    show own_G p e below s _ _ _ (s₁.setTop (mkF m 15 #[.val (.long q), .second, .val (.int (own_n1_6 q)), .val (.int (own_n1_10 q))] []))
    refine own_go (fun _ => XS.bipush X0.here hx rfl (hb hby d1_15)) ?_
    show own_G p e below s _ _ _ (s₁.setTop (mkF m 17 #[.val (.long q), .second, .val (.int (own_n1_6 q)), .val (.int (own_n1_10 q))] [(.int (13 : Int32))]))
    exact own_retN X0 hx hlk (t := .char) Bd.returns (by simp) (hb hby d1_17) (by decide) (by decide) ⟨rfl, rfl, e0⟩
  · refine own_eq (if_neg hc12) ?_
    refine own_go (fun _ => XS.ifYes X0.here hx rfl (pc0 := 12) (pc' := 18) rfl (hb hby d1_12) rfl ((if0 _ _).trans (feq hc12).2) (by decide) (by decide)) ?_
    show own_G p e below s _ _ _ (s₁.setTop (mkF m 18 #[.val (.long q), .second, .val (.int (own_n1_6 q)), .val (.int (own_n1_10 q))] []))
    refine own_go (fun _ => XS.iloadN X0.here hx rfl (hb hby d1_18) rfl) ?_
    show own_G p e below s _ _ _ (s₁.setTop (mkF m 19 #[.val (.long q), .second, .val (.int (own_n1_6 q)), .val (.int (own_n1_10 q))] [(.int (own_n1_10 q))]))
    refine own_go (fun _ => XS.iconst X0.here hx rfl (hb hby d1_19)) ?_
    show own_G p e below s _ _ _ (s₁.setTop (mkF m 20 #[.val (.long q), .second, .val (.int (own_n1_6 q)), .val (.int (own_n1_10 q))] [(.int (1 : Int32)), (.int (own_n1_10 q))]))
    by_cases hc20 : (own_n1_10 q) = (1 : Int32)
    · refine own_eq (if_pos hc20) ?_
      refine own_go (fun _ => XS.icmpNo X0.here hx rfl (hb hby d1_20) rfl (teq hc20).2) ?_
      show own_G p e below s _ _ _ (s₁.setTop (mkF m 23 #[.val (.long q), .second, .val (.int (own_n1_6 q)), .val (.int (own_n1_10 q))] []))
      refine own_go (fun _ => XS.bipush X0.here hx rfl (hb hby d1_23)) ?_
      show own_G p e below s _ _ _ (s₁.setTop (mkF m 25 #[.val (.long q), .second, .val (.int (own_n1_6 q)), .val (.int (own_n1_10 q))] [(.int (10 : Int32))]))
      exact own_retN X0 hx hlk (t := .char) Bd.returns (by simp) (hb hby d1_25) (by decide) (by decide) ⟨rfl, rfl, e0⟩
    · refine own_eq (if_neg hc20) ?_
      refine own_go (fun _ => XS.icmpYes X0.here hx rfl (pc0 := 20) (pc' := 26) rfl (hb hby d1_20) rfl (feq hc20).2 (by decide) (by decide)) ?_
      show own_G p e below s _ _ _ (s₁.setTop (mkF m 26 #[.val (.long q), .second, .val (.int (own_n1_6 q)), .val (.int (own_n1_10 q))] []))
      refine own_go (fun _ => XS.iloadN X0.here hx rfl (hb hby d1_26) rfl) ?_
      show own_G p e below s _ _ _ (s₁.setTop (mkF m 27 #[.val (.long q), .second, .val (.int (own_n1_6 q)), .val (.int (own_n1_10 q))] [(.int (own_n1_6 q))]))
      refine own_go (fun _ => XS.iconst X0.here hx rfl (hb hby d1_27)) ?_
      show own_G p e below s _ _ _ (s₁.setTop (mkF m 28 #[.val (.long q), .second, .val (.int (own_n1_6 q)), .val (.int (own_n1_10 q))] [(.int (2 : Int32)), (.int (own_n1_6 q))]))
      refine own_go (fun _ => XS.iushr X0.here hx rfl (hb hby d1_28) rfl) ?_
      show own_G p e below s _ _ _ (s₁.setTop (mkF m 29 #[.val (.long q), .second, .val (.int (own_n1_6 q)), .val (.int (own_n1_10 q))] [(.int (own_us (own_n1_6 q) (2 : Int32)))]))
      refine own_go (fun _ => XS.sipush X0.here hx rfl (hb hby d1_29)) ?_
      show own_G p e below s _ _ _ (s₁.setTop (mkF m 32 #[.val (.long q), .second, .val (.int (own_n1_6 q)), .val (.int (own_n1_10 q))] [(.int (255 : Int32)), (.int (own_us (own_n1_6 q) (2 : Int32)))]))
      refine own_go (fun _ => XS.iand X0.here hx rfl (hb hby d1_32) rfl) ?_
      show own_G p e below s _ _ _ (s₁.setTop (mkF m 33 #[.val (.long q), .second, .val (.int (own_n1_6 q)), .val (.int (own_n1_10 q))] [(.int ((own_us (own_n1_6 q) (2 : Int32)) &&& (255 : Int32)))]))
      refine own_go (fun _ => XS.i2c X0.here hx rfl (hb hby d1_33) rfl) ?_
      show own_G p e below s _ _ _ (s₁.setTop (mkF m 34 #[.val (.long q), .second, .val (.int (own_n1_6 q)), .val (.int (own_n1_10 q))] [(.int (own_c ((own_us (own_n1_6 q) (2 : Int32)) &&& (255 : Int32))))]))
      exact own_retN X0 hx hlk (t := .char) Bd.returns (by simp) (hb hby d1_34) (by decide) (by decide) ⟨rfl, rfl, e0⟩
theorem own_nx {t n : Int32} (h0 : ¬ t < 0) (h4 : ¬ (4 : Int32) < t) : (t + 1).toInt = t.toInt + 1 := by
  rw [own_lt] at h0 h4
  have e0 : (0 : Int32).toInt = 0 := rfl
  have e1 : (1 : Int32).toInt = 1 := rfl
  have e4 : (4 : Int32).toInt = 4 := rfl
  rw [own_add_i (by omega) (by omega), e1]
theorem own_r0 {t n : Int32} (h0 : ¬ t < 0) (h4 : ¬ (4 : Int32) < t) (hn : ¬ (4 : Int32) < n) (h : t + 1 < n) : t < 4 := by
  have e := own_nx (n := n) h0 h4
  rw [own_lt] at *
  omega
theorem own_r1 {t n : Int32} (h0 : ¬ t < 0) (h4 : ¬ (4 : Int32) < t) : ¬ t + 1 < 0 := by
  have e := own_nx (n := n) h0 h4
  have e0 : (0 : Int32).toInt = 0 := rfl
  rw [own_lt] at *
  omega
theorem own_r2 {t n : Int32} (hn : ¬ (4 : Int32) < n) (h : t + 1 < n) : t + 1 < 4 := by
  rw [own_lt] at *
  omega
theorem d2_0 : decode prog_89_method_5_code 0 = .ok (.iload_n 1, 1) := by decide +kernel
theorem d2_1 : decode prog_89_method_5_code 1 = .ok (.iconst 1, 1) := by decide +kernel
theorem d2_2 : decode prog_89_method_5_code 2 = .ok (.iadd, 1) := by decide +kernel
theorem d2_3 : decode prog_89_method_5_code 3 = .ok (.iload_n 2, 1) := by decide +kernel
theorem d2_4 : decode prog_89_method_5_code 4 = .ok (.if_icmp .ge 25, 3) := by decide +kernel
theorem d2_7 : decode prog_89_method_5_code 7 = .ok (.aload_n 0, 1) := by decide +kernel
theorem d2_8 : decode prog_89_method_5_code 8 = .ok (.iload_n 1, 1) := by decide +kernel
theorem d2_9 : decode prog_89_method_5_code 9 = .ok (.caload, 1) := by decide +kernel
theorem d2_10 : decode prog_89_method_5_code 10 = .ok (.bipush 13, 2) := by decide +kernel
theorem d2_12 : decode prog_89_method_5_code 12 = .ok (.if_icmp .ne 17, 3) := by decide +kernel
theorem d2_15 : decode prog_89_method_5_code 15 = .ok (.aload_n 0, 1) := by decide +kernel
theorem d2_16 : decode prog_89_method_5_code 16 = .ok (.iload_n 1, 1) := by decide +kernel
theorem d2_17 : decode prog_89_method_5_code 17 = .ok (.iconst 1, 1) := by decide +kernel
theorem d2_18 : decode prog_89_method_5_code 18 = .ok (.iadd, 1) := by decide +kernel
theorem d2_19 : decode prog_89_method_5_code 19 = .ok (.caload, 1) := by decide +kernel
theorem d2_20 : decode prog_89_method_5_code 20 = .ok (.bipush 10, 2) := by decide +kernel
theorem d2_22 : decode prog_89_method_5_code 22 = .ok (.if_icmp .ne 7, 3) := by decide +kernel
theorem d2_25 : decode prog_89_method_5_code 25 = .ok (.iconst 1, 1) := by decide +kernel
theorem d2_26 : decode prog_89_method_5_code 26 = .ok (.goto 4, 3) := by decide +kernel
theorem d2_29 : decode prog_89_method_5_code 29 = .ok (.iconst 0, 1) := by decide +kernel
theorem d2_30 : decode prog_89_method_5_code 30 = .ok (.istore_n 3, 1) := by decide +kernel
theorem d2_31 : decode prog_89_method_5_code 31 = .ok (.iload_n 3, 1) := by decide +kernel
theorem d2_32 : decode prog_89_method_5_code 32 = .ok (.ifCond .eq 9, 3) := by decide +kernel
theorem d2_35 : decode prog_89_method_5_code 35 = .ok (.iload_n 1, 1) := by decide +kernel
theorem d2_36 : decode prog_89_method_5_code 36 = .ok (.iconst 2, 1) := by decide +kernel
theorem d2_37 : decode prog_89_method_5_code 37 = .ok (.iadd, 1) := by decide +kernel
theorem d2_38 : decode prog_89_method_5_code 38 = .ok (.goto 6, 3) := by decide +kernel
theorem d2_41 : decode prog_89_method_5_code 41 = .ok (.iload_n 1, 1) := by decide +kernel
theorem d2_42 : decode prog_89_method_5_code 42 = .ok (.iconst 1, 1) := by decide +kernel
theorem d2_43 : decode prog_89_method_5_code 43 = .ok (.iadd, 1) := by decide +kernel
theorem d2_44 : decode prog_89_method_5_code 44 = .ok (.ireturn, 1) := by decide +kernel
def own_v2_44 (f : Int32 → Int32) (st : Int32) (n : Int32) (j30_S0 : Int32) (j44_S0 : Int32) : Int32 := j44_S0
def own_v2_30 (f : Int32 → Int32) (st : Int32) (n : Int32) (j30_S0 : Int32) : Int32 := (if j30_S0 = (0 : Int32) then (own_v2_44 f st n j30_S0 (st + (1 : Int32))) else (own_v2_44 f st n j30_S0 (st + (2 : Int32))))
def own_v2_29 (f : Int32 → Int32) (st : Int32) (n : Int32) : Int32 := (own_v2_30 f st n (0 : Int32))
def own_v2_0 (f : Int32 → Int32) (st : Int32) (n : Int32) : Int32 := (if (st + (1 : Int32)) < n then (if (f st) = (13 : Int32) then (if (f (st + (1 : Int32))) = (10 : Int32) then (own_v2_30 f st n (1 : Int32)) else (own_v2_29 f st n)) else (own_v2_29 f st n)) else (own_v2_29 f st n))
theorem pn_2 : plainName "com/example/covenantry/covenantry/TextFiles" = true := by first | (simp [plainName, overriddenIn]; done) | decide +kernel
theorem ef_2 (m : MethodId) (a : Addr) (st : Int32) (n : Int32) : entryFrame m #[(.ref a), (.int st), (.int n)] 4 = mkF m 0 #[.val (.ref a), .val (.int st), .val (.int n), .unset] [] := by first | (simp [entryFrame, mkF, argsToLocals, Value.category]; done) | rfl
set_option maxRecDepth 65536 in
set_option maxHeartbeats 40000000 in
theorem rm2 (l : Launch) (Z : State) (a0 : Array Value) (hw : ∀ d ∈ tables_1, d.before a0 Z = true) (ws : List Jvm.Cond) (a : Addr) (st : Int32) (n : Int32) (h0 : Heap) (f : Int32 → Int32) (A : own_A Z h0 a .char (4 : Int32) f) (h0s : ¬ st < 0) (h4 : ¬ (4 : Int32) < st) (hn : ¬ (4 : Int32) < n) :
    MetFree l (⟨"com/example/covenantry/covenantry/TextFiles", "nextLine", "([CII)I"⟩ : MethodName) (head1 (Jvm.Cond.code (⟨"com/example/covenantry/covenantry/TextFiles", "nextLine", "([CII)I"⟩ : MethodName) prog_89_method_5_code 4 (some .int) :: ws) ({ frames := 0, cells := 0, slots := 0, locals := 0 } : Room)) (fun aa U => aa = #[(.ref a), (.int st), (.int n)] ∧ Z.Warmed39 U.vm ∧ U.heap = h0) (fun _ _ _ _ _ => True) (fun _ U o U' => ∃ v L, o = .returned v ∧ own_Q (some (.int (own_v2_0 f st n))) h0 v U'.heap L ∧ FrameEnd U o U' L ({ frames := 0, cells := 0, slots := 0, locals := 0 } : Room).cells ({ frames := 0, cells := 0, slots := 0, locals := 0 } : Room).slots) := by
  refine MetFree.of_bodySF (plainFor_of_name pn_2) hisR ?_
  intro p e s m args below meth c s₁ Bd hml0 hP hK
  obtain ⟨rfl, hZ, hh⟩ := hP
  have hx := Bd.exec
  have hby := Bd.bytes
  have hml : c.maxLocals = 4 := hml0
  have hlk : meth.locks = false := Bd.notSynchronized
  have hown : s.vm.findClass "com/example/covenantry/covenantry/TextFiles" = some m.cls := findClass_of_methodNamed Bd.named
  have X0 : Stand p l e ({ frames := 0, cells := 0, slots := 0, locals := 0 } : Room) s m #[(.ref a), (.int st), (.int n)] below meth c s₁ [] 0 0 := Stand.of_body Bd
  have e0 : s₁.heap = h0 := by rw [← hh, Bd.state]; rfl
  have b44 : ∀ (T : State), Stand p l e ({ frames := 0, cells := 0, slots := 0, locals := 0 } : Room) s m #[(.ref a), (.int st), (.int n)] below meth c T [] 0 0 → T.heap = h0 → ∀ (j30_S0 : Int32) (j44_S0 : Int32), own_G p e below s (own_Q (some (.int (own_v2_44 f st n j30_S0 j44_S0))) h0) ({ frames := 0, cells := 0, slots := 0, locals := 0 } : Room).cells ({ frames := 0, cells := 0, slots := 0, locals := 0 } : Room).slots (T.setTop (mkF m 44 #[.val (.ref a), .val (.int st), .val (.int n), .val (.int j30_S0)] [(.int j44_S0)])) := by
    intro T X eT j30_S0 j44_S0
    show own_G p e below s (own_Q (some (.int j44_S0)) h0) ({ frames := 0, cells := 0, slots := 0, locals := 0 } : Room).cells ({ frames := 0, cells := 0, slots := 0, locals := 0 } : Room).slots (T.setTop (mkF m 44 #[.val (.ref a), .val (.int st), .val (.int n), .val (.int j30_S0)] [(.int j44_S0)]))
    exact own_retI X hx hlk Bd.returns (hb hby d2_44) (by decide) (by decide) ⟨rfl, rfl, eT⟩
  have b30 : ∀ (T : State), Stand p l e ({ frames := 0, cells := 0, slots := 0, locals := 0 } : Room) s m #[(.ref a), (.int st), (.int n)] below meth c T [] 0 0 → T.heap = h0 → ∀ (j30_S0 : Int32), own_G p e below s (own_Q (some (.int (own_v2_30 f st n j30_S0))) h0) ({ frames := 0, cells := 0, slots := 0, locals := 0 } : Room).cells ({ frames := 0, cells := 0, slots := 0, locals := 0 } : Room).slots (T.setTop (mkF m 30 #[.val (.ref a), .val (.int st), .val (.int n), .unset] [(.int j30_S0)])) := by
    intro T X eT j30_S0
    show own_G p e below s (own_Q (some (.int (if j30_S0 = (0 : Int32) then (own_v2_44 f st n j30_S0 (st + (1 : Int32))) else (own_v2_44 f st n j30_S0 (st + (2 : Int32)))))) h0) ({ frames := 0, cells := 0, slots := 0, locals := 0 } : Room).cells ({ frames := 0, cells := 0, slots := 0, locals := 0 } : Room).slots (T.setTop (mkF m 30 #[.val (.ref a), .val (.int st), .val (.int n), .unset] [(.int j30_S0)]))
    refine own_go (fun _ => XS.istoreN X.here hx rfl (hb hby d2_30) rfl (l' := #[.val (.ref a), .val (.int st), .val (.int n), .val (.int j30_S0)]) rfl) ?_
    show own_G p e below s _ _ _ (T.setTop (mkF m 31 #[.val (.ref a), .val (.int st), .val (.int n), .val (.int j30_S0)] []))
    refine own_go (fun _ => XS.iloadN X.here hx rfl (hb hby d2_31) rfl) ?_
    show own_G p e below s _ _ _ (T.setTop (mkF m 32 #[.val (.ref a), .val (.int st), .val (.int n), .val (.int j30_S0)] [(.int j30_S0)]))
    by_cases hc32 : j30_S0 = (0 : Int32)
    · refine own_eq (if_pos hc32) ?_
      refine own_go (fun _ => XS.ifYes X.here hx rfl (pc0 := 32) (pc' := 41) rfl (hb hby d2_32) rfl ((if0 _ _).trans (teq hc32).1) (by decide) (by decide)) ?_
      show own_G p e below s _ _ _ (T.setTop (mkF m 41 #[.val (.ref a), .val (.int st), .val (.int n), .val (.int j30_S0)] []))
      refine own_go (fun _ => XS.iloadN X.here hx rfl (hb hby d2_41) rfl) ?_
      show own_G p e below s _ _ _ (T.setTop (mkF m 42 #[.val (.ref a), .val (.int st), .val (.int n), .val (.int j30_S0)] [(.int st)]))
      refine own_go (fun _ => XS.iconst X.here hx rfl (hb hby d2_42)) ?_
      show own_G p e below s _ _ _ (T.setTop (mkF m 43 #[.val (.ref a), .val (.int st), .val (.int n), .val (.int j30_S0)] [(.int (1 : Int32)), (.int st)]))
      refine own_go (fun _ => XS.iadd X.here hx rfl (hb hby d2_43) rfl) ?_
      exact b44 T X eT j30_S0 (st + (1 : Int32))
    · refine own_eq (if_neg hc32) ?_
      refine own_go (fun _ => XS.ifNo X.here hx rfl (hb hby d2_32) rfl ((if0 _ _).trans (feq hc32).1)) ?_
      show own_G p e below s _ _ _ (T.setTop (mkF m 35 #[.val (.ref a), .val (.int st), .val (.int n), .val (.int j30_S0)] []))
      refine own_go (fun _ => XS.iloadN X.here hx rfl (hb hby d2_35) rfl) ?_
      show own_G p e below s _ _ _ (T.setTop (mkF m 36 #[.val (.ref a), .val (.int st), .val (.int n), .val (.int j30_S0)] [(.int st)]))
      refine own_go (fun _ => XS.iconst X.here hx rfl (hb hby d2_36)) ?_
      show own_G p e below s _ _ _ (T.setTop (mkF m 37 #[.val (.ref a), .val (.int st), .val (.int n), .val (.int j30_S0)] [(.int (2 : Int32)), (.int st)]))
      refine own_go (fun _ => XS.iadd X.here hx rfl (hb hby d2_37) rfl) ?_
      show own_G p e below s _ _ _ (T.setTop (mkF m 38 #[.val (.ref a), .val (.int st), .val (.int n), .val (.int j30_S0)] [(.int (st + (2 : Int32)))]))
      refine own_go (fun _ => XS.goto X.here hx rfl (pc0 := 38) (pc' := 44) rfl (hb hby d2_38) (by decide) (by decide)) ?_
      exact b44 T X eT j30_S0 (st + (2 : Int32))
  have b29 : ∀ (T : State), Stand p l e ({ frames := 0, cells := 0, slots := 0, locals := 0 } : Room) s m #[(.ref a), (.int st), (.int n)] below meth c T [] 0 0 → T.heap = h0 → own_G p e below s (own_Q (some (.int (own_v2_29 f st n))) h0) ({ frames := 0, cells := 0, slots := 0, locals := 0 } : Room).cells ({ frames := 0, cells := 0, slots := 0, locals := 0 } : Room).slots (T.setTop (mkF m 29 #[.val (.ref a), .val (.int st), .val (.int n), .unset] [])) := by
    intro T X eT
    show own_G p e below s (own_Q (some (.int (own_v2_30 f st n (0 : Int32)))) h0) ({ frames := 0, cells := 0, slots := 0, locals := 0 } : Room).cells ({ frames := 0, cells := 0, slots := 0, locals := 0 } : Room).slots (T.setTop (mkF m 29 #[.val (.ref a), .val (.int st), .val (.int n), .unset] []))
    refine own_go (fun _ => XS.iconst X.here hx rfl (hb hby d2_29)) ?_
    exact b30 T X eT (0 : Int32)
  refine own_G0 (own_go (fun _ k => castTop (ef_2 m a st n) k) ?_)
  show own_G p e below s (own_Q (some (.int (if (st + (1 : Int32)) < n then (if (f st) = (13 : Int32) then (if (f (st + (1 : Int32))) = (10 : Int32) then (own_v2_30 f st n (1 : Int32)) else (own_v2_29 f st n)) else (own_v2_29 f st n)) else (own_v2_29 f st n)))) h0) ({ frames := 0, cells := 0, slots := 0, locals := 0 } : Room).cells ({ frames := 0, cells := 0, slots := 0, locals := 0 } : Room).slots (s₁.setTop (mkF m 0 #[.val (.ref a), .val (.int st), .val (.int n), .unset] []))
  refine own_go (fun _ => XS.iloadN X0.here hx rfl (hb hby d2_0) rfl) ?_
  show own_G p e below s _ _ _ (s₁.setTop (mkF m 1 #[.val (.ref a), .val (.int st), .val (.int n), .unset] [(.int st)]))
  refine own_go (fun _ => XS.iconst X0.here hx rfl (hb hby d2_1)) ?_
  show own_G p e below s _ _ _ (s₁.setTop (mkF m 2 #[.val (.ref a), .val (.int st), .val (.int n), .unset] [(.int (1 : Int32)), (.int st)]))
  refine own_go (fun _ => XS.iadd X0.here hx rfl (hb hby d2_2) rfl) ?_
  show own_G p e below s _ _ _ (s₁.setTop (mkF m 3 #[.val (.ref a), .val (.int st), .val (.int n), .unset] [(.int (st + (1 : Int32)))]))
  refine own_go (fun _ => XS.iloadN X0.here hx rfl (hb hby d2_3) rfl) ?_
  show own_G p e below s _ _ _ (s₁.setTop (mkF m 4 #[.val (.ref a), .val (.int st), .val (.int n), .unset] [(.int n), (.int (st + (1 : Int32)))]))
  by_cases hc4 : (st + (1 : Int32)) < n
  · refine own_eq (if_pos hc4) ?_
    refine own_go (fun _ => XS.icmpNo X0.here hx rfl (hb hby d2_4) rfl (tlt hc4).2.1) ?_
    show own_G p e below s _ _ _ (s₁.setTop (mkF m 7 #[.val (.ref a), .val (.int st), .val (.int n), .unset] []))
    refine own_go (fun _ => XS.aloadN X0.here hx rfl (hb hby d2_7) rfl rfl) ?_
    show own_G p e below s _ _ _ (s₁.setTop (mkF m 8 #[.val (.ref a), .val (.int st), .val (.int n), .unset] [(.ref a)]))
    refine own_go (fun _ => XS.iloadN X0.here hx rfl (hb hby d2_8) rfl) ?_
    show own_G p e below s _ _ _ (s₁.setTop (mkF m 9 #[.val (.ref a), .val (.int st), .val (.int n), .unset] [(.int st), (.ref a)]))
    refine own_go (fun _ => own_ldC X0 hx hZ e0 A h0s (own_r0 h0s h4 hn hc4) (g := (mkF m 9 #[.val (.ref a), .val (.int st), .val (.int n), .unset] [(.int st), (.ref a)])) rfl rfl (hb hby d2_9) _) ?_
    show own_G p e below s _ _ _ (s₁.setTop (mkF m 10 #[.val (.ref a), .val (.int st), .val (.int n), .unset] [(.int (f st))]))
    refine own_go (fun _ => XS.bipush X0.here hx rfl (hb hby d2_10)) ?_
    show own_G p e below s _ _ _ (s₁.setTop (mkF m 12 #[.val (.ref a), .val (.int st), .val (.int n), .unset] [(.int (13 : Int32)), (.int (f st))]))
    by_cases hc12 : (f st) = (13 : Int32)
    · refine own_eq (if_pos hc12) ?_
      refine own_go (fun _ => XS.icmpNo X0.here hx rfl (hb hby d2_12) rfl (teq hc12).2) ?_
      show own_G p e below s _ _ _ (s₁.setTop (mkF m 15 #[.val (.ref a), .val (.int st), .val (.int n), .unset] []))
      refine own_go (fun _ => XS.aloadN X0.here hx rfl (hb hby d2_15) rfl rfl) ?_
      show own_G p e below s _ _ _ (s₁.setTop (mkF m 16 #[.val (.ref a), .val (.int st), .val (.int n), .unset] [(.ref a)]))
      refine own_go (fun _ => XS.iloadN X0.here hx rfl (hb hby d2_16) rfl) ?_
      show own_G p e below s _ _ _ (s₁.setTop (mkF m 17 #[.val (.ref a), .val (.int st), .val (.int n), .unset] [(.int st), (.ref a)]))
      refine own_go (fun _ => XS.iconst X0.here hx rfl (hb hby d2_17)) ?_
      show own_G p e below s _ _ _ (s₁.setTop (mkF m 18 #[.val (.ref a), .val (.int st), .val (.int n), .unset] [(.int (1 : Int32)), (.int st), (.ref a)]))
      refine own_go (fun _ => XS.iadd X0.here hx rfl (hb hby d2_18) rfl) ?_
      show own_G p e below s _ _ _ (s₁.setTop (mkF m 19 #[.val (.ref a), .val (.int st), .val (.int n), .unset] [(.int (st + (1 : Int32))), (.ref a)]))
      refine own_go (fun _ => own_ldC X0 hx hZ e0 A (own_r1 (n := n) h0s h4) (own_r2 hn hc4) (g := (mkF m 19 #[.val (.ref a), .val (.int st), .val (.int n), .unset] [(.int (st + (1 : Int32))), (.ref a)])) rfl rfl (hb hby d2_19) _) ?_
      show own_G p e below s _ _ _ (s₁.setTop (mkF m 20 #[.val (.ref a), .val (.int st), .val (.int n), .unset] [(.int (f (st + (1 : Int32))))]))
      refine own_go (fun _ => XS.bipush X0.here hx rfl (hb hby d2_20)) ?_
      show own_G p e below s _ _ _ (s₁.setTop (mkF m 22 #[.val (.ref a), .val (.int st), .val (.int n), .unset] [(.int (10 : Int32)), (.int (f (st + (1 : Int32))))]))
      by_cases hc22 : (f (st + (1 : Int32))) = (10 : Int32)
      · refine own_eq (if_pos hc22) ?_
        refine own_go (fun _ => XS.icmpNo X0.here hx rfl (hb hby d2_22) rfl (teq hc22).2) ?_
        show own_G p e below s _ _ _ (s₁.setTop (mkF m 25 #[.val (.ref a), .val (.int st), .val (.int n), .unset] []))
        refine own_go (fun _ => XS.iconst X0.here hx rfl (hb hby d2_25)) ?_
        show own_G p e below s _ _ _ (s₁.setTop (mkF m 26 #[.val (.ref a), .val (.int st), .val (.int n), .unset] [(.int (1 : Int32))]))
        refine own_go (fun _ => XS.goto X0.here hx rfl (pc0 := 26) (pc' := 30) rfl (hb hby d2_26) (by decide) (by decide)) ?_
        exact b30 s₁ X0 e0 (1 : Int32)
      · refine own_eq (if_neg hc22) ?_
        refine own_go (fun _ => XS.icmpYes X0.here hx rfl (pc0 := 22) (pc' := 29) rfl (hb hby d2_22) rfl (feq hc22).2 (by decide) (by decide)) ?_
        exact b29 s₁ X0 e0
    · refine own_eq (if_neg hc12) ?_
      refine own_go (fun _ => XS.icmpYes X0.here hx rfl (pc0 := 12) (pc' := 29) rfl (hb hby d2_12) rfl (feq hc12).2 (by decide) (by decide)) ?_
      exact b29 s₁ X0 e0
  · refine own_eq (if_neg hc4) ?_
    refine own_go (fun _ => XS.icmpYes X0.here hx rfl (pc0 := 4) (pc' := 29) rfl (hb hby d2_4) rfl (flt hc4).2.1 (by decide) (by decide)) ?_
    exact b29 s₁ X0 e0
def own_n0_f (q0 : Int64) : Int32 → Int32 := (own_set (own_set (own_set (own_set (fun _ => 0) (0 : Int32) (nar .char (own_v1_0 q0))) (1 : Int32) (nar .char (own_v1_0 (own_usL q0 (10 : Int32))))) (2 : Int32) (nar .char (own_v1_0 (own_usL q0 (20 : Int32))))) (3 : Int32) (nar .char (own_v1_0 (own_usL q0 (30 : Int32)))))
def own_n0_52 (q1 : Int32) : Int32 := (own_rem (q1 &&& (2147483647 : Int32)) (5 : Int32))
def own_n0_63 (q1 : Int32) (q2 : Int32) : Int32 := (own_rem (q2 &&& (2147483647 : Int32)) ((own_n0_52 q1) + (1 : Int32)))
def own_v0_193 (f_a1 : Int32 → Int32) (q0 : Int64) (q1 : Int32) (q2 : Int32) (q3 : Int32) (j159_L9 : Int32) (j193_S0 : Int32) : Int32 := (nar .boolean j193_S0)
def own_v0_178 (f_a1 : Int32 → Int32) (q0 : Int64) (q1 : Int32) (q2 : Int32) (q3 : Int32) (j159_L9 : Int32) (j178_S0 : Int32) : Int32 := (nar .boolean j178_S0)
def own_v0_159 (f_a1 : Int32 → Int32) (q0 : Int64) (q1 : Int32) (q2 : Int32) (q3 : Int32) (j159_L9 : Int32) : Int32 := (if j159_L9 = (0 : Int32) then (if (own_v2_0 f_a1 (own_n0_63 q1 q2) (own_n0_52 q1)) = ((own_n0_63 q1 q2) + (1 : Int32)) then (own_v0_193 f_a1 q0 q1 q2 q3 j159_L9 (1 : Int32)) else (own_v0_193 f_a1 q0 q1 q2 q3 j159_L9 (0 : Int32))) else (if (own_v2_0 f_a1 (own_n0_63 q1 q2) (own_n0_52 q1)) = ((own_n0_63 q1 q2) + (2 : Int32)) then (own_v0_178 f_a1 q0 q1 q2 q3 j159_L9 (1 : Int32)) else (own_v0_178 f_a1 q0 q1 q2 q3 j159_L9 (0 : Int32))))
def own_v0_121 (f_a1 : Int32 → Int32) (q0 : Int64) (q1 : Int32) (q2 : Int32) (q3 : Int32) (j121_S0 : Int32) : Int32 := (nar .boolean j121_S0)
def own_v0_91 (f_a1 : Int32 → Int32) (q0 : Int64) (q1 : Int32) (q2 : Int32) (q3 : Int32) : Int32 := (if (own_n0_63 q1 q2) = (own_n0_52 q1) then (if (own_n0_52 q1) < (own_v2_0 f_a1 (own_n0_63 q1 q2) (own_n0_52 q1)) then (own_v0_121 f_a1 q0 q1 q2 q3 (1 : Int32)) else (own_v0_121 f_a1 q0 q1 q2 q3 (0 : Int32))) else (if (f_a1 (own_n0_63 q1 q2)) = (13 : Int32) then (if ((own_n0_63 q1 q2) + (1 : Int32)) < (own_n0_52 q1) then (if (f_a1 ((own_n0_63 q1 q2) + (1 : Int32))) = (10 : Int32) then (own_v0_159 f_a1 q0 q1 q2 q3 (1 : Int32)) else (own_v0_159 f_a1 q0 q1 q2 q3 (0 : Int32))) else (own_v0_159 f_a1 q0 q1 q2 q3 (0 : Int32))) else (own_v0_159 f_a1 q0 q1 q2 q3 (0 : Int32))))
def own_v0_90 (f_a1 : Int32 → Int32) (q0 : Int64) (q1 : Int32) (q2 : Int32) (q3 : Int32) (j90_S0 : Int32) : Int32 := (own_v0_91 (own_set f_a1 (own_n0_63 q1 q2) (nar .char j90_S0)) q0 q1 q2 q3)
def own_v0_65 (q0 : Int64) (q1 : Int32) (q2 : Int32) (q3 : Int32) : Int32 := (if (own_n0_63 q1 q2) < (own_n0_52 q1) then (if (q3 &&& (1 : Int32)) = (0 : Int32) then (own_v0_90 (own_n0_f q0) q0 q1 q2 q3 (13 : Int32)) else (own_v0_90 (own_n0_f q0) q0 q1 q2 q3 (10 : Int32))) else (own_v0_91 (own_n0_f q0) q0 q1 q2 q3))
theorem own_len_i (q : Int32) : 0 ≤ (own_n0_52 q).toInt ∧ (own_n0_52 q).toInt ≤ 4 := by
  have e := own_rem_i (y := (5 : Int32)) (own_m31 q) (by decide)
  have e5 : (5 : Int32).toInt = 5 := rfl
  rw [own_n0_52, e, e5]
  omega
theorem own_len1_i (q : Int32) : (own_n0_52 q + 1).toInt = (own_n0_52 q).toInt + 1 := by
  have h := own_len_i q
  have e : (1 : Int32).toInt = 1 := rfl
  rw [own_add_i (by omega) (by omega), e]
theorem own_len1 (q : Int32) : own_n0_52 q + 1 ≠ 0 := own_ne0 (by have := own_len1_i q; have := own_len_i q; omega)
theorem own_e_i (q1 q2 : Int32) : 0 ≤ (own_n0_63 q1 q2).toInt ∧ (own_n0_63 q1 q2).toInt ≤ (own_n0_52 q1).toInt := by
  have h := own_len1_i q1
  have h1 := own_len_i q1
  have e := own_rem_i (y := own_n0_52 q1 + 1) (own_m31 q2) (by omega)
  have a := Int.emod_nonneg (q2 &&& (2147483647 : Int32)).toInt (b := (own_n0_52 q1 + 1).toInt) (by omega)
  have b := Int.emod_lt_of_pos (q2 &&& (2147483647 : Int32)).toInt (b := (own_n0_52 q1 + 1).toInt) (by omega)
  rw [own_n0_63, e]
  omega
theorem own_e0 (q1 q2 : Int32) : ¬ own_n0_63 q1 q2 < 0 := by
  have := own_e_i q1 q2
  have e : (0 : Int32).toInt = 0 := rfl
  rw [own_lt]
  omega
theorem own_len4 (q1 : Int32) : ¬ (4 : Int32) < own_n0_52 q1 := by
  have := own_len_i q1
  have e : (4 : Int32).toInt = 4 := rfl
  rw [own_lt]
  omega
theorem own_e4 (q1 q2 : Int32) : ¬ (4 : Int32) < own_n0_63 q1 q2 := by
  have := own_len_i q1
  have := own_e_i q1 q2
  have e : (4 : Int32).toInt = 4 := rfl
  rw [own_lt]
  omega
theorem own_elt {q2 : Int32} (q1 : Int32) (h : own_n0_63 q1 q2 < own_n0_52 q1) : own_n0_63 q1 q2 < (4 : Int32) := by
  have := own_len_i q1
  have e : (4 : Int32).toInt = 4 := rfl
  rw [own_lt] at *
  omega
theorem own_ene (q1 q2 : Int32) (h : ¬ own_n0_63 q1 q2 = own_n0_52 q1) : own_n0_63 q1 q2 < (4 : Int32) := by
  have := own_len_i q1
  have := own_e_i q1 q2
  have e : (4 : Int32).toInt = 4 := rfl
  have h' : ¬ (own_n0_63 q1 q2).toInt = (own_n0_52 q1).toInt := fun q => h (own_of_i q)
  rw [own_lt]
  omega
theorem own_law2 (f : Int32 → Int32) (q0 : Int64) (q1 q2 q3 : Int32) : own_v0_91 f q0 q1 q2 q3 = 1 := by
  have h1 := own_len_i q1
  have h2 := own_e_i q1 q2
  have h3 := own_nx (n := own_n0_52 q1) (own_e0 q1 q2) (own_e4 q1 q2)
  have m1 : nar .boolean (1 : Int32) = 1 := rfl
  rw [own_v0_91]
  by_cases h : own_n0_63 q1 q2 = own_n0_52 q1
  · rw [if_pos h]
    have hc : ¬ own_n0_63 q1 q2 + 1 < own_n0_52 q1 := by
      rw [own_lt, h3, h]
      omega
    have e : own_v2_0 f (own_n0_63 q1 q2) (own_n0_52 q1) = own_n0_63 q1 q2 + 1 := by
      rw [own_v2_0, if_neg hc]
      rfl
    have hg : own_n0_52 q1 < own_n0_63 q1 q2 + 1 := by
      rw [own_lt, h3, h]
      omega
    rw [e, if_pos hg]
    rfl
  · rw [if_neg h]
    have t1 : ¬ (1 : Int32) = 0 := by decide
    by_cases c2 : f (own_n0_63 q1 q2) = 13
    · by_cases c1 : own_n0_63 q1 q2 + 1 < own_n0_52 q1
      · by_cases c3 : f (own_n0_63 q1 q2 + 1) = 10
        · have e : own_v2_0 f (own_n0_63 q1 q2) (own_n0_52 q1) = own_n0_63 q1 q2 + 2 := by
            rw [own_v2_0, if_pos c1, if_pos c2, if_pos c3, own_v2_30, if_neg t1]
            rfl
          rw [if_pos c2, if_pos c1, if_pos c3, own_v0_159, if_neg t1, if_pos e]
          rfl
        · have e : own_v2_0 f (own_n0_63 q1 q2) (own_n0_52 q1) = own_n0_63 q1 q2 + 1 := by
            rw [own_v2_0, if_pos c1, if_pos c2, if_neg c3]
            rfl
          rw [if_pos c2, if_pos c1, if_neg c3, own_v0_159, if_pos rfl, if_pos e]
          rfl
      · have e : own_v2_0 f (own_n0_63 q1 q2) (own_n0_52 q1) = own_n0_63 q1 q2 + 1 := by
          rw [own_v2_0, if_neg c1]
          rfl
        rw [if_pos c2, if_neg c1, own_v0_159, if_pos rfl, if_pos e]
        rfl
    · have e : own_v2_0 f (own_n0_63 q1 q2) (own_n0_52 q1) = own_n0_63 q1 q2 + 1 := by
        by_cases c1 : own_n0_63 q1 q2 + 1 < own_n0_52 q1
        · rw [own_v2_0, if_pos c1, if_neg c2]
          rfl
        · rw [own_v2_0, if_neg c1]
          rfl
      rw [if_neg c2, own_v0_159, if_pos rfl, if_pos e]
      rfl
theorem own_law (q0 : Int64) (q1 q2 q3 : Int32) : own_v0_65 q0 q1 q2 q3 = 1 := by
  rw [own_v0_65]
  split
  · split
    · exact own_law2 _ q0 q1 q2 q3
    · exact own_law2 _ q0 q1 q2 q3
  · exact own_law2 _ q0 q1 q2 q3
theorem pn_0 : plainName "com/example/covenantry/covenantry/TextFilesNextLinePinLaw" = true := by first | (simp [plainName, overriddenIn]; done) | decide +kernel
theorem ef_0 (m : MethodId) (q0 : Int64) (q1 : Int32) (q2 : Int32) (q3 : Int32) : entryFrame m #[(.long q0), (.int q1), (.int q2), (.int q3)] maxLocals = mkF m 0 #[.val (.long q0), .second, .val (.int q1), .val (.int q2), .val (.int q3), .unset, .unset, .unset, .unset, .unset] [] := by first | (simp [entryFrame, mkF, argsToLocals, Value.category, maxLocals]; done) | rfl
set_option maxRecDepth 65536 in
set_option maxHeartbeats 40000000 in
theorem rm0 (l : Launch) (Z : State) (a0 : Array Value) (hw : ∀ d ∈ tables_1, d.before a0 Z = true) (ws : List Jvm.Cond) (q0 : Int64) (q1 : Int32) (q2 : Int32) (q3 : Int32) (h0 : Heap) (n0 : Nat) (Z0 : n0 ≤ h0.size)  :
    MetFree l x (head1 (Jvm.Cond.code x code maxLocals ret :: ws) room_1) (fun aa U => aa = #[(.long q0), (.int q1), (.int q2), (.int q3)] ∧ Z.Warmed39 U.vm ∧ U.heap = h0) (fun _ _ _ _ _ => True) (fun _ U o U' => ∃ v L, o = .returned v ∧ own_QF (some (.int (own_v0_65 q0 q1 q2 q3))) n0 v U'.heap L ∧ FrameEnd U o U' L room_1.cells room_1.slots) := by
  refine MetFree.of_bodySF (plainFor_of_name pn_0) hisR ?_
  intro p e s m args below meth c s₁ Bd hml0 hP hK
  obtain ⟨rfl, hZ, hh⟩ := hP
  have hx := Bd.exec
  have hby := Bd.bytes
  have hml : c.maxLocals = 10 := hml0
  have hlk : meth.locks = false := Bd.notSynchronized
  have hown : s.vm.findClass "com/example/covenantry/covenantry/TextFilesNextLinePinLaw" = some m.cls := findClass_of_methodNamed Bd.named
  have X0 : Stand p l e room_1 s m #[(.long q0), (.int q1), (.int q2), (.int q3)] below meth c s₁ [] 0 0 := Stand.of_body Bd
  have e0 : s₁.heap = h0 := by rw [← hh, Bd.state]; rfl
  refine own_G0 (own_go (fun _ k => castTop (ef_0 m q0 q1 q2 q3) k) ?_)
  show own_G p e below s _ _ _ (s₁.setTop (mkF m 0 #[.val (.long q0), .second, .val (.int q1), .val (.int q2), .val (.int q3), .unset, .unset, .unset, .unset, .unset] []))
  refine own_go (fun _ => XS.iconst X0.here hx rfl (hb hby at_0)) ?_
  show own_G p e below s _ _ _ (s₁.setTop (mkF m 1 #[.val (.long q0), .second, .val (.int q1), .val (.int q2), .val (.int q3), .unset, .unset, .unset, .unset, .unset] [(.int (4 : Int32))]))
  obtain ⟨T1, h1, a1, X1, e1, E1, ga1, g1, A1, st1⟩ := own_new X0 hx hZ (hw _ (List.mem_of_getElem? (i := 0) rfl)) e0 Z0 rfl (g := (mkF m 1 #[.val (.long q0), .second, .val (.int q1), .val (.int q2), .val (.int q3), .unset, .unset, .unset, .unset, .unset] [(.int (4 : Int32))])) rfl (hb hby at_1) rfl (by decide) (cap := 4) (by decide) (by decide) (by decide) (by decide)
  refine own_go (fun _ => st1 _) ?_
  show own_G p e below s _ _ _ (T1.setTop (mkF m 3 #[.val (.long q0), .second, .val (.int q1), .val (.int q2), .val (.int q3), .unset, .unset, .unset, .unset, .unset] [(.ref a1)]))
  refine own_go (fun _ => XS.astore X1.here hx rfl (hb hby at_3) rfl rfl (l' := #[.val (.long q0), .second, .val (.int q1), .val (.int q2), .val (.int q3), .val (.ref a1), .unset, .unset, .unset, .unset]) rfl) ?_
  show own_G p e below s _ _ _ (T1.setTop (mkF m 5 #[.val (.long q0), .second, .val (.int q1), .val (.int q2), .val (.int q3), .val (.ref a1), .unset, .unset, .unset, .unset] []))
  refine own_go (fun _ => XS.aload X1.here hx rfl (hb hby at_5) rfl rfl) ?_
  show own_G p e below s _ _ _ (T1.setTop (mkF m 7 #[.val (.long q0), .second, .val (.int q1), .val (.int q2), .val (.int q3), .val (.ref a1), .unset, .unset, .unset, .unset] [(.ref a1)]))
  refine own_go (fun _ => XS.iconst X1.here hx rfl (hb hby at_7)) ?_
  show own_G p e below s _ _ _ (T1.setTop (mkF m 8 #[.val (.long q0), .second, .val (.int q1), .val (.int q2), .val (.int q3), .val (.ref a1), .unset, .unset, .unset, .unset] [(.int (0 : Int32)), (.ref a1)]))
  refine own_go (fun _ => XS.lloadN X1.here hx rfl (hb hby at_8) rfl) ?_
  show own_G p e below s _ _ _ (T1.setTop (mkF m 9 #[.val (.long q0), .second, .val (.int q1), .val (.int q2), .val (.int q3), .val (.ref a1), .unset, .unset, .unset, .unset] [(.long q0), (.int (0 : Int32)), (.ref a1)]))
  obtain ⟨T2, X2, e2, st2⟩ := own_call X1 hx hZ hown (hw _ (List.mem_of_getElem? (i := 1) rfl)) (hw _ (List.mem_of_getElem? (i := 2) rfl)) (hw _ (List.mem_of_getElem? (i := 3) rfl)) (hw _ (List.mem_of_getElem? (i := 4) rfl)) (by decide) (rm1 l Z a0 hw [] q0 h1) rfl rfl e1 (W := 2) (by decide) (by decide) (by decide) (by decide) (g := (mkF m 9 #[.val (.long q0), .second, .val (.int q1), .val (.int q2), .val (.int q3), .val (.ref a1), .unset, .unset, .unset, .unset] [(.long q0), (.int (0 : Int32)), (.ref a1)])) rfl (by rw [hml]; rfl) (argsL := [(.long q0)]) (rest := [(.int (0 : Int32)), (.ref a1)]) (lenOf (by decide +kernel : parseMethodDescriptor "(J)C" = some ⟨[.long], some .char⟩) rfl) rfl rfl (by show 2 * 0 + _ ≤ _; exact Nat.le_of_eq rfl) (hb hby at_9)
  refine own_go (fun _ => st2 _) ?_
  show own_G p e below s _ _ _ (T2.setTop (mkF m 12 #[.val (.long q0), .second, .val (.int q1), .val (.int q2), .val (.int q3), .val (.ref a1), .unset, .unset, .unset, .unset] [(.int (own_v1_0 q0)), (.int (0 : Int32)), (.ref a1)]))
  obtain ⟨T3, h3, L3, X3, e3, N3, A3, W3, st3⟩ := own_stC X2 hx hZ e2 A1 (Fr.nil n0) g1 (by decide) (by decide) (g := (mkF m 12 #[.val (.long q0), .second, .val (.int q1), .val (.int q2), .val (.int q3), .val (.ref a1), .unset, .unset, .unset, .unset] [(.int (own_v1_0 q0)), (.int (0 : Int32)), (.ref a1)])) rfl rfl (hb hby at_12)
  refine own_go (fun _ => st3 _) ?_
  show own_G p e below s _ _ _ (T3.setTop (mkF m 13 #[.val (.long q0), .second, .val (.int q1), .val (.int q2), .val (.int q3), .val (.ref a1), .unset, .unset, .unset, .unset] []))
  refine own_go (fun _ => XS.aload X3.here hx rfl (hb hby at_13) rfl rfl) ?_
  show own_G p e below s _ _ _ (T3.setTop (mkF m 15 #[.val (.long q0), .second, .val (.int q1), .val (.int q2), .val (.int q3), .val (.ref a1), .unset, .unset, .unset, .unset] [(.ref a1)]))
  refine own_go (fun _ => XS.iconst X3.here hx rfl (hb hby at_15)) ?_
  show own_G p e below s _ _ _ (T3.setTop (mkF m 16 #[.val (.long q0), .second, .val (.int q1), .val (.int q2), .val (.int q3), .val (.ref a1), .unset, .unset, .unset, .unset] [(.int (1 : Int32)), (.ref a1)]))
  refine own_go (fun _ => XS.lloadN X3.here hx rfl (hb hby at_16) rfl) ?_
  show own_G p e below s _ _ _ (T3.setTop (mkF m 17 #[.val (.long q0), .second, .val (.int q1), .val (.int q2), .val (.int q3), .val (.ref a1), .unset, .unset, .unset, .unset] [(.long q0), (.int (1 : Int32)), (.ref a1)]))
  refine own_go (fun _ => XS.bipush X3.here hx rfl (hb hby at_17)) ?_
  show own_G p e below s _ _ _ (T3.setTop (mkF m 19 #[.val (.long q0), .second, .val (.int q1), .val (.int q2), .val (.int q3), .val (.ref a1), .unset, .unset, .unset, .unset] [(.int (10 : Int32)), (.long q0), (.int (1 : Int32)), (.ref a1)]))
  refine own_go (fun _ => XS.lushr X3.here hx rfl (hb hby at_19) rfl) ?_
  show own_G p e below s _ _ _ (T3.setTop (mkF m 20 #[.val (.long q0), .second, .val (.int q1), .val (.int q2), .val (.int q3), .val (.ref a1), .unset, .unset, .unset, .unset] [(.long (own_usL q0 (10 : Int32))), (.int (1 : Int32)), (.ref a1)]))
  obtain ⟨T4, X4, e4, st4⟩ := own_call X3 hx hZ hown (hw _ (List.mem_of_getElem? (i := 1) rfl)) (hw _ (List.mem_of_getElem? (i := 2) rfl)) (hw _ (List.mem_of_getElem? (i := 3) rfl)) (hw _ (List.mem_of_getElem? (i := 4) rfl)) (by decide) (rm1 l Z a0 hw [] (own_usL q0 (10 : Int32)) h3) rfl rfl e3 (W := 2) (by decide) (by decide) (by decide) (by decide) (g := (mkF m 20 #[.val (.long q0), .second, .val (.int q1), .val (.int q2), .val (.int q3), .val (.ref a1), .unset, .unset, .unset, .unset] [(.long (own_usL q0 (10 : Int32))), (.int (1 : Int32)), (.ref a1)])) rfl (by rw [hml]; rfl) (argsL := [(.long (own_usL q0 (10 : Int32)))]) (rest := [(.int (1 : Int32)), (.ref a1)]) (lenOf (by decide +kernel : parseMethodDescriptor "(J)C" = some ⟨[.long], some .char⟩) rfl) rfl rfl (by show 2 * 0 + _ ≤ _; exact Nat.le_of_eq rfl) (hb hby at_20)
  refine own_go (fun _ => st4 _) ?_
  show own_G p e below s _ _ _ (T4.setTop (mkF m 23 #[.val (.long q0), .second, .val (.int q1), .val (.int q2), .val (.int q3), .val (.ref a1), .unset, .unset, .unset, .unset] [(.int (own_v1_0 (own_usL q0 (10 : Int32)))), (.int (1 : Int32)), (.ref a1)]))
  obtain ⟨T5, h5, L5, X5, e5, N5, A5, W5, st5⟩ := own_stC X4 hx hZ e4 A3 N3 g1 (by decide) (by decide) (g := (mkF m 23 #[.val (.long q0), .second, .val (.int q1), .val (.int q2), .val (.int q3), .val (.ref a1), .unset, .unset, .unset, .unset] [(.int (own_v1_0 (own_usL q0 (10 : Int32)))), (.int (1 : Int32)), (.ref a1)])) rfl rfl (hb hby at_23)
  refine own_go (fun _ => st5 _) ?_
  show own_G p e below s _ _ _ (T5.setTop (mkF m 24 #[.val (.long q0), .second, .val (.int q1), .val (.int q2), .val (.int q3), .val (.ref a1), .unset, .unset, .unset, .unset] []))
  refine own_go (fun _ => XS.aload X5.here hx rfl (hb hby at_24) rfl rfl) ?_
  show own_G p e below s _ _ _ (T5.setTop (mkF m 26 #[.val (.long q0), .second, .val (.int q1), .val (.int q2), .val (.int q3), .val (.ref a1), .unset, .unset, .unset, .unset] [(.ref a1)]))
  refine own_go (fun _ => XS.iconst X5.here hx rfl (hb hby at_26)) ?_
  show own_G p e below s _ _ _ (T5.setTop (mkF m 27 #[.val (.long q0), .second, .val (.int q1), .val (.int q2), .val (.int q3), .val (.ref a1), .unset, .unset, .unset, .unset] [(.int (2 : Int32)), (.ref a1)]))
  refine own_go (fun _ => XS.lloadN X5.here hx rfl (hb hby at_27) rfl) ?_
  show own_G p e below s _ _ _ (T5.setTop (mkF m 28 #[.val (.long q0), .second, .val (.int q1), .val (.int q2), .val (.int q3), .val (.ref a1), .unset, .unset, .unset, .unset] [(.long q0), (.int (2 : Int32)), (.ref a1)]))
  refine own_go (fun _ => XS.bipush X5.here hx rfl (hb hby at_28)) ?_
  show own_G p e below s _ _ _ (T5.setTop (mkF m 30 #[.val (.long q0), .second, .val (.int q1), .val (.int q2), .val (.int q3), .val (.ref a1), .unset, .unset, .unset, .unset] [(.int (20 : Int32)), (.long q0), (.int (2 : Int32)), (.ref a1)]))
  refine own_go (fun _ => XS.lushr X5.here hx rfl (hb hby at_30) rfl) ?_
  show own_G p e below s _ _ _ (T5.setTop (mkF m 31 #[.val (.long q0), .second, .val (.int q1), .val (.int q2), .val (.int q3), .val (.ref a1), .unset, .unset, .unset, .unset] [(.long (own_usL q0 (20 : Int32))), (.int (2 : Int32)), (.ref a1)]))
  obtain ⟨T6, X6, e6, st6⟩ := own_call X5 hx hZ hown (hw _ (List.mem_of_getElem? (i := 1) rfl)) (hw _ (List.mem_of_getElem? (i := 2) rfl)) (hw _ (List.mem_of_getElem? (i := 3) rfl)) (hw _ (List.mem_of_getElem? (i := 4) rfl)) (by decide) (rm1 l Z a0 hw [] (own_usL q0 (20 : Int32)) h5) rfl rfl e5 (W := 2) (by decide) (by decide) (by decide) (by decide) (g := (mkF m 31 #[.val (.long q0), .second, .val (.int q1), .val (.int q2), .val (.int q3), .val (.ref a1), .unset, .unset, .unset, .unset] [(.long (own_usL q0 (20 : Int32))), (.int (2 : Int32)), (.ref a1)])) rfl (by rw [hml]; rfl) (argsL := [(.long (own_usL q0 (20 : Int32)))]) (rest := [(.int (2 : Int32)), (.ref a1)]) (lenOf (by decide +kernel : parseMethodDescriptor "(J)C" = some ⟨[.long], some .char⟩) rfl) rfl rfl (by show 2 * 0 + _ ≤ _; exact Nat.le_of_eq rfl) (hb hby at_31)
  refine own_go (fun _ => st6 _) ?_
  show own_G p e below s _ _ _ (T6.setTop (mkF m 34 #[.val (.long q0), .second, .val (.int q1), .val (.int q2), .val (.int q3), .val (.ref a1), .unset, .unset, .unset, .unset] [(.int (own_v1_0 (own_usL q0 (20 : Int32)))), (.int (2 : Int32)), (.ref a1)]))
  obtain ⟨T7, h7, L7, X7, e7, N7, A7, W7, st7⟩ := own_stC X6 hx hZ e6 A5 N5 g1 (by decide) (by decide) (g := (mkF m 34 #[.val (.long q0), .second, .val (.int q1), .val (.int q2), .val (.int q3), .val (.ref a1), .unset, .unset, .unset, .unset] [(.int (own_v1_0 (own_usL q0 (20 : Int32)))), (.int (2 : Int32)), (.ref a1)])) rfl rfl (hb hby at_34)
  refine own_go (fun _ => st7 _) ?_
  show own_G p e below s _ _ _ (T7.setTop (mkF m 35 #[.val (.long q0), .second, .val (.int q1), .val (.int q2), .val (.int q3), .val (.ref a1), .unset, .unset, .unset, .unset] []))
  refine own_go (fun _ => XS.aload X7.here hx rfl (hb hby at_35) rfl rfl) ?_
  show own_G p e below s _ _ _ (T7.setTop (mkF m 37 #[.val (.long q0), .second, .val (.int q1), .val (.int q2), .val (.int q3), .val (.ref a1), .unset, .unset, .unset, .unset] [(.ref a1)]))
  refine own_go (fun _ => XS.iconst X7.here hx rfl (hb hby at_37)) ?_
  show own_G p e below s _ _ _ (T7.setTop (mkF m 38 #[.val (.long q0), .second, .val (.int q1), .val (.int q2), .val (.int q3), .val (.ref a1), .unset, .unset, .unset, .unset] [(.int (3 : Int32)), (.ref a1)]))
  refine own_go (fun _ => XS.lloadN X7.here hx rfl (hb hby at_38) rfl) ?_
  show own_G p e below s _ _ _ (T7.setTop (mkF m 39 #[.val (.long q0), .second, .val (.int q1), .val (.int q2), .val (.int q3), .val (.ref a1), .unset, .unset, .unset, .unset] [(.long q0), (.int (3 : Int32)), (.ref a1)]))
  refine own_go (fun _ => XS.bipush X7.here hx rfl (hb hby at_39)) ?_
  show own_G p e below s _ _ _ (T7.setTop (mkF m 41 #[.val (.long q0), .second, .val (.int q1), .val (.int q2), .val (.int q3), .val (.ref a1), .unset, .unset, .unset, .unset] [(.int (30 : Int32)), (.long q0), (.int (3 : Int32)), (.ref a1)]))
  refine own_go (fun _ => XS.lushr X7.here hx rfl (hb hby at_41) rfl) ?_
  show own_G p e below s _ _ _ (T7.setTop (mkF m 42 #[.val (.long q0), .second, .val (.int q1), .val (.int q2), .val (.int q3), .val (.ref a1), .unset, .unset, .unset, .unset] [(.long (own_usL q0 (30 : Int32))), (.int (3 : Int32)), (.ref a1)]))
  obtain ⟨T8, X8, e8, st8⟩ := own_call X7 hx hZ hown (hw _ (List.mem_of_getElem? (i := 1) rfl)) (hw _ (List.mem_of_getElem? (i := 2) rfl)) (hw _ (List.mem_of_getElem? (i := 3) rfl)) (hw _ (List.mem_of_getElem? (i := 4) rfl)) (by decide) (rm1 l Z a0 hw [] (own_usL q0 (30 : Int32)) h7) rfl rfl e7 (W := 2) (by decide) (by decide) (by decide) (by decide) (g := (mkF m 42 #[.val (.long q0), .second, .val (.int q1), .val (.int q2), .val (.int q3), .val (.ref a1), .unset, .unset, .unset, .unset] [(.long (own_usL q0 (30 : Int32))), (.int (3 : Int32)), (.ref a1)])) rfl (by rw [hml]; rfl) (argsL := [(.long (own_usL q0 (30 : Int32)))]) (rest := [(.int (3 : Int32)), (.ref a1)]) (lenOf (by decide +kernel : parseMethodDescriptor "(J)C" = some ⟨[.long], some .char⟩) rfl) rfl rfl (by show 2 * 0 + _ ≤ _; exact Nat.le_of_eq rfl) (hb hby at_42)
  refine own_go (fun _ => st8 _) ?_
  show own_G p e below s _ _ _ (T8.setTop (mkF m 45 #[.val (.long q0), .second, .val (.int q1), .val (.int q2), .val (.int q3), .val (.ref a1), .unset, .unset, .unset, .unset] [(.int (own_v1_0 (own_usL q0 (30 : Int32)))), (.int (3 : Int32)), (.ref a1)]))
  obtain ⟨T9, h9, L9, X9, e9, N9, A9, W9, st9⟩ := own_stC X8 hx hZ e8 A7 N7 g1 (by decide) (by decide) (g := (mkF m 45 #[.val (.long q0), .second, .val (.int q1), .val (.int q2), .val (.int q3), .val (.ref a1), .unset, .unset, .unset, .unset] [(.int (own_v1_0 (own_usL q0 (30 : Int32)))), (.int (3 : Int32)), (.ref a1)])) rfl rfl (hb hby at_45)
  have A9 : own_A Z h9 a1 .char (4 : Int32) (own_n0_f q0) := A9
  refine own_go (fun _ => st9 _) ?_
  show own_G p e below s _ _ _ (T9.setTop (mkF m 46 #[.val (.long q0), .second, .val (.int q1), .val (.int q2), .val (.int q3), .val (.ref a1), .unset, .unset, .unset, .unset] []))
  refine own_go (fun _ => XS.iloadN X9.here hx rfl (hb hby at_46) rfl) ?_
  show own_G p e below s _ _ _ (T9.setTop (mkF m 47 #[.val (.long q0), .second, .val (.int q1), .val (.int q2), .val (.int q3), .val (.ref a1), .unset, .unset, .unset, .unset] [(.int q1)]))
  refine own_go (fun _ => X9.ldcInt hx hown (mvT hZ (hw _ (List.mem_of_getElem? (i := 6) rfl))) (g := (mkF m 47 #[.val (.long q0), .second, .val (.int q1), .val (.int q2), .val (.int q3), .val (.ref a1), .unset, .unset, .unset, .unset] [(.int q1)])) rfl (hb hby at_47) _) ?_
  show own_G p e below s _ _ _ (T9.setTop (mkF m 49 #[.val (.long q0), .second, .val (.int q1), .val (.int q2), .val (.int q3), .val (.ref a1), .unset, .unset, .unset, .unset] [(.int (2147483647 : Int32)), (.int q1)]))
  refine own_go (fun _ => XS.iand X9.here hx rfl (hb hby at_49) rfl) ?_
  show own_G p e below s _ _ _ (T9.setTop (mkF m 50 #[.val (.long q0), .second, .val (.int q1), .val (.int q2), .val (.int q3), .val (.ref a1), .unset, .unset, .unset, .unset] [(.int (q1 &&& (2147483647 : Int32)))]))
  refine own_go (fun _ => XS.iconst X9.here hx rfl (hb hby at_50)) ?_
  show own_G p e below s _ _ _ (T9.setTop (mkF m 51 #[.val (.long q0), .second, .val (.int q1), .val (.int q2), .val (.int q3), .val (.ref a1), .unset, .unset, .unset, .unset] [(.int (5 : Int32)), (.int (q1 &&& (2147483647 : Int32)))]))
  refine own_go (fun _ => XS.irem X9.here hx rfl (hb hby at_51) rfl (by decide)) ?_
  show own_G p e below s _ _ _ (T9.setTop (mkF m 52 #[.val (.long q0), .second, .val (.int q1), .val (.int q2), .val (.int q3), .val (.ref a1), .unset, .unset, .unset, .unset] [(.int (own_rem (q1 &&& (2147483647 : Int32)) (5 : Int32)))]))
  refine own_go (fun _ => XS.istore X9.here hx rfl (hb hby at_52) rfl (l' := #[.val (.long q0), .second, .val (.int q1), .val (.int q2), .val (.int q3), .val (.ref a1), .val (.int (own_n0_52 q1)), .unset, .unset, .unset]) rfl) ?_
  show own_G p e below s _ _ _ (T9.setTop (mkF m 54 #[.val (.long q0), .second, .val (.int q1), .val (.int q2), .val (.int q3), .val (.ref a1), .val (.int (own_n0_52 q1)), .unset, .unset, .unset] []))
  refine own_go (fun _ => XS.iloadN X9.here hx rfl (hb hby at_54) rfl) ?_
  show own_G p e below s _ _ _ (T9.setTop (mkF m 55 #[.val (.long q0), .second, .val (.int q1), .val (.int q2), .val (.int q3), .val (.ref a1), .val (.int (own_n0_52 q1)), .unset, .unset, .unset] [(.int q2)]))
  refine own_go (fun _ => X9.ldcInt hx hown (mvT hZ (hw _ (List.mem_of_getElem? (i := 6) rfl))) (g := (mkF m 55 #[.val (.long q0), .second, .val (.int q1), .val (.int q2), .val (.int q3), .val (.ref a1), .val (.int (own_n0_52 q1)), .unset, .unset, .unset] [(.int q2)])) rfl (hb hby at_55) _) ?_
  show own_G p e below s _ _ _ (T9.setTop (mkF m 57 #[.val (.long q0), .second, .val (.int q1), .val (.int q2), .val (.int q3), .val (.ref a1), .val (.int (own_n0_52 q1)), .unset, .unset, .unset] [(.int (2147483647 : Int32)), (.int q2)]))
  refine own_go (fun _ => XS.iand X9.here hx rfl (hb hby at_57) rfl) ?_
  show own_G p e below s _ _ _ (T9.setTop (mkF m 58 #[.val (.long q0), .second, .val (.int q1), .val (.int q2), .val (.int q3), .val (.ref a1), .val (.int (own_n0_52 q1)), .unset, .unset, .unset] [(.int (q2 &&& (2147483647 : Int32)))]))
  refine own_go (fun _ => XS.iload X9.here hx rfl (hb hby at_58) rfl) ?_
  show own_G p e below s _ _ _ (T9.setTop (mkF m 60 #[.val (.long q0), .second, .val (.int q1), .val (.int q2), .val (.int q3), .val (.ref a1), .val (.int (own_n0_52 q1)), .unset, .unset, .unset] [(.int (own_n0_52 q1)), (.int (q2 &&& (2147483647 : Int32)))]))
  refine own_go (fun _ => XS.iconst X9.here hx rfl (hb hby at_60)) ?_
  show own_G p e below s _ _ _ (T9.setTop (mkF m 61 #[.val (.long q0), .second, .val (.int q1), .val (.int q2), .val (.int q3), .val (.ref a1), .val (.int (own_n0_52 q1)), .unset, .unset, .unset] [(.int (1 : Int32)), (.int (own_n0_52 q1)), (.int (q2 &&& (2147483647 : Int32)))]))
  refine own_go (fun _ => XS.iadd X9.here hx rfl (hb hby at_61) rfl) ?_
  show own_G p e below s _ _ _ (T9.setTop (mkF m 62 #[.val (.long q0), .second, .val (.int q1), .val (.int q2), .val (.int q3), .val (.ref a1), .val (.int (own_n0_52 q1)), .unset, .unset, .unset] [(.int ((own_n0_52 q1) + (1 : Int32))), (.int (q2 &&& (2147483647 : Int32)))]))
  refine own_go (fun _ => XS.irem X9.here hx rfl (hb hby at_62) rfl (own_len1 q1)) ?_
  show own_G p e below s _ _ _ (T9.setTop (mkF m 63 #[.val (.long q0), .second, .val (.int q1), .val (.int q2), .val (.int q3), .val (.ref a1), .val (.int (own_n0_52 q1)), .unset, .unset, .unset] [(.int (own_rem (q2 &&& (2147483647 : Int32)) ((own_n0_52 q1) + (1 : Int32))))]))
  refine own_go (fun _ => XS.istore X9.here hx rfl (hb hby at_63) rfl (l' := #[.val (.long q0), .second, .val (.int q1), .val (.int q2), .val (.int q3), .val (.ref a1), .val (.int (own_n0_52 q1)), .val (.int (own_n0_63 q1 q2)), .unset, .unset]) rfl) ?_
  have b193 : ∀ (T : State) (h : Heap) (Lc : List Loc), Stand p l e room_1 s m #[(.long q0), (.int q1), (.int q2), (.int q3)] below meth c T Lc (0 + 1) (0 + 4) → T.heap = h → Fr n0 Lc → ∀ (f_a1 : Int32 → Int32), own_A Z h a1 .char (4 : Int32) f_a1 → ∀ (j159_L9 : Int32) (j193_S0 : Int32), own_G p e below s (own_QF (some (.int (own_v0_193 f_a1 q0 q1 q2 q3 j159_L9 j193_S0))) n0) room_1.cells room_1.slots (T.setTop (mkF m 193 #[.val (.long q0), .second, .val (.int q1), .val (.int q2), .val (.int q3), .val (.ref a1), .val (.int (own_n0_52 q1)), .val (.int (own_n0_63 q1 q2)), .val (.int (own_v2_0 f_a1 (own_n0_63 q1 q2) (own_n0_52 q1))), .val (.int j159_L9)] [(.int j193_S0)])) := by
    intro T h Lc X eT N f_a1 A_a1 j159_L9 j193_S0
    show own_G p e below s (own_QF (some (.int (nar .boolean j193_S0))) n0) room_1.cells room_1.slots (T.setTop (mkF m 193 #[.val (.long q0), .second, .val (.int q1), .val (.int q2), .val (.int q3), .val (.ref a1), .val (.int (own_n0_52 q1)), .val (.int (own_n0_63 q1 q2)), .val (.int (own_v2_0 f_a1 (own_n0_63 q1 q2) (own_n0_52 q1))), .val (.int j159_L9)] [(.int j193_S0)]))
    exact own_retN X hx hlk (t := .boolean) Bd.returns (by simp) (hb hby at_193) (by decide) (by decide) ⟨rfl, N⟩
  have b178 : ∀ (T : State) (h : Heap) (Lc : List Loc), Stand p l e room_1 s m #[(.long q0), (.int q1), (.int q2), (.int q3)] below meth c T Lc (0 + 1) (0 + 4) → T.heap = h → Fr n0 Lc → ∀ (f_a1 : Int32 → Int32), own_A Z h a1 .char (4 : Int32) f_a1 → ∀ (j159_L9 : Int32) (j178_S0 : Int32), own_G p e below s (own_QF (some (.int (own_v0_178 f_a1 q0 q1 q2 q3 j159_L9 j178_S0))) n0) room_1.cells room_1.slots (T.setTop (mkF m 178 #[.val (.long q0), .second, .val (.int q1), .val (.int q2), .val (.int q3), .val (.ref a1), .val (.int (own_n0_52 q1)), .val (.int (own_n0_63 q1 q2)), .val (.int (own_v2_0 f_a1 (own_n0_63 q1 q2) (own_n0_52 q1))), .val (.int j159_L9)] [(.int j178_S0)])) := by
    intro T h Lc X eT N f_a1 A_a1 j159_L9 j178_S0
    show own_G p e below s (own_QF (some (.int (nar .boolean j178_S0))) n0) room_1.cells room_1.slots (T.setTop (mkF m 178 #[.val (.long q0), .second, .val (.int q1), .val (.int q2), .val (.int q3), .val (.ref a1), .val (.int (own_n0_52 q1)), .val (.int (own_n0_63 q1 q2)), .val (.int (own_v2_0 f_a1 (own_n0_63 q1 q2) (own_n0_52 q1))), .val (.int j159_L9)] [(.int j178_S0)]))
    exact own_retN X hx hlk (t := .boolean) Bd.returns (by simp) (hb hby at_178) (by decide) (by decide) ⟨rfl, N⟩
  have b159 : ∀ (T : State) (h : Heap) (Lc : List Loc), Stand p l e room_1 s m #[(.long q0), (.int q1), (.int q2), (.int q3)] below meth c T Lc (0 + 1) (0 + 4) → T.heap = h → Fr n0 Lc → ∀ (f_a1 : Int32 → Int32), own_A Z h a1 .char (4 : Int32) f_a1 → ∀ (j159_L9 : Int32), own_G p e below s (own_QF (some (.int (own_v0_159 f_a1 q0 q1 q2 q3 j159_L9))) n0) room_1.cells room_1.slots (T.setTop (mkF m 159 #[.val (.long q0), .second, .val (.int q1), .val (.int q2), .val (.int q3), .val (.ref a1), .val (.int (own_n0_52 q1)), .val (.int (own_n0_63 q1 q2)), .val (.int (own_v2_0 f_a1 (own_n0_63 q1 q2) (own_n0_52 q1))), .val (.int j159_L9)] [])) := by
    intro T h Lc X eT N f_a1 A_a1 j159_L9
    show own_G p e below s (own_QF (some (.int (if j159_L9 = (0 : Int32) then (if (own_v2_0 f_a1 (own_n0_63 q1 q2) (own_n0_52 q1)) = ((own_n0_63 q1 q2) + (1 : Int32)) then (own_v0_193 f_a1 q0 q1 q2 q3 j159_L9 (1 : Int32)) else (own_v0_193 f_a1 q0 q1 q2 q3 j159_L9 (0 : Int32))) else (if (own_v2_0 f_a1 (own_n0_63 q1 q2) (own_n0_52 q1)) = ((own_n0_63 q1 q2) + (2 : Int32)) then (own_v0_178 f_a1 q0 q1 q2 q3 j159_L9 (1 : Int32)) else (own_v0_178 f_a1 q0 q1 q2 q3 j159_L9 (0 : Int32)))))) n0) room_1.cells room_1.slots (T.setTop (mkF m 159 #[.val (.long q0), .second, .val (.int q1), .val (.int q2), .val (.int q3), .val (.ref a1), .val (.int (own_n0_52 q1)), .val (.int (own_n0_63 q1 q2)), .val (.int (own_v2_0 f_a1 (own_n0_63 q1 q2) (own_n0_52 q1))), .val (.int j159_L9)] []))
    refine own_go (fun _ => XS.iload X.here hx rfl (hb hby at_159) rfl) ?_
    show own_G p e below s _ _ _ (T.setTop (mkF m 161 #[.val (.long q0), .second, .val (.int q1), .val (.int q2), .val (.int q3), .val (.ref a1), .val (.int (own_n0_52 q1)), .val (.int (own_n0_63 q1 q2)), .val (.int (own_v2_0 f_a1 (own_n0_63 q1 q2) (own_n0_52 q1))), .val (.int j159_L9)] [(.int j159_L9)]))
    by_cases hc161 : j159_L9 = (0 : Int32)
    · refine own_eqF (if_pos hc161) ?_
      refine own_go (fun _ => XS.ifYes X.here hx rfl (pc0 := 161) (pc' := 179) rfl (hb hby at_161) rfl ((if0 _ _).trans (teq hc161).1) (by decide) (by decide)) ?_
      show own_G p e below s _ _ _ (T.setTop (mkF m 179 #[.val (.long q0), .second, .val (.int q1), .val (.int q2), .val (.int q3), .val (.ref a1), .val (.int (own_n0_52 q1)), .val (.int (own_n0_63 q1 q2)), .val (.int (own_v2_0 f_a1 (own_n0_63 q1 q2) (own_n0_52 q1))), .val (.int j159_L9)] []))
      refine own_go (fun _ => XS.iload X.here hx rfl (hb hby at_179) rfl) ?_
      show own_G p e below s _ _ _ (T.setTop (mkF m 181 #[.val (.long q0), .second, .val (.int q1), .val (.int q2), .val (.int q3), .val (.ref a1), .val (.int (own_n0_52 q1)), .val (.int (own_n0_63 q1 q2)), .val (.int (own_v2_0 f_a1 (own_n0_63 q1 q2) (own_n0_52 q1))), .val (.int j159_L9)] [(.int (own_v2_0 f_a1 (own_n0_63 q1 q2) (own_n0_52 q1)))]))
      refine own_go (fun _ => XS.iload X.here hx rfl (hb hby at_181) rfl) ?_
      show own_G p e below s _ _ _ (T.setTop (mkF m 183 #[.val (.long q0), .second, .val (.int q1), .val (.int q2), .val (.int q3), .val (.ref a1), .val (.int (own_n0_52 q1)), .val (.int (own_n0_63 q1 q2)), .val (.int (own_v2_0 f_a1 (own_n0_63 q1 q2) (own_n0_52 q1))), .val (.int j159_L9)] [(.int (own_n0_63 q1 q2)), (.int (own_v2_0 f_a1 (own_n0_63 q1 q2) (own_n0_52 q1)))]))
      refine own_go (fun _ => XS.iconst X.here hx rfl (hb hby at_183)) ?_
      show own_G p e below s _ _ _ (T.setTop (mkF m 184 #[.val (.long q0), .second, .val (.int q1), .val (.int q2), .val (.int q3), .val (.ref a1), .val (.int (own_n0_52 q1)), .val (.int (own_n0_63 q1 q2)), .val (.int (own_v2_0 f_a1 (own_n0_63 q1 q2) (own_n0_52 q1))), .val (.int j159_L9)] [(.int (1 : Int32)), (.int (own_n0_63 q1 q2)), (.int (own_v2_0 f_a1 (own_n0_63 q1 q2) (own_n0_52 q1)))]))
      refine own_go (fun _ => XS.iadd X.here hx rfl (hb hby at_184) rfl) ?_
      show own_G p e below s _ _ _ (T.setTop (mkF m 185 #[.val (.long q0), .second, .val (.int q1), .val (.int q2), .val (.int q3), .val (.ref a1), .val (.int (own_n0_52 q1)), .val (.int (own_n0_63 q1 q2)), .val (.int (own_v2_0 f_a1 (own_n0_63 q1 q2) (own_n0_52 q1))), .val (.int j159_L9)] [(.int ((own_n0_63 q1 q2) + (1 : Int32))), (.int (own_v2_0 f_a1 (own_n0_63 q1 q2) (own_n0_52 q1)))]))
      by_cases hc185 : (own_v2_0 f_a1 (own_n0_63 q1 q2) (own_n0_52 q1)) = ((own_n0_63 q1 q2) + (1 : Int32))
      · refine own_eqF (if_pos hc185) ?_
        refine own_go (fun _ => XS.icmpNo X.here hx rfl (hb hby at_185) rfl (teq hc185).2) ?_
        show own_G p e below s _ _ _ (T.setTop (mkF m 188 #[.val (.long q0), .second, .val (.int q1), .val (.int q2), .val (.int q3), .val (.ref a1), .val (.int (own_n0_52 q1)), .val (.int (own_n0_63 q1 q2)), .val (.int (own_v2_0 f_a1 (own_n0_63 q1 q2) (own_n0_52 q1))), .val (.int j159_L9)] []))
        refine own_go (fun _ => XS.iconst X.here hx rfl (hb hby at_188)) ?_
        show own_G p e below s _ _ _ (T.setTop (mkF m 189 #[.val (.long q0), .second, .val (.int q1), .val (.int q2), .val (.int q3), .val (.ref a1), .val (.int (own_n0_52 q1)), .val (.int (own_n0_63 q1 q2)), .val (.int (own_v2_0 f_a1 (own_n0_63 q1 q2) (own_n0_52 q1))), .val (.int j159_L9)] [(.int (1 : Int32))]))
        refine own_go (fun _ => XS.goto X.here hx rfl (pc0 := 189) (pc' := 193) rfl (hb hby at_189) (by decide) (by decide)) ?_
        exact b193 T h Lc X eT N f_a1 A_a1 j159_L9 (1 : Int32)
      · refine own_eqF (if_neg hc185) ?_
        refine own_go (fun _ => XS.icmpYes X.here hx rfl (pc0 := 185) (pc' := 192) rfl (hb hby at_185) rfl (feq hc185).2 (by decide) (by decide)) ?_
        show own_G p e below s _ _ _ (T.setTop (mkF m 192 #[.val (.long q0), .second, .val (.int q1), .val (.int q2), .val (.int q3), .val (.ref a1), .val (.int (own_n0_52 q1)), .val (.int (own_n0_63 q1 q2)), .val (.int (own_v2_0 f_a1 (own_n0_63 q1 q2) (own_n0_52 q1))), .val (.int j159_L9)] []))
        refine own_go (fun _ => XS.iconst X.here hx rfl (hb hby at_192)) ?_
        exact b193 T h Lc X eT N f_a1 A_a1 j159_L9 (0 : Int32)
    · refine own_eqF (if_neg hc161) ?_
      refine own_go (fun _ => XS.ifNo X.here hx rfl (hb hby at_161) rfl ((if0 _ _).trans (feq hc161).1)) ?_
      show own_G p e below s _ _ _ (T.setTop (mkF m 164 #[.val (.long q0), .second, .val (.int q1), .val (.int q2), .val (.int q3), .val (.ref a1), .val (.int (own_n0_52 q1)), .val (.int (own_n0_63 q1 q2)), .val (.int (own_v2_0 f_a1 (own_n0_63 q1 q2) (own_n0_52 q1))), .val (.int j159_L9)] []))
      refine own_go (fun _ => XS.iload X.here hx rfl (hb hby at_164) rfl) ?_
      show own_G p e below s _ _ _ (T.setTop (mkF m 166 #[.val (.long q0), .second, .val (.int q1), .val (.int q2), .val (.int q3), .val (.ref a1), .val (.int (own_n0_52 q1)), .val (.int (own_n0_63 q1 q2)), .val (.int (own_v2_0 f_a1 (own_n0_63 q1 q2) (own_n0_52 q1))), .val (.int j159_L9)] [(.int (own_v2_0 f_a1 (own_n0_63 q1 q2) (own_n0_52 q1)))]))
      refine own_go (fun _ => XS.iload X.here hx rfl (hb hby at_166) rfl) ?_
      show own_G p e below s _ _ _ (T.setTop (mkF m 168 #[.val (.long q0), .second, .val (.int q1), .val (.int q2), .val (.int q3), .val (.ref a1), .val (.int (own_n0_52 q1)), .val (.int (own_n0_63 q1 q2)), .val (.int (own_v2_0 f_a1 (own_n0_63 q1 q2) (own_n0_52 q1))), .val (.int j159_L9)] [(.int (own_n0_63 q1 q2)), (.int (own_v2_0 f_a1 (own_n0_63 q1 q2) (own_n0_52 q1)))]))
      refine own_go (fun _ => XS.iconst X.here hx rfl (hb hby at_168)) ?_
      show own_G p e below s _ _ _ (T.setTop (mkF m 169 #[.val (.long q0), .second, .val (.int q1), .val (.int q2), .val (.int q3), .val (.ref a1), .val (.int (own_n0_52 q1)), .val (.int (own_n0_63 q1 q2)), .val (.int (own_v2_0 f_a1 (own_n0_63 q1 q2) (own_n0_52 q1))), .val (.int j159_L9)] [(.int (2 : Int32)), (.int (own_n0_63 q1 q2)), (.int (own_v2_0 f_a1 (own_n0_63 q1 q2) (own_n0_52 q1)))]))
      refine own_go (fun _ => XS.iadd X.here hx rfl (hb hby at_169) rfl) ?_
      show own_G p e below s _ _ _ (T.setTop (mkF m 170 #[.val (.long q0), .second, .val (.int q1), .val (.int q2), .val (.int q3), .val (.ref a1), .val (.int (own_n0_52 q1)), .val (.int (own_n0_63 q1 q2)), .val (.int (own_v2_0 f_a1 (own_n0_63 q1 q2) (own_n0_52 q1))), .val (.int j159_L9)] [(.int ((own_n0_63 q1 q2) + (2 : Int32))), (.int (own_v2_0 f_a1 (own_n0_63 q1 q2) (own_n0_52 q1)))]))
      by_cases hc170 : (own_v2_0 f_a1 (own_n0_63 q1 q2) (own_n0_52 q1)) = ((own_n0_63 q1 q2) + (2 : Int32))
      · refine own_eqF (if_pos hc170) ?_
        refine own_go (fun _ => XS.icmpNo X.here hx rfl (hb hby at_170) rfl (teq hc170).2) ?_
        show own_G p e below s _ _ _ (T.setTop (mkF m 173 #[.val (.long q0), .second, .val (.int q1), .val (.int q2), .val (.int q3), .val (.ref a1), .val (.int (own_n0_52 q1)), .val (.int (own_n0_63 q1 q2)), .val (.int (own_v2_0 f_a1 (own_n0_63 q1 q2) (own_n0_52 q1))), .val (.int j159_L9)] []))
        refine own_go (fun _ => XS.iconst X.here hx rfl (hb hby at_173)) ?_
        show own_G p e below s _ _ _ (T.setTop (mkF m 174 #[.val (.long q0), .second, .val (.int q1), .val (.int q2), .val (.int q3), .val (.ref a1), .val (.int (own_n0_52 q1)), .val (.int (own_n0_63 q1 q2)), .val (.int (own_v2_0 f_a1 (own_n0_63 q1 q2) (own_n0_52 q1))), .val (.int j159_L9)] [(.int (1 : Int32))]))
        refine own_go (fun _ => XS.goto X.here hx rfl (pc0 := 174) (pc' := 178) rfl (hb hby at_174) (by decide) (by decide)) ?_
        exact b178 T h Lc X eT N f_a1 A_a1 j159_L9 (1 : Int32)
      · refine own_eqF (if_neg hc170) ?_
        refine own_go (fun _ => XS.icmpYes X.here hx rfl (pc0 := 170) (pc' := 177) rfl (hb hby at_170) rfl (feq hc170).2 (by decide) (by decide)) ?_
        show own_G p e below s _ _ _ (T.setTop (mkF m 177 #[.val (.long q0), .second, .val (.int q1), .val (.int q2), .val (.int q3), .val (.ref a1), .val (.int (own_n0_52 q1)), .val (.int (own_n0_63 q1 q2)), .val (.int (own_v2_0 f_a1 (own_n0_63 q1 q2) (own_n0_52 q1))), .val (.int j159_L9)] []))
        refine own_go (fun _ => XS.iconst X.here hx rfl (hb hby at_177)) ?_
        exact b178 T h Lc X eT N f_a1 A_a1 j159_L9 (0 : Int32)
  have b121 : ∀ (T : State) (h : Heap) (Lc : List Loc), Stand p l e room_1 s m #[(.long q0), (.int q1), (.int q2), (.int q3)] below meth c T Lc (0 + 1) (0 + 4) → T.heap = h → Fr n0 Lc → ∀ (f_a1 : Int32 → Int32), own_A Z h a1 .char (4 : Int32) f_a1 → ∀ (j121_S0 : Int32), own_G p e below s (own_QF (some (.int (own_v0_121 f_a1 q0 q1 q2 q3 j121_S0))) n0) room_1.cells room_1.slots (T.setTop (mkF m 121 #[.val (.long q0), .second, .val (.int q1), .val (.int q2), .val (.int q3), .val (.ref a1), .val (.int (own_n0_52 q1)), .val (.int (own_n0_63 q1 q2)), .val (.int (own_v2_0 f_a1 (own_n0_63 q1 q2) (own_n0_52 q1))), .unset] [(.int j121_S0)])) := by
    intro T h Lc X eT N f_a1 A_a1 j121_S0
    show own_G p e below s (own_QF (some (.int (nar .boolean j121_S0))) n0) room_1.cells room_1.slots (T.setTop (mkF m 121 #[.val (.long q0), .second, .val (.int q1), .val (.int q2), .val (.int q3), .val (.ref a1), .val (.int (own_n0_52 q1)), .val (.int (own_n0_63 q1 q2)), .val (.int (own_v2_0 f_a1 (own_n0_63 q1 q2) (own_n0_52 q1))), .unset] [(.int j121_S0)]))
    exact own_retN X hx hlk (t := .boolean) Bd.returns (by simp) (hb hby at_121) (by decide) (by decide) ⟨rfl, N⟩
  have b91 : ∀ (T : State) (h : Heap) (Lc : List Loc), Stand p l e room_1 s m #[(.long q0), (.int q1), (.int q2), (.int q3)] below meth c T Lc (0 + 1) (0 + 4) → T.heap = h → Fr n0 Lc → ∀ (f_a1 : Int32 → Int32), own_A Z h a1 .char (4 : Int32) f_a1 → own_G p e below s (own_QF (some (.int (own_v0_91 f_a1 q0 q1 q2 q3))) n0) room_1.cells room_1.slots (T.setTop (mkF m 91 #[.val (.long q0), .second, .val (.int q1), .val (.int q2), .val (.int q3), .val (.ref a1), .val (.int (own_n0_52 q1)), .val (.int (own_n0_63 q1 q2)), .unset, .unset] [])) := by
    intro T h Lc X eT N f_a1 A_a1
    show own_G p e below s (own_QF (some (.int (if (own_n0_63 q1 q2) = (own_n0_52 q1) then (if (own_n0_52 q1) < (own_v2_0 f_a1 (own_n0_63 q1 q2) (own_n0_52 q1)) then (own_v0_121 f_a1 q0 q1 q2 q3 (1 : Int32)) else (own_v0_121 f_a1 q0 q1 q2 q3 (0 : Int32))) else (if (f_a1 (own_n0_63 q1 q2)) = (13 : Int32) then (if ((own_n0_63 q1 q2) + (1 : Int32)) < (own_n0_52 q1) then (if (f_a1 ((own_n0_63 q1 q2) + (1 : Int32))) = (10 : Int32) then (own_v0_159 f_a1 q0 q1 q2 q3 (1 : Int32)) else (own_v0_159 f_a1 q0 q1 q2 q3 (0 : Int32))) else (own_v0_159 f_a1 q0 q1 q2 q3 (0 : Int32))) else (own_v0_159 f_a1 q0 q1 q2 q3 (0 : Int32)))))) n0) room_1.cells room_1.slots (T.setTop (mkF m 91 #[.val (.long q0), .second, .val (.int q1), .val (.int q2), .val (.int q3), .val (.ref a1), .val (.int (own_n0_52 q1)), .val (.int (own_n0_63 q1 q2)), .unset, .unset] []))
    refine own_go (fun _ => XS.aload X.here hx rfl (hb hby at_91) rfl rfl) ?_
    show own_G p e below s _ _ _ (T.setTop (mkF m 93 #[.val (.long q0), .second, .val (.int q1), .val (.int q2), .val (.int q3), .val (.ref a1), .val (.int (own_n0_52 q1)), .val (.int (own_n0_63 q1 q2)), .unset, .unset] [(.ref a1)]))
    refine own_go (fun _ => XS.iload X.here hx rfl (hb hby at_93) rfl) ?_
    show own_G p e below s _ _ _ (T.setTop (mkF m 95 #[.val (.long q0), .second, .val (.int q1), .val (.int q2), .val (.int q3), .val (.ref a1), .val (.int (own_n0_52 q1)), .val (.int (own_n0_63 q1 q2)), .unset, .unset] [(.int (own_n0_63 q1 q2)), (.ref a1)]))
    refine own_go (fun _ => XS.iload X.here hx rfl (hb hby at_95) rfl) ?_
    show own_G p e below s _ _ _ (T.setTop (mkF m 97 #[.val (.long q0), .second, .val (.int q1), .val (.int q2), .val (.int q3), .val (.ref a1), .val (.int (own_n0_52 q1)), .val (.int (own_n0_63 q1 q2)), .unset, .unset] [(.int (own_n0_52 q1)), (.int (own_n0_63 q1 q2)), (.ref a1)]))
    obtain ⟨T10, X10, e10, st10⟩ := own_call X hx hZ hown (hw _ (List.mem_of_getElem? (i := 7) rfl)) (hw _ (List.mem_of_getElem? (i := 8) rfl)) (hw _ (List.mem_of_getElem? (i := 9) rfl)) (hw _ (List.mem_of_getElem? (i := 10) rfl)) (by decide) (rm2 l Z a0 hw [] a1 (own_n0_63 q1 q2) (own_n0_52 q1) h _ A_a1 (own_e0 q1 q2) (own_e4 q1 q2) (own_len4 q1)) rfl rfl eT (W := 0) (by decide) (by decide) (by decide) (by decide) (g := (mkF m 97 #[.val (.long q0), .second, .val (.int q1), .val (.int q2), .val (.int q3), .val (.ref a1), .val (.int (own_n0_52 q1)), .val (.int (own_n0_63 q1 q2)), .unset, .unset] [(.int (own_n0_52 q1)), (.int (own_n0_63 q1 q2)), (.ref a1)])) rfl (by rw [hml]; rfl) (argsL := [(.ref a1), (.int (own_n0_63 q1 q2)), (.int (own_n0_52 q1))]) (rest := []) (lenOf (by decide +kernel : parseMethodDescriptor "([CII)I" = some ⟨[(.array .char), .int, .int], some .int⟩) rfl) rfl rfl (by show 2 * 0 + _ ≤ _; exact Nat.le_of_eq rfl) (hb hby at_97)
    refine own_go (fun _ => st10 _) ?_
    show own_G p e below s _ _ _ (T10.setTop (mkF m 100 #[.val (.long q0), .second, .val (.int q1), .val (.int q2), .val (.int q3), .val (.ref a1), .val (.int (own_n0_52 q1)), .val (.int (own_n0_63 q1 q2)), .unset, .unset] [(.int (own_v2_0 f_a1 (own_n0_63 q1 q2) (own_n0_52 q1)))]))
    refine own_go (fun _ => XS.istore X10.here hx rfl (hb hby at_100) rfl (l' := #[.val (.long q0), .second, .val (.int q1), .val (.int q2), .val (.int q3), .val (.ref a1), .val (.int (own_n0_52 q1)), .val (.int (own_n0_63 q1 q2)), .val (.int (own_v2_0 f_a1 (own_n0_63 q1 q2) (own_n0_52 q1))), .unset]) rfl) ?_
    show own_G p e below s _ _ _ (T10.setTop (mkF m 102 #[.val (.long q0), .second, .val (.int q1), .val (.int q2), .val (.int q3), .val (.ref a1), .val (.int (own_n0_52 q1)), .val (.int (own_n0_63 q1 q2)), .val (.int (own_v2_0 f_a1 (own_n0_63 q1 q2) (own_n0_52 q1))), .unset] []))
    refine own_go (fun _ => XS.iload X10.here hx rfl (hb hby at_102) rfl) ?_
    show own_G p e below s _ _ _ (T10.setTop (mkF m 104 #[.val (.long q0), .second, .val (.int q1), .val (.int q2), .val (.int q3), .val (.ref a1), .val (.int (own_n0_52 q1)), .val (.int (own_n0_63 q1 q2)), .val (.int (own_v2_0 f_a1 (own_n0_63 q1 q2) (own_n0_52 q1))), .unset] [(.int (own_n0_63 q1 q2))]))
    refine own_go (fun _ => XS.iload X10.here hx rfl (hb hby at_104) rfl) ?_
    show own_G p e below s _ _ _ (T10.setTop (mkF m 106 #[.val (.long q0), .second, .val (.int q1), .val (.int q2), .val (.int q3), .val (.ref a1), .val (.int (own_n0_52 q1)), .val (.int (own_n0_63 q1 q2)), .val (.int (own_v2_0 f_a1 (own_n0_63 q1 q2) (own_n0_52 q1))), .unset] [(.int (own_n0_52 q1)), (.int (own_n0_63 q1 q2))]))
    by_cases hc106 : (own_n0_63 q1 q2) = (own_n0_52 q1)
    · refine own_eqF (if_pos hc106) ?_
      refine own_go (fun _ => XS.icmpNo X10.here hx rfl (hb hby at_106) rfl (teq hc106).2) ?_
      show own_G p e below s _ _ _ (T10.setTop (mkF m 109 #[.val (.long q0), .second, .val (.int q1), .val (.int q2), .val (.int q3), .val (.ref a1), .val (.int (own_n0_52 q1)), .val (.int (own_n0_63 q1 q2)), .val (.int (own_v2_0 f_a1 (own_n0_63 q1 q2) (own_n0_52 q1))), .unset] []))
      refine own_go (fun _ => XS.iload X10.here hx rfl (hb hby at_109) rfl) ?_
      show own_G p e below s _ _ _ (T10.setTop (mkF m 111 #[.val (.long q0), .second, .val (.int q1), .val (.int q2), .val (.int q3), .val (.ref a1), .val (.int (own_n0_52 q1)), .val (.int (own_n0_63 q1 q2)), .val (.int (own_v2_0 f_a1 (own_n0_63 q1 q2) (own_n0_52 q1))), .unset] [(.int (own_v2_0 f_a1 (own_n0_63 q1 q2) (own_n0_52 q1)))]))
      refine own_go (fun _ => XS.iload X10.here hx rfl (hb hby at_111) rfl) ?_
      show own_G p e below s _ _ _ (T10.setTop (mkF m 113 #[.val (.long q0), .second, .val (.int q1), .val (.int q2), .val (.int q3), .val (.ref a1), .val (.int (own_n0_52 q1)), .val (.int (own_n0_63 q1 q2)), .val (.int (own_v2_0 f_a1 (own_n0_63 q1 q2) (own_n0_52 q1))), .unset] [(.int (own_n0_52 q1)), (.int (own_v2_0 f_a1 (own_n0_63 q1 q2) (own_n0_52 q1)))]))
      by_cases hc113 : (own_n0_52 q1) < (own_v2_0 f_a1 (own_n0_63 q1 q2) (own_n0_52 q1))
      · refine own_eqF (if_pos hc113) ?_
        refine own_go (fun _ => XS.icmpNo X10.here hx rfl (hb hby at_113) rfl (tlt hc113).2.2.2) ?_
        show own_G p e below s _ _ _ (T10.setTop (mkF m 116 #[.val (.long q0), .second, .val (.int q1), .val (.int q2), .val (.int q3), .val (.ref a1), .val (.int (own_n0_52 q1)), .val (.int (own_n0_63 q1 q2)), .val (.int (own_v2_0 f_a1 (own_n0_63 q1 q2) (own_n0_52 q1))), .unset] []))
        refine own_go (fun _ => XS.iconst X10.here hx rfl (hb hby at_116)) ?_
        show own_G p e below s _ _ _ (T10.setTop (mkF m 117 #[.val (.long q0), .second, .val (.int q1), .val (.int q2), .val (.int q3), .val (.ref a1), .val (.int (own_n0_52 q1)), .val (.int (own_n0_63 q1 q2)), .val (.int (own_v2_0 f_a1 (own_n0_63 q1 q2) (own_n0_52 q1))), .unset] [(.int (1 : Int32))]))
        refine own_go (fun _ => XS.goto X10.here hx rfl (pc0 := 117) (pc' := 121) rfl (hb hby at_117) (by decide) (by decide)) ?_
        exact b121 T10 h Lc X10 e10 N f_a1 A_a1 (1 : Int32)
      · refine own_eqF (if_neg hc113) ?_
        refine own_go (fun _ => XS.icmpYes X10.here hx rfl (pc0 := 113) (pc' := 120) rfl (hb hby at_113) rfl (flt hc113).2.2.2 (by decide) (by decide)) ?_
        show own_G p e below s _ _ _ (T10.setTop (mkF m 120 #[.val (.long q0), .second, .val (.int q1), .val (.int q2), .val (.int q3), .val (.ref a1), .val (.int (own_n0_52 q1)), .val (.int (own_n0_63 q1 q2)), .val (.int (own_v2_0 f_a1 (own_n0_63 q1 q2) (own_n0_52 q1))), .unset] []))
        refine own_go (fun _ => XS.iconst X10.here hx rfl (hb hby at_120)) ?_
        exact b121 T10 h Lc X10 e10 N f_a1 A_a1 (0 : Int32)
    · refine own_eqF (if_neg hc106) ?_
      refine own_go (fun _ => XS.icmpYes X10.here hx rfl (pc0 := 106) (pc' := 122) rfl (hb hby at_106) rfl (feq hc106).2 (by decide) (by decide)) ?_
      show own_G p e below s _ _ _ (T10.setTop (mkF m 122 #[.val (.long q0), .second, .val (.int q1), .val (.int q2), .val (.int q3), .val (.ref a1), .val (.int (own_n0_52 q1)), .val (.int (own_n0_63 q1 q2)), .val (.int (own_v2_0 f_a1 (own_n0_63 q1 q2) (own_n0_52 q1))), .unset] []))
      refine own_go (fun _ => XS.iconst X10.here hx rfl (hb hby at_122)) ?_
      show own_G p e below s _ _ _ (T10.setTop (mkF m 123 #[.val (.long q0), .second, .val (.int q1), .val (.int q2), .val (.int q3), .val (.ref a1), .val (.int (own_n0_52 q1)), .val (.int (own_n0_63 q1 q2)), .val (.int (own_v2_0 f_a1 (own_n0_63 q1 q2) (own_n0_52 q1))), .unset] [(.int (0 : Int32))]))
      refine own_go (fun _ => XS.istore X10.here hx rfl (hb hby at_123) rfl (l' := #[.val (.long q0), .second, .val (.int q1), .val (.int q2), .val (.int q3), .val (.ref a1), .val (.int (own_n0_52 q1)), .val (.int (own_n0_63 q1 q2)), .val (.int (own_v2_0 f_a1 (own_n0_63 q1 q2) (own_n0_52 q1))), .val (.int (0 : Int32))]) rfl) ?_
      show own_G p e below s _ _ _ (T10.setTop (mkF m 125 #[.val (.long q0), .second, .val (.int q1), .val (.int q2), .val (.int q3), .val (.ref a1), .val (.int (own_n0_52 q1)), .val (.int (own_n0_63 q1 q2)), .val (.int (own_v2_0 f_a1 (own_n0_63 q1 q2) (own_n0_52 q1))), .val (.int (0 : Int32))] []))
      refine own_go (fun _ => XS.aload X10.here hx rfl (hb hby at_125) rfl rfl) ?_
      show own_G p e below s _ _ _ (T10.setTop (mkF m 127 #[.val (.long q0), .second, .val (.int q1), .val (.int q2), .val (.int q3), .val (.ref a1), .val (.int (own_n0_52 q1)), .val (.int (own_n0_63 q1 q2)), .val (.int (own_v2_0 f_a1 (own_n0_63 q1 q2) (own_n0_52 q1))), .val (.int (0 : Int32))] [(.ref a1)]))
      refine own_go (fun _ => XS.iload X10.here hx rfl (hb hby at_127) rfl) ?_
      show own_G p e below s _ _ _ (T10.setTop (mkF m 129 #[.val (.long q0), .second, .val (.int q1), .val (.int q2), .val (.int q3), .val (.ref a1), .val (.int (own_n0_52 q1)), .val (.int (own_n0_63 q1 q2)), .val (.int (own_v2_0 f_a1 (own_n0_63 q1 q2) (own_n0_52 q1))), .val (.int (0 : Int32))] [(.int (own_n0_63 q1 q2)), (.ref a1)]))
      refine own_go (fun _ => own_ldC X10 hx hZ e10 A_a1 (own_e0 q1 q2) (own_ene q1 q2 hc106) (g := (mkF m 129 #[.val (.long q0), .second, .val (.int q1), .val (.int q2), .val (.int q3), .val (.ref a1), .val (.int (own_n0_52 q1)), .val (.int (own_n0_63 q1 q2)), .val (.int (own_v2_0 f_a1 (own_n0_63 q1 q2) (own_n0_52 q1))), .val (.int (0 : Int32))] [(.int (own_n0_63 q1 q2)), (.ref a1)])) rfl rfl (hb hby at_129) _) ?_
      show own_G p e below s _ _ _ (T10.setTop (mkF m 130 #[.val (.long q0), .second, .val (.int q1), .val (.int q2), .val (.int q3), .val (.ref a1), .val (.int (own_n0_52 q1)), .val (.int (own_n0_63 q1 q2)), .val (.int (own_v2_0 f_a1 (own_n0_63 q1 q2) (own_n0_52 q1))), .val (.int (0 : Int32))] [(.int (f_a1 (own_n0_63 q1 q2)))]))
      refine own_go (fun _ => XS.bipush X10.here hx rfl (hb hby at_130)) ?_
      show own_G p e below s _ _ _ (T10.setTop (mkF m 132 #[.val (.long q0), .second, .val (.int q1), .val (.int q2), .val (.int q3), .val (.ref a1), .val (.int (own_n0_52 q1)), .val (.int (own_n0_63 q1 q2)), .val (.int (own_v2_0 f_a1 (own_n0_63 q1 q2) (own_n0_52 q1))), .val (.int (0 : Int32))] [(.int (13 : Int32)), (.int (f_a1 (own_n0_63 q1 q2)))]))
      by_cases hc132 : (f_a1 (own_n0_63 q1 q2)) = (13 : Int32)
      · refine own_eqF (if_pos hc132) ?_
        refine own_go (fun _ => XS.icmpNo X10.here hx rfl (hb hby at_132) rfl (teq hc132).2) ?_
        show own_G p e below s _ _ _ (T10.setTop (mkF m 135 #[.val (.long q0), .second, .val (.int q1), .val (.int q2), .val (.int q3), .val (.ref a1), .val (.int (own_n0_52 q1)), .val (.int (own_n0_63 q1 q2)), .val (.int (own_v2_0 f_a1 (own_n0_63 q1 q2) (own_n0_52 q1))), .val (.int (0 : Int32))] []))
        refine own_go (fun _ => XS.iload X10.here hx rfl (hb hby at_135) rfl) ?_
        show own_G p e below s _ _ _ (T10.setTop (mkF m 137 #[.val (.long q0), .second, .val (.int q1), .val (.int q2), .val (.int q3), .val (.ref a1), .val (.int (own_n0_52 q1)), .val (.int (own_n0_63 q1 q2)), .val (.int (own_v2_0 f_a1 (own_n0_63 q1 q2) (own_n0_52 q1))), .val (.int (0 : Int32))] [(.int (own_n0_63 q1 q2))]))
        refine own_go (fun _ => XS.iconst X10.here hx rfl (hb hby at_137)) ?_
        show own_G p e below s _ _ _ (T10.setTop (mkF m 138 #[.val (.long q0), .second, .val (.int q1), .val (.int q2), .val (.int q3), .val (.ref a1), .val (.int (own_n0_52 q1)), .val (.int (own_n0_63 q1 q2)), .val (.int (own_v2_0 f_a1 (own_n0_63 q1 q2) (own_n0_52 q1))), .val (.int (0 : Int32))] [(.int (1 : Int32)), (.int (own_n0_63 q1 q2))]))
        refine own_go (fun _ => XS.iadd X10.here hx rfl (hb hby at_138) rfl) ?_
        show own_G p e below s _ _ _ (T10.setTop (mkF m 139 #[.val (.long q0), .second, .val (.int q1), .val (.int q2), .val (.int q3), .val (.ref a1), .val (.int (own_n0_52 q1)), .val (.int (own_n0_63 q1 q2)), .val (.int (own_v2_0 f_a1 (own_n0_63 q1 q2) (own_n0_52 q1))), .val (.int (0 : Int32))] [(.int ((own_n0_63 q1 q2) + (1 : Int32)))]))
        refine own_go (fun _ => XS.iload X10.here hx rfl (hb hby at_139) rfl) ?_
        show own_G p e below s _ _ _ (T10.setTop (mkF m 141 #[.val (.long q0), .second, .val (.int q1), .val (.int q2), .val (.int q3), .val (.ref a1), .val (.int (own_n0_52 q1)), .val (.int (own_n0_63 q1 q2)), .val (.int (own_v2_0 f_a1 (own_n0_63 q1 q2) (own_n0_52 q1))), .val (.int (0 : Int32))] [(.int (own_n0_52 q1)), (.int ((own_n0_63 q1 q2) + (1 : Int32)))]))
        by_cases hc141 : ((own_n0_63 q1 q2) + (1 : Int32)) < (own_n0_52 q1)
        · refine own_eqF (if_pos hc141) ?_
          refine own_go (fun _ => XS.icmpNo X10.here hx rfl (hb hby at_141) rfl (tlt hc141).2.1) ?_
          show own_G p e below s _ _ _ (T10.setTop (mkF m 144 #[.val (.long q0), .second, .val (.int q1), .val (.int q2), .val (.int q3), .val (.ref a1), .val (.int (own_n0_52 q1)), .val (.int (own_n0_63 q1 q2)), .val (.int (own_v2_0 f_a1 (own_n0_63 q1 q2) (own_n0_52 q1))), .val (.int (0 : Int32))] []))
          refine own_go (fun _ => XS.aload X10.here hx rfl (hb hby at_144) rfl rfl) ?_
          show own_G p e below s _ _ _ (T10.setTop (mkF m 146 #[.val (.long q0), .second, .val (.int q1), .val (.int q2), .val (.int q3), .val (.ref a1), .val (.int (own_n0_52 q1)), .val (.int (own_n0_63 q1 q2)), .val (.int (own_v2_0 f_a1 (own_n0_63 q1 q2) (own_n0_52 q1))), .val (.int (0 : Int32))] [(.ref a1)]))
          refine own_go (fun _ => XS.iload X10.here hx rfl (hb hby at_146) rfl) ?_
          show own_G p e below s _ _ _ (T10.setTop (mkF m 148 #[.val (.long q0), .second, .val (.int q1), .val (.int q2), .val (.int q3), .val (.ref a1), .val (.int (own_n0_52 q1)), .val (.int (own_n0_63 q1 q2)), .val (.int (own_v2_0 f_a1 (own_n0_63 q1 q2) (own_n0_52 q1))), .val (.int (0 : Int32))] [(.int (own_n0_63 q1 q2)), (.ref a1)]))
          refine own_go (fun _ => XS.iconst X10.here hx rfl (hb hby at_148)) ?_
          show own_G p e below s _ _ _ (T10.setTop (mkF m 149 #[.val (.long q0), .second, .val (.int q1), .val (.int q2), .val (.int q3), .val (.ref a1), .val (.int (own_n0_52 q1)), .val (.int (own_n0_63 q1 q2)), .val (.int (own_v2_0 f_a1 (own_n0_63 q1 q2) (own_n0_52 q1))), .val (.int (0 : Int32))] [(.int (1 : Int32)), (.int (own_n0_63 q1 q2)), (.ref a1)]))
          refine own_go (fun _ => XS.iadd X10.here hx rfl (hb hby at_149) rfl) ?_
          show own_G p e below s _ _ _ (T10.setTop (mkF m 150 #[.val (.long q0), .second, .val (.int q1), .val (.int q2), .val (.int q3), .val (.ref a1), .val (.int (own_n0_52 q1)), .val (.int (own_n0_63 q1 q2)), .val (.int (own_v2_0 f_a1 (own_n0_63 q1 q2) (own_n0_52 q1))), .val (.int (0 : Int32))] [(.int ((own_n0_63 q1 q2) + (1 : Int32))), (.ref a1)]))
          refine own_go (fun _ => own_ldC X10 hx hZ e10 A_a1 (own_r1 (n := own_n0_52 q1) (own_e0 q1 q2) (own_e4 q1 q2)) (own_r2 (own_len4 q1) hc141) (g := (mkF m 150 #[.val (.long q0), .second, .val (.int q1), .val (.int q2), .val (.int q3), .val (.ref a1), .val (.int (own_n0_52 q1)), .val (.int (own_n0_63 q1 q2)), .val (.int (own_v2_0 f_a1 (own_n0_63 q1 q2) (own_n0_52 q1))), .val (.int (0 : Int32))] [(.int ((own_n0_63 q1 q2) + (1 : Int32))), (.ref a1)])) rfl rfl (hb hby at_150) _) ?_
          show own_G p e below s _ _ _ (T10.setTop (mkF m 151 #[.val (.long q0), .second, .val (.int q1), .val (.int q2), .val (.int q3), .val (.ref a1), .val (.int (own_n0_52 q1)), .val (.int (own_n0_63 q1 q2)), .val (.int (own_v2_0 f_a1 (own_n0_63 q1 q2) (own_n0_52 q1))), .val (.int (0 : Int32))] [(.int (f_a1 ((own_n0_63 q1 q2) + (1 : Int32))))]))
          refine own_go (fun _ => XS.bipush X10.here hx rfl (hb hby at_151)) ?_
          show own_G p e below s _ _ _ (T10.setTop (mkF m 153 #[.val (.long q0), .second, .val (.int q1), .val (.int q2), .val (.int q3), .val (.ref a1), .val (.int (own_n0_52 q1)), .val (.int (own_n0_63 q1 q2)), .val (.int (own_v2_0 f_a1 (own_n0_63 q1 q2) (own_n0_52 q1))), .val (.int (0 : Int32))] [(.int (10 : Int32)), (.int (f_a1 ((own_n0_63 q1 q2) + (1 : Int32))))]))
          by_cases hc153 : (f_a1 ((own_n0_63 q1 q2) + (1 : Int32))) = (10 : Int32)
          · refine own_eqF (if_pos hc153) ?_
            refine own_go (fun _ => XS.icmpNo X10.here hx rfl (hb hby at_153) rfl (teq hc153).2) ?_
            show own_G p e below s _ _ _ (T10.setTop (mkF m 156 #[.val (.long q0), .second, .val (.int q1), .val (.int q2), .val (.int q3), .val (.ref a1), .val (.int (own_n0_52 q1)), .val (.int (own_n0_63 q1 q2)), .val (.int (own_v2_0 f_a1 (own_n0_63 q1 q2) (own_n0_52 q1))), .val (.int (0 : Int32))] []))
            refine own_go (fun _ => XS.iconst X10.here hx rfl (hb hby at_156)) ?_
            show own_G p e below s _ _ _ (T10.setTop (mkF m 157 #[.val (.long q0), .second, .val (.int q1), .val (.int q2), .val (.int q3), .val (.ref a1), .val (.int (own_n0_52 q1)), .val (.int (own_n0_63 q1 q2)), .val (.int (own_v2_0 f_a1 (own_n0_63 q1 q2) (own_n0_52 q1))), .val (.int (0 : Int32))] [(.int (1 : Int32))]))
            refine own_go (fun _ => XS.istore X10.here hx rfl (hb hby at_157) rfl (l' := #[.val (.long q0), .second, .val (.int q1), .val (.int q2), .val (.int q3), .val (.ref a1), .val (.int (own_n0_52 q1)), .val (.int (own_n0_63 q1 q2)), .val (.int (own_v2_0 f_a1 (own_n0_63 q1 q2) (own_n0_52 q1))), .val (.int (1 : Int32))]) rfl) ?_
            exact b159 T10 h Lc X10 e10 N f_a1 A_a1 (1 : Int32)
          · refine own_eqF (if_neg hc153) ?_
            refine own_go (fun _ => XS.icmpYes X10.here hx rfl (pc0 := 153) (pc' := 159) rfl (hb hby at_153) rfl (feq hc153).2 (by decide) (by decide)) ?_
            exact b159 T10 h Lc X10 e10 N f_a1 A_a1 (0 : Int32)
        · refine own_eqF (if_neg hc141) ?_
          refine own_go (fun _ => XS.icmpYes X10.here hx rfl (pc0 := 141) (pc' := 159) rfl (hb hby at_141) rfl (flt hc141).2.1 (by decide) (by decide)) ?_
          exact b159 T10 h Lc X10 e10 N f_a1 A_a1 (0 : Int32)
      · refine own_eqF (if_neg hc132) ?_
        refine own_go (fun _ => XS.icmpYes X10.here hx rfl (pc0 := 132) (pc' := 159) rfl (hb hby at_132) rfl (feq hc132).2 (by decide) (by decide)) ?_
        exact b159 T10 h Lc X10 e10 N f_a1 A_a1 (0 : Int32)
  have b90 : ∀ (T : State) (h : Heap) (Lc : List Loc), Stand p l e room_1 s m #[(.long q0), (.int q1), (.int q2), (.int q3)] below meth c T Lc (0 + 1) (0 + 4) → T.heap = h → Fr n0 Lc → ∀ (f_a1 : Int32 → Int32), own_A Z h a1 .char (4 : Int32) f_a1 → ∀ (j90_S0 : Int32), (own_n0_63 q1 q2) < (own_n0_52 q1) → own_G p e below s (own_QF (some (.int (own_v0_90 f_a1 q0 q1 q2 q3 j90_S0))) n0) room_1.cells room_1.slots (T.setTop (mkF m 90 #[.val (.long q0), .second, .val (.int q1), .val (.int q2), .val (.int q3), .val (.ref a1), .val (.int (own_n0_52 q1)), .val (.int (own_n0_63 q1 q2)), .unset, .unset] [(.int j90_S0), (.int (own_n0_63 q1 q2)), (.ref a1)])) := by
    intro T h Lc X eT N f_a1 A_a1 j90_S0 hlt
    show own_G p e below s (own_QF (some (.int (own_v0_91 (own_set f_a1 (own_n0_63 q1 q2) (nar .char j90_S0)) q0 q1 q2 q3))) n0) room_1.cells room_1.slots (T.setTop (mkF m 90 #[.val (.long q0), .second, .val (.int q1), .val (.int q2), .val (.int q3), .val (.ref a1), .val (.int (own_n0_52 q1)), .val (.int (own_n0_63 q1 q2)), .unset, .unset] [(.int j90_S0), (.int (own_n0_63 q1 q2)), (.ref a1)]))
    obtain ⟨T10, h10, L10, X10, e10, N10, A10, W10, st10⟩ := own_stC X hx hZ eT A_a1 N g1 (own_e0 q1 q2) (own_elt q1 hlt) (g := (mkF m 90 #[.val (.long q0), .second, .val (.int q1), .val (.int q2), .val (.int q3), .val (.ref a1), .val (.int (own_n0_52 q1)), .val (.int (own_n0_63 q1 q2)), .unset, .unset] [(.int j90_S0), (.int (own_n0_63 q1 q2)), (.ref a1)])) rfl rfl (hb hby at_90)
    refine own_go (fun _ => st10 _) ?_
    exact b91 T10 h10 L10 X10 e10 N10 (own_set f_a1 (own_n0_63 q1 q2) (nar .char j90_S0)) A10
  show own_G p e below s (own_QF (some (.int (if (own_n0_63 q1 q2) < (own_n0_52 q1) then (if (q3 &&& (1 : Int32)) = (0 : Int32) then (own_v0_90 (own_n0_f q0) q0 q1 q2 q3 (13 : Int32)) else (own_v0_90 (own_n0_f q0) q0 q1 q2 q3 (10 : Int32))) else (own_v0_91 (own_n0_f q0) q0 q1 q2 q3)))) n0) room_1.cells room_1.slots (T9.setTop (mkF m 65 #[.val (.long q0), .second, .val (.int q1), .val (.int q2), .val (.int q3), .val (.ref a1), .val (.int (own_n0_52 q1)), .val (.int (own_n0_63 q1 q2)), .unset, .unset] []))
  refine own_go (fun _ => XS.iload X9.here hx rfl (hb hby at_65) rfl) ?_
  show own_G p e below s _ _ _ (T9.setTop (mkF m 67 #[.val (.long q0), .second, .val (.int q1), .val (.int q2), .val (.int q3), .val (.ref a1), .val (.int (own_n0_52 q1)), .val (.int (own_n0_63 q1 q2)), .unset, .unset] [(.int (own_n0_63 q1 q2))]))
  refine own_go (fun _ => XS.iload X9.here hx rfl (hb hby at_67) rfl) ?_
  show own_G p e below s _ _ _ (T9.setTop (mkF m 69 #[.val (.long q0), .second, .val (.int q1), .val (.int q2), .val (.int q3), .val (.ref a1), .val (.int (own_n0_52 q1)), .val (.int (own_n0_63 q1 q2)), .unset, .unset] [(.int (own_n0_52 q1)), (.int (own_n0_63 q1 q2))]))
  by_cases hc69 : (own_n0_63 q1 q2) < (own_n0_52 q1)
  · refine own_eqF (if_pos hc69) ?_
    refine own_go (fun _ => XS.icmpNo X9.here hx rfl (hb hby at_69) rfl (tlt hc69).2.1) ?_
    show own_G p e below s _ _ _ (T9.setTop (mkF m 72 #[.val (.long q0), .second, .val (.int q1), .val (.int q2), .val (.int q3), .val (.ref a1), .val (.int (own_n0_52 q1)), .val (.int (own_n0_63 q1 q2)), .unset, .unset] []))
    refine own_go (fun _ => XS.aload X9.here hx rfl (hb hby at_72) rfl rfl) ?_
    show own_G p e below s _ _ _ (T9.setTop (mkF m 74 #[.val (.long q0), .second, .val (.int q1), .val (.int q2), .val (.int q3), .val (.ref a1), .val (.int (own_n0_52 q1)), .val (.int (own_n0_63 q1 q2)), .unset, .unset] [(.ref a1)]))
    refine own_go (fun _ => XS.iload X9.here hx rfl (hb hby at_74) rfl) ?_
    show own_G p e below s _ _ _ (T9.setTop (mkF m 76 #[.val (.long q0), .second, .val (.int q1), .val (.int q2), .val (.int q3), .val (.ref a1), .val (.int (own_n0_52 q1)), .val (.int (own_n0_63 q1 q2)), .unset, .unset] [(.int (own_n0_63 q1 q2)), (.ref a1)]))
    refine own_go (fun _ => XS.iload X9.here hx rfl (hb hby at_76) rfl) ?_
    show own_G p e below s _ _ _ (T9.setTop (mkF m 78 #[.val (.long q0), .second, .val (.int q1), .val (.int q2), .val (.int q3), .val (.ref a1), .val (.int (own_n0_52 q1)), .val (.int (own_n0_63 q1 q2)), .unset, .unset] [(.int q3), (.int (own_n0_63 q1 q2)), (.ref a1)]))
    refine own_go (fun _ => XS.iconst X9.here hx rfl (hb hby at_78)) ?_
    show own_G p e below s _ _ _ (T9.setTop (mkF m 79 #[.val (.long q0), .second, .val (.int q1), .val (.int q2), .val (.int q3), .val (.ref a1), .val (.int (own_n0_52 q1)), .val (.int (own_n0_63 q1 q2)), .unset, .unset] [(.int (1 : Int32)), (.int q3), (.int (own_n0_63 q1 q2)), (.ref a1)]))
    refine own_go (fun _ => XS.iand X9.here hx rfl (hb hby at_79) rfl) ?_
    show own_G p e below s _ _ _ (T9.setTop (mkF m 80 #[.val (.long q0), .second, .val (.int q1), .val (.int q2), .val (.int q3), .val (.ref a1), .val (.int (own_n0_52 q1)), .val (.int (own_n0_63 q1 q2)), .unset, .unset] [(.int (q3 &&& (1 : Int32))), (.int (own_n0_63 q1 q2)), (.ref a1)]))
    by_cases hc80 : (q3 &&& (1 : Int32)) = (0 : Int32)
    · refine own_eqF (if_pos hc80) ?_
      refine own_go (fun _ => XS.ifNo X9.here hx rfl (hb hby at_80) rfl ((if0 _ _).trans (teq hc80).2)) ?_
      show own_G p e below s _ _ _ (T9.setTop (mkF m 83 #[.val (.long q0), .second, .val (.int q1), .val (.int q2), .val (.int q3), .val (.ref a1), .val (.int (own_n0_52 q1)), .val (.int (own_n0_63 q1 q2)), .unset, .unset] [(.int (own_n0_63 q1 q2)), (.ref a1)]))
      refine own_go (fun _ => XS.bipush X9.here hx rfl (hb hby at_83)) ?_
      show own_G p e below s _ _ _ (T9.setTop (mkF m 85 #[.val (.long q0), .second, .val (.int q1), .val (.int q2), .val (.int q3), .val (.ref a1), .val (.int (own_n0_52 q1)), .val (.int (own_n0_63 q1 q2)), .unset, .unset] [(.int (13 : Int32)), (.int (own_n0_63 q1 q2)), (.ref a1)]))
      refine own_go (fun _ => XS.goto X9.here hx rfl (pc0 := 85) (pc' := 90) rfl (hb hby at_85) (by decide) (by decide)) ?_
      exact b90 T9 h9 L9 X9 e9 N9 (own_n0_f q0) A9 (13 : Int32) hc69
    · refine own_eqF (if_neg hc80) ?_
      refine own_go (fun _ => XS.ifYes X9.here hx rfl (pc0 := 80) (pc' := 88) rfl (hb hby at_80) rfl ((if0 _ _).trans (feq hc80).2) (by decide) (by decide)) ?_
      show own_G p e below s _ _ _ (T9.setTop (mkF m 88 #[.val (.long q0), .second, .val (.int q1), .val (.int q2), .val (.int q3), .val (.ref a1), .val (.int (own_n0_52 q1)), .val (.int (own_n0_63 q1 q2)), .unset, .unset] [(.int (own_n0_63 q1 q2)), (.ref a1)]))
      refine own_go (fun _ => XS.bipush X9.here hx rfl (hb hby at_88)) ?_
      exact b90 T9 h9 L9 X9 e9 N9 (own_n0_f q0) A9 (10 : Int32) hc69
  · refine own_eqF (if_neg hc69) ?_
    refine own_go (fun _ => XS.icmpYes X9.here hx rfl (pc0 := 69) (pc' := 91) rfl (hb hby at_69) rfl (flt hc69).2.1 (by decide) (by decide)) ?_
    exact b91 T9 h9 L9 X9 e9 N9 (own_n0_f q0) A9
set_option maxRecDepth 65536 in
set_option maxHeartbeats 40000000 in
theorem comes_1 {Post : Tables → Env → Array Value → State → Outcome → State → Prop} (hpost : ∀ tb e args s v u, (limb_1_1.after args s (.returned v) u = true ∧ limb_1_2.after args s (.returned v) u = true ∧ True) → FrameEnd s (.returned v) u (Jvm.fieldLocs frame_1_writes args s ++ Jvm.arrayLocs frame_1_arrays args s ++ Jvm.staticLocs frame_1_statics s) 16 128 → Post tb e args s (.returned v) u) :
    ArmFor flags0 classFile x code maxLocals ret World_1 tables_1 room_1 Calls_1 rest_1 Pre_1 Post := by
  intro l hfl _ _ p e ha hc hk s m args below hf hA hF happ hP
  obtain ⟨hcalls, hrest, hpre⟩ := hP
  obtain ⟨-, -, -, hnamed, -, -, -, hat⟩ := (Spec.applies_iff hf).mp happ
  obtain ⟨hg, hn⟩ := and_e (Cond.before_iff.mp (show (Jvm.Cond.and given_1 narrow_1).before args s = true from hpre))
  obtain ⟨cg0, cq0⟩ := and_e hg
  obtain ⟨w0, w1, w2, w3, rfl⟩ : ∃ w0 w1 w2 w3 : Value, args = #[w0, w1, w2, w3] := by
    have hs : args.size = 4 := by simpa [Cond.value, given_1] using cg0
    obtain ⟨L⟩ := args
    match L, hs with
    | [w0, w1, w2, w3], _ => exact ⟨w0, w1, w2, w3, rfl⟩
  have hw := fun d (hd : d ∈ tables_1) => atoms_spec (ws := Jvm.Cond.code x code maxLocals ret :: tables_1) hat d (List.mem_cons_of_mem _ hd)
  obtain ⟨ca0, cq1⟩ := and_e cq0
  obtain ⟨q0, eq0⟩ := isL_v ca0
  obtain rfl : w0 = (.long q0) := Option.some.inj eq0
  obtain ⟨ca1, cq2⟩ := and_e cq1
  obtain ⟨q1, eq1⟩ := is_v ca1
  obtain rfl : w1 = (.int q1) := Option.some.inj eq1
  obtain ⟨ca2, cq3⟩ := and_e cq2
  obtain ⟨q2, eq2⟩ := is_v ca2
  obtain rfl : w2 = (.int q2) := Option.some.inj eq2
  obtain ⟨q3, eq3⟩ := is_v cq3
  obtain rfl : w3 = (.int q3) := Option.some.inj eq3
  obtain ⟨n, o, h1, h2, h3, _, L, rfl, ⟨hv, N⟩, hq⟩ := rm0 l s _ hw tables_1 q0 q1 q2 q3 s.heap s.heap.size (Nat.le_refl _)  p e ha hc hk s m _ below hf ((Spec.applies_iff_loose hf).mp happ).1 ⟨rfl, State.Warmed39.refl s, rfl⟩ trivial
  rw [own_law] at hv
  subst hv
  refine ⟨n, _, h1, h2, h3, hpost _ _ _ _ _ _ ⟨Cond.after_iff.mpr rfl, Cond.after_iff.mpr (eq_i res_at (Term.int_eval (1)) rfl), trivial⟩ ⟨hq.1, hq.2.1, (hq.2.2.sift fun y hy => Or.inr (N y hy)).mono (by decide) (by decide)⟩⟩
theorem main_1_1 : Claimed_1_1 := comes_1 fun _ _ _ _ _ _ h hF => ⟨h.1, hF⟩
theorem main_1_2 : Claimed_1_2 := comes_1 fun _ _ _ _ _ _ h hF => ⟨h.2.1, hF⟩
end Jvm.Pilot.@@N@@
namespace Jvm.Pilot.@@N@@
open Jvm Jvm.ClassFile Sem Op Lib Jvm.Free Jvm.Stand Jvm.Pilot.@@N@@.Jvm.D
/-! MADE BY PROGRAM (witnessworld.py) out of the Statement's table words and the real class files: 11 classes; the members and pool entries that the words name. The judged class is class 1, her method 2. -/
namespace start1
open Jvm.ClassFile
def u (s : String) : CpInfo := .utf8 (stringToUtf16 s)
/-- a pool by its gaps: so many unusable entries, then the entry; so many at the end -/
def gap : Nat → List CpInfo → List CpInfo
  | 0, r => r
  | n + 1, r => .unusable :: gap n r
def poolList (es : List (Nat × CpInfo)) (last : Nat) : List CpInfo := es.foldr (fun e r => gap e.1 (e.2 :: r)) (gap last [])
def pool (es : List (Nat × CpInfo)) (last : Nat) : Array CpInfo := ⟨poolList es last⟩
def fileOf (pool : Array CpInfo) (this : Nat) (attrs : Array Attribute := #[]) (ms : Array MethodInfo := #[]) (fl : Nat := 33) (sup : Nat := 0) (ifs : Array Nat := #[]) (fds : Array FieldInfo := #[]) : ClassFile where
  minorVersion := 0
  majorVersion := 65
  constantPool := pool
  accessFlags := fl
  thisClass := this
  superClass := sup
  interfaces := ifs
  fields := fds
  methods := ms
  attributes := attrs
def plain (name : String) (sup : Option ClassId) : Class where
  name := name
  kind := .ordinary
  loader := none
  accessFlags := 33
  super := sup
  interfaces := #[]
  cf := none
  fields := #[]
  methods := #[]
  instanceTypes := #[]
  staticTypes := #[]
  resolved := #[]
  callSites := []
  init := .initialized
  statics := none
  mirror := none

def pool0 : Array CpInfo := pool [(5, u "<init>"), (0, u "()V"), (1, .class_ 10), (1, u "java/lang/Object")] 113

def k0m0 : Method := { name := "<init>", desc := "()V", sig := { parameters := [], returnType := none }, accessFlags := 1, code := none }
/-- java/lang/Object -/
def k0 : Class := { plain "java/lang/Object" none with
  accessFlags := 33
  interfaces := #[]
  cf := some (fileOf pool0 8 #[] #[{ accessFlags := 1, nameIndex := 5, descriptorIndex := 6, attributes := #[] }] 33 0 #[] #[])
  fields := #[]
  methods := #[k0m0]
  instanceTypes := #[]
  staticTypes := #[]
  resolved := Array.replicate 124 none
  statics := none }

def pool1 : Array CpInfo := pool [(2, .class_ 4), (1, u "java/lang/Object"), (0, u "<init>"), (0, u "()V"), (0, .long 1023), (1, .methodref 10 11), (0, .class_ 12), (0, .nameAndType 13 14), (0, u "com/example/covenantry/covenantry/TextFilesNextLinePinLaw"), (0, u "ch"), (0, u "(J)C"), (0, .integer 2147483647), (0, .methodref 17 18), (0, .class_ 19), (0, .nameAndType 20 21), (0, u "com/example/covenantry/covenantry/TextFiles"), (0, u "nextLine"), (0, u "([CII)I"), (3, u "law"), (0, u "(JIII)Z")] 4

def k1m0 : Method := { name := "<init>", desc := "()V", sig := { parameters := [], returnType := none }, accessFlags := 2, code := none }
def k1c1 : Code := { maxStack := 4, maxLocals := 4, code := method_2_code, exceptionTable := #[], attributes := #[] }
def k1m1 : Method := { name := "ch", desc := "(J)C", sig := { parameters := [.long], returnType := some .char }, accessFlags := 10, code := some k1c1 }
def k1c2 : Code := { maxStack := 5, maxLocals := 10, code := code, exceptionTable := #[], attributes := #[] }
def k1m2 : Method := { name := "law", desc := "(JIII)Z", sig := { parameters := [.long, .int, .int, .int], returnType := some .boolean }, accessFlags := 9, code := some k1c2 }
/-- com/example/covenantry/covenantry/TextFilesNextLinePinLaw -/
def k1 : Class := { plain "com/example/covenantry/covenantry/TextFilesNextLinePinLaw" (some 0) with
  accessFlags := 49
  interfaces := #[]
  cf := some (fileOf pool1 10 #[] #[{ accessFlags := 2, nameIndex := 5, descriptorIndex := 6, attributes := #[] }, { accessFlags := 10, nameIndex := 13, descriptorIndex := 14, attributes := #[] }, { accessFlags := 9, nameIndex := 25, descriptorIndex := 26, attributes := #[] }] 49 2 #[] #[])
  fields := #[]
  methods := #[k1m0, k1m1, k1m2]
  instanceTypes := #[]
  staticTypes := #[]
  resolved := Array.replicate 31 none
  statics := none }

def pool2 : Array CpInfo := pool [(2, .class_ 4), (1, u "java/lang/Object"), (0, u "<init>"), (0, u "()V"), (22, .class_ 30), (0, u "com/example/covenantry/covenantry/TextFiles"), (13, .class_ 45), (0, u "com/example/covenantry/covenantry/TextFiles$Buffer"), (14, u "([CII)I"), (13, u "nextLine"), (2, u "ENCODED_MARK"), (0, u "[B"), (0, u "BYTE_ORDER_MARK"), (0, u "C")] 21

def k2m0 : Method := { name := "<init>", desc := "()V", sig := { parameters := [], returnType := none }, accessFlags := 2, code := none }
def k2c1 : Code := { maxStack := 3, maxLocals := 4, code := prog_89_method_5_code, exceptionTable := #[], attributes := #[] }
def k2m1 : Method := { name := "nextLine", desc := "([CII)I", sig := { parameters := [(.array .char), .int, .int], returnType := some .int }, accessFlags := 8, code := some k2c1 }
/-- com/example/covenantry/covenantry/TextFiles -/
def k2 : Class := { plain "com/example/covenantry/covenantry/TextFiles" (some 0) with
  accessFlags := 48
  interfaces := #[]
  cf := some (fileOf pool2 29 #[.nestMembers #[44]] #[{ accessFlags := 2, nameIndex := 5, descriptorIndex := 6, attributes := #[] }, { accessFlags := 8, nameIndex := 74, descriptorIndex := 60, attributes := #[] }] 48 2 #[] #[{ accessFlags := 26, nameIndex := 79, descriptorIndex := 80, attributes := #[] }, { accessFlags := 26, nameIndex := 77, descriptorIndex := 78, attributes := #[] }])
  fields := #[{ name := "BYTE_ORDER_MARK", type := .char, accessFlags := 26, slot := 0, constantValue := 0 }, { name := "ENCODED_MARK", type := (.array .byte), accessFlags := 26, slot := 1, constantValue := 0 }]
  methods := #[k2m0, k2m1]
  instanceTypes := #[]
  staticTypes := #[.char, (.array .byte)]
  resolved := Array.replicate 102 none
  statics := none }

def pool3 : Array CpInfo := pool [(1, u "java/lang/Cloneable"), (0, .class_ 1), (0, u "java/lang/Object"), (0, .class_ 3)] 3

/-- java/lang/Cloneable -/
def k3 : Class := { plain "java/lang/Cloneable" (some 0) with
  accessFlags := 1537
  interfaces := #[]
  cf := some (fileOf pool3 2 #[] #[] 1537 4 #[] #[])
  fields := #[]
  methods := #[]
  instanceTypes := #[]
  staticTypes := #[]
  resolved := Array.replicate 8 none
  statics := none }

def pool4 : Array CpInfo := pool [(1, u "java/io/Serializable"), (0, .class_ 1), (0, u "java/lang/Object"), (0, .class_ 3)] 3

/-- java/io/Serializable -/
def k4 : Class := { plain "java/io/Serializable" (some 0) with
  accessFlags := 1537
  interfaces := #[]
  cf := some (fileOf pool4 2 #[] #[] 1537 4 #[] #[])
  fields := #[]
  methods := #[]
  instanceTypes := #[]
  staticTypes := #[]
  resolved := Array.replicate 8 none
  statics := none }

/-- the primitive byte -/
def k5 : Class := { plain "byte" none with kind := .primitive 'B', accessFlags := 0x411 }
/-- [B -/
def k6 : Class := { plain "[B" (some 0) with kind := .array 5 .byte, interfaces := #[3, 4], accessFlags := 1041 }

/-- the primitive char -/
def k7 : Class := { plain "char" none with kind := .primitive 'C', accessFlags := 0x411 }
/-- [C -/
def k8 : Class := { plain "[C" (some 0) with kind := .array 7 .char, interfaces := #[3, 4], accessFlags := 1041 }

/-- the primitive int -/
def k9 : Class := { plain "int" none with kind := .primitive 'I', accessFlags := 0x411 }
/-- [I -/
def k10 : Class := { plain "[I" (some 0) with kind := .array 9 .int, interfaces := #[3, 4], accessFlags := 1041 }

def heap : Heap := #[]
def classes : Array Class := #[k0, k1, k2, k3, k4, k5, k6, k7, k8, k9, k10]
def interned : List (Array UInt16 × Addr) := []
def slotsUsed : Nat := 0
def theMethod : MethodId := ⟨1, 2⟩
def args0 : Array Value := #[.long 5, .int 3, .int 1, .int 2]
def aboutOver (below : List Frame) : State where
  vm := { classes := classes, interned := interned.toArray }
  heap := heap
  slotsUsed := slotsUsed
  threads := #[{ frames := .invoking theMethod args0 :: below }]
def below0 : List Frame := [.native { method := ⟨0, 0⟩, args := #[] }]
def about1 : State := aboutOver below0
def p0 : Program := .bare "" "" ""
def e0 : Env := launch0.env 0 0 0
theorem w_frames : about1.frames = Frame.invoking theMethod args0 :: below0 := rfl
set_option maxRecDepth 65536 in
theorem w_args : argsFit about1.vm theMethod args0 = true := by decide +kernel
set_option maxRecDepth 65536 in
theorem w_heap : heapFits about1 = true := by decide +kernel
set_option maxRecDepth 65536 in
theorem w_runnable : about1.curStatus? = some .runnable := by decide +kernel
set_option maxRecDepth 65536 in
theorem w_alone : about1.alone = true := by decide +kernel
set_option maxRecDepth 65536 in
theorem w_named : about1.methodNamed? x = some theMethod := by decide +kernel
set_option maxRecDepth 65536 in
theorem w_hears : about1.hears theMethod below0 = true := by decide +kernel
set_option maxRecDepth 65536 in
theorem w_ripe : about1.ripe theMethod args0 below0 = true := by decide +kernel
theorem w_running : about1.status = .running := rfl
set_option maxRecDepth 65536 in
theorem w_room : about1.hasRoom e0.platform room_1 = true :=
  launch0.hasRoom_least _ room_1 (by decide +kernel) (by decide +kernel) (by decide +kernel) (by decide +kernel) (by decide +kernel) (by decide +kernel)
theorem allAtoms_all (ts : List Jvm.Cond) (a : Array Jvm.Value) (st : Jvm.State) : (allAtoms ts).before a st = ts.all (fun c => c.before a st) := by
  induction ts with
  | nil => rfl
  | cons c t ih =>
    show (Jvm.Cond.and c (allAtoms t)).before a st = _
    rw [Jvm.Cond.before_and, ih, List.all_cons]
def words1 : List Jvm.Cond := Jvm.Cond.code x code maxLocals ret :: tables_1
/-- a 'code' word, met by the world's own term for the bytes: nothing is compared byte by byte -/
theorem code_word {y : MethodName} {bytes : ByteArray} {mx : Nat} {rt : Option FieldType} {a : Array Value} {s : State} {m : MethodId} {meth : Method} {c : Code} (h1 : s.methodNamed? y = some m) (h2 : s.vm.method? m = some meth) (h3 : meth.code = some c) (h4 : c.code = bytes)
    (h5 : (c.maxLocals == mx && c.exceptionTable.isEmpty && decide (c.maxStack ≤ mostOperands) && decide (meth.sig.returnType = rt) && !meth.locks && decide (parseMethodDescriptor y.desc = some meth.sig)) = true) : (Jvm.Cond.code y bytes mx rt).before a s = true := by
  simp only [Bool.and_eq_true, beq_iff_eq, Bool.not_eq_true', decide_eq_true_eq] at h5
  obtain ⟨⟨⟨⟨⟨g1, g2⟩, g3⟩, g4⟩, g5⟩, g6⟩ := h5
  simp [Cond.before, Cond.holds, Cond.value, h1, h2, h3, h4, g1, g2, g3, g4, g5, g6]
def isCode : Jvm.Cond → Bool
  | .code _ _ _ _ => true
  | _ => false
theorem all_split {L : List Jvm.Cond} {P : Jvm.Cond → Bool} (h1 : L.all (fun c => isCode c || P c) = true) (h2 : ∀ c ∈ L.filter isCode, P c = true) : L.all P = true := by
  refine List.all_eq_true.mpr fun c hc => ?_
  have h := List.all_eq_true.mp h1 c hc
  rcases Bool.eq_false_or_eq_true (isCode c) with hi | hi
  · exact h2 c (List.mem_filter.mpr ⟨hc, hi⟩)
  · simpa [hi] using h
set_option maxRecDepth 65536 in
theorem w_c0 : (Jvm.Cond.code x code maxLocals ret).before args0 about1 = true := code_word (m := ⟨1, 2⟩) (meth := k1m2) (c := k1c2) (by decide +kernel) rfl rfl rfl (by decide +kernel)
set_option maxRecDepth 65536 in
theorem w_c1 : (Jvm.Cond.code ({ cls := "com/example/covenantry/covenantry/TextFilesNextLinePinLaw", name := "ch", desc := "(J)C" } : Jvm.MethodName) method_2_code (4 : Nat) (Option.some Jvm.ClassFile.FieldType.char)).before args0 about1 = true := code_word (m := ⟨1, 1⟩) (meth := k1m1) (c := k1c1) (by decide +kernel) rfl rfl rfl (by decide +kernel)
set_option maxRecDepth 65536 in
theorem w_c2 : (Jvm.Cond.code ({ cls := "com/example/covenantry/covenantry/TextFiles", name := "nextLine", desc := "([CII)I" } : Jvm.MethodName) prog_89_method_5_code (4 : Nat) (Option.some Jvm.ClassFile.FieldType.int)).before args0 about1 = true := code_word (m := ⟨2, 1⟩) (meth := k2m1) (c := k2c1) (by decide +kernel) rfl rfl rfl (by decide +kernel)
def codes1 : List Jvm.Cond := [Jvm.Cond.code x code maxLocals ret, Jvm.Cond.code ({ cls := "com/example/covenantry/covenantry/TextFilesNextLinePinLaw", name := "ch", desc := "(J)C" } : Jvm.MethodName) method_2_code (4 : Nat) (Option.some Jvm.ClassFile.FieldType.char), Jvm.Cond.code ({ cls := "com/example/covenantry/covenantry/TextFiles", name := "nextLine", desc := "([CII)I" } : Jvm.MethodName) prog_89_method_5_code (4 : Nat) (Option.some Jvm.ClassFile.FieldType.int)]
set_option maxRecDepth 65536 in
theorem codes_eq : words1.filter isCode = codes1 := rfl
theorem w_codes : ∀ c ∈ words1.filter isCode, c.before args0 about1 = true := by
  rw [codes_eq]
  intro c hc
  simp only [codes1, List.mem_cons, List.not_mem_nil, or_false] at hc
  rcases hc with rfl | rfl | rfl
  · exact w_c0
  · exact w_c1
  · exact w_c2
set_option maxRecDepth 65536 in
theorem w_t1 : words1.all (fun c => isCode c || c.before args0 about1) = true := by decide +kernel
theorem w_tables : (allAtoms (Jvm.Cond.code x code maxLocals ret :: tables_1)).before args0 about1 = true := by
  rw [allAtoms_all]
  show words1.all (fun c => c.before args0 about1) = true
  refine all_split ?_ w_codes
  rw [w_t1]
set_option maxRecDepth 65536 in
theorem w_case : (Jvm.Cond.and given_1 narrow_1).before args0 about1 = true := by decide +kernel
theorem w_applies : (headSpec (Jvm.Cond.code x code maxLocals ret :: tables_1) room_1).applies x e0.platform about1 = true :=
  (Spec.applies_iff w_frames).mpr ⟨w_running, w_runnable, w_alone, w_named, w_hears, w_ripe, w_room, w_tables⟩
theorem atStart : AtStart classFile x code maxLocals ret World_1 tables_1 room_1 Calls_1 rest_1 Pre_1 launch0 p0 e0 about1 theMethod args0 below0 :=
  ⟨lists_1, trivial, launch0.admits_env _ _ _, launch0.least_env, fairChoices_fair.cas, fairChoices_fair.clock, w_frames, w_args, w_heap, w_applies, trivial, trivial, w_case⟩
end start1
theorem witness_1 : WitnessClaimed_1 := ⟨start1.p0, start1.e0, start1.about1, start1.theMethod, start1.args0, start1.below0, start1.atStart⟩
end Jvm.Pilot.@@N@@
