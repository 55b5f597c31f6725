import JvmDerived
import JvmDerived.Pilot.@@N@@Statement
import JvmDerived.Pilot.@@N@@Code
set_option linter.unusedVariables false
set_option linter.unusedSimpArgs false
namespace Jvm.RoadKit
open Sem ClassFile Op Lib Jvm.Stand Jvm.Free Jvm.LawKit
section New
variable {p : Program} {l : Launch} {e : Env} {R : Room} {s : State} {m : MethodId} {args : Array Value} {below : List Frame} {meth : Method} {c : Code} {T : State} {locs : List Loc} {cells slots : Nat}
theorem retI (X : Stand p l e R s m args below meth c T locs cells slots) (hx : p.tables.exec = Jvm.exec) {pc : Nat} {Ls : Array Slot} {z : Int32} {rest : List Value} (hret : meth.sig.returnType = some .int) (hd : decode c.code pc = .ok (.ireturn, 1)) {fs : List Frame}
    (hl : ∀ (f : JFrame) (acts : List Action), f.method = m → f.locked = none → f.entered = [] → (doReturn e (T.setTop f) acts (some (.int z))).1 = T.setFrames fs) : Steps p.tables e below (T.setTop (mkF m pc Ls (.int z :: rest))) (T.setFrames fs) := by
  have hm' : T.vm.method? m = some meth := X.method'
  have hn : narrow .int (.int z) = .int z := rfl
  show Steps p.tables e below (T.setTop { method := m, pc := pc, locals := Ls, stack := _ :: rest, locked := none }) _
  jvm_step X.here [X.here.top, hx, hd, hm', hret, hn]
  first | (intro acts; rw [hl _ acts rfl rfl rfl]) | rw [hl _ _ rfl rfl rfl]
  exact Steps.refl _
end New
end Jvm.RoadKit
namespace Jvm.Pilot.@@N@@
open Jvm Jvm.ClassFile Sem Op Lib Jvm.Free Jvm.Stand Jvm.LawKit Jvm.RoadKit Bundle Jvm.Pilot.@@N@@.Jvm.D
/-! 0. the walk's goal: from the state S the body ends, and Q says what it leaves -/
def own_G (p : Program) (e : Env) (below : List Frame) (s : State) (Q : Option Value → Heap → List Loc → Prop) (k n : Nat) (S : State) : Prop :=
  ∃ s₂ o, Steps p.tables e below S s₂ ∧ s₂.status = .running ∧ Ended s₂ below o ∧ ∃ v L, o = .returned v ∧ Q v s₂.heap L ∧ FrameEnd s o s₂ L k n
theorem own_go {p : Program} {e : Env} {below : List Frame} {s : State} {Q : Option Value → Heap → List Loc → Prop} {k n : Nat} {S S' : State} (h : ∀ t, Steps p.tables e below S' t → Steps p.tables e below S t) (g : own_G p e below s Q k n S') : own_G p e below s Q k n S := by
  obtain ⟨t, o, h1, h2⟩ := g
  exact ⟨t, o, h t h1, h2⟩
theorem own_G0 {p : Program} {e : Env} {below : List Frame} {s : State} {Q : Option Value → Heap → List Loc → Prop} {k n : Nat} {S : State} (g : own_G p e below s Q k n S) :
    ∃ s₂ o, Steps p.tables e below S s₂ ∧ s₂.status = .running ∧ Ended s₂ below o ∧ ∃ v L, o = .returned v ∧ Q v s₂.heap L ∧ FrameEnd s o s₂ L k n := g
/-- a body that writes nothing and returns r -/
def own_Q (r : Option Value) (h0 : Heap) (v : Option Value) (h : Heap) (L : List Loc) : Prop := v = r ∧ L = [] ∧ h = h0
/-- Java's x % y, x >>> y on ints and longs, (char) x -/
def own_rem (x y : Int32) : Int32 := x - (x / y) * y
def own_us (x y : Int32) : Int32 := (x.toUInt32 >>> (y &&& 31).toUInt32).toInt32
def own_usL (x : Int64) (y : Int32) : Int64 := (x.toUInt64 >>> (y &&& 0x3f).toInt64.toUInt64).toInt64
def own_c (x : Int32) : Int32 := x.toUInt32.toUInt16.toUInt32.toInt32
theorem own_eq {p : Program} {e : Env} {below : List Frame} {s : State} {h0 : Heap} {k n : Nat} {S : State} {a b : Int32} (h : a = b) (g : own_G p e below s (own_Q (some (.int b)) h0) k n S) : own_G p e below s (own_Q (some (.int a)) h0) k n S := h ▸ g
section Own
variable {p : Program} {l : Launch} {e : Env} {R : Room} {s : State} {m : MethodId} {args : Array Value} {below : List Frame} {meth : Method} {c : Code} {T : State} {locs : List Loc} {cells slots : Nat} {Q : Option Value → Heap → List Loc → Prop} {k n : Nat}
theorem own_retI (X : Stand p l e R s m args below meth c T locs cells slots) (hx : p.tables.exec = Jvm.exec) (hlk : meth.locks = false) {pc : Nat} {Ls : Array Slot} {z : Int32} {rest : List Value} (hret : meth.sig.returnType = some .int) (hd : decode c.code pc = .ok (.ireturn, 1)) (hc : cells ≤ k) (hs : slots ≤ n) (hq : Q (some (.int z)) T.heap locs) :
    own_G p e below s Q k n (T.setTop (mkF m pc Ls (.int z :: rest))) := by
  obtain ⟨fs, hr, hrun, hended, hW, hsame⟩ := X.leave (v := some (.int z)) (fun h => by rw [hret] at h; cases h) hlk
  exact ⟨_, _, retI X hx hret hd hr, hrun, hended, _, _, rfl, hq, ⟨_, rfl⟩, hW, hsame.mono hc hs⟩
theorem own_retN (X : Stand p l e R s m args below meth c T locs cells slots) (hx : p.tables.exec = Jvm.exec) (hlk : meth.locks = false) {pc : Nat} {Ls : Array Slot} {z : Int32} {t : FieldType} {rest : List Value} (hret : meth.sig.returnType = some t) (ht : t = .boolean ∨ t = .byte ∨ t = .char ∨ t = .short) (hd : decode c.code pc = .ok (.ireturn, 1)) (hc : cells ≤ k) (hs : slots ≤ n) (hq : Q (some (.int (nar t z))) T.heap locs) :
    own_G p e below s Q k n (T.setTop (mkF m pc Ls (.int z :: rest))) := by
  obtain ⟨fs, hr, hrun, hended, hW, hsame⟩ := X.leave (v := some (.int (nar t z))) (fun h => by rw [hret] at h; cases h) hlk
  exact ⟨_, _, retN X hx hret ht hd hr, hrun, hended, _, _, rfl, hq, ⟨_, rfl⟩, hW, hsame.mono hc hs⟩
theorem own_retJ (X : Stand p l e R s m args below meth c T locs cells slots) (hx : p.tables.exec = Jvm.exec) (hlk : meth.locks = false) {pc : Nat} {Ls : Array Slot} {z : Int64} (hret : meth.sig.returnType = some .long) (hd : decode c.code pc = .ok (.lreturn, 1)) (hc : cells ≤ k) (hs : slots ≤ n) (hq : Q (some (.long z)) T.heap locs) :
    own_G p e below s Q k n (T.setTop (mkF m pc Ls [.long z])) := by
  obtain ⟨fs, hr, hrun, hended, hW, hsame⟩ := X.leave (v := some (.long z)) (fun h => by rw [hret] at h; cases h) hlk
  exact ⟨_, _, X.lreturnOut hx hret hd hr, hrun, hended, _, _, rfl, hq, ⟨_, rfl⟩, hW, hsame.mono hc hs⟩
theorem own_retA (X : Stand p l e R s m args below meth c T locs cells slots) (hx : p.tables.exec = Jvm.exec) (hlk : meth.locks = false) {pc : Nat} {Ls : Array Slot} {w : Value} {t : FieldType} (hw : w.isRef = true) (hret : meth.sig.returnType = some t) (ht : t.isReference = true) (hd : decode c.code pc = .ok (.areturn, 1)) (hc : cells ≤ k) (hs : slots ≤ n) (hq : Q (some w) T.heap locs) :
    own_G p e below s Q k n (T.setTop (mkF m pc Ls [w])) := by
  obtain ⟨fs, hr, hrun, hended, hW, hsame⟩ := X.leave (v := some w) (fun h => by rw [hret] at h; cases h) hlk
  exact ⟨_, _, X.areturnOut hx hw hret ht hd hr, hrun, hended, _, _, rfl, hq, ⟨_, rfl⟩, hW, hsame.mono hc hs⟩
theorem own_retV (X : Stand p l e R s m args below meth c T locs cells slots) (hx : p.tables.exec = Jvm.exec) (hlk : meth.locks = false) {pc : Nat} {Ls : Array Slot} (hret : meth.sig.returnType = none) (hd : decode c.code pc = .ok (.return_, 1)) (hc : cells ≤ k) (hs : slots ≤ n) (hq : Q none T.heap locs) :
    own_G p e below s Q k n (T.setTop (mkF m pc Ls [])) := by
  obtain ⟨fs, hr, hrun, hended, hW, hsame⟩ := X.leave (v := none) (fun _ => rfl) hlk
  exact ⟨_, _, X.returnOut hx hret hd hr, hrun, hended, _, _, rfl, hq, ⟨_, rfl⟩, hW, hsame.mono hc hs⟩
/-- a static call of a body that writes nothing -/
theorem own_call (X : Stand p l e R s m args below meth c T locs cells slots) (hx : p.tables.exec = Jvm.exec) {Z : State} (hZ : Z.Warmed39 s.vm) {a0 : Array Value} {own : String} {index : Nat} {y : MethodName} {bytes : ByteArray} {maxL : Nat} {ret : Option FieldType} {rm : Room} (hown : s.vm.findClass own = some m.cls)
    (w1 : (Cond.methodLink own index y).before a0 Z = true) (w2 : (Cond.static y).before a0 Z = true) (w3 : (Cond.initialized y.cls).before a0 Z = true) (w4 : (Cond.code y bytes maxL ret).before a0 Z = true) (hy : y.cls ≠ "java/lang/invoke/MethodHandle" ∧ y.cls ≠ "java/lang/invoke/VarHandle")
    {as' : Array Value} {h : Heap} {r : Option Value} (hM : MetFree l y (head1 [Cond.code y bytes maxL ret] rm) (fun a U => a = as' ∧ Z.Warmed39 U.vm ∧ U.heap = h) (fun _ _ _ _ _ => True) (fun _ U o U' => ∃ v L, o = .returned v ∧ own_Q r h v U'.heap L ∧ FrameEnd U o U' L rm.cells rm.slots)) (hc0 : rm.cells = 0) (hs0 : rm.slots = 0) (eT : T.heap = h)
    {W : Nat} (hf : rm.frames + 1 ≤ R.frames) (hl : W + (maxL + 11) + rm.locals ≤ R.locals) (hcR : cells ≤ R.cells) (hsR : slots ≤ R.slots) {g : JFrame} (hg : g.method = m) (hsize : g.locals.size = c.maxLocals) {argsL rest : List Value} (hlen : ∀ sig, parseMethodDescriptor y.desc = some sig → argsL.length = sig.parameters.length) (has : argsL.toArray = as') (hstack : g.stack = argsL.reverse ++ rest)
    (hW : 2 * g.monitorRoom + (rest.map fun v => v.category).sum ≤ W) (hdg : decode c.code g.pc = .ok (.invokestatic index, 3)) :
    ∃ T', Stand p l e R s m args below meth c T' locs cells slots ∧ T'.heap = h ∧ ∀ t, Steps p.tables e below (T'.setTop { g with pc := g.pc + 3, stack := r.toList ++ rest }) t → Steps p.tables e below (T.setTop g) t := by
  obtain ⟨_, _, ⟨T2, L2, k2, n2⟩, -, X2, ⟨Lc2, hQ2, l2, y2, z2⟩, st2⟩ := Jvm.LawKit.callS X hx hown (mvT hZ w1) (mvT hZ w2) (mvT hZ w3) (mvT hZ w4) hy (backOf (W := W) hM hZ w4 w3 hf hl) hg hsize hlen hstack hW hdg (fun _ _ => ⟨has, eT, (by show cells + rm.cells ≤ R.cells; rw [hc0]; exact hcR), (by show slots + rm.slots ≤ R.slots; rw [hs0]; exact hsR)⟩)
  dsimp only [Pt.U, Pt.locs, Pt.cells, Pt.slots] at X2 l2 y2 z2 st2 hQ2
  obtain ⟨rfl, rfl, e2⟩ := hQ2
  rw [hc0] at y2
  rw [hs0] at z2
  rw [List.append_nil] at l2
  subst l2 y2 z2
  exact ⟨T2, X2, e2, st2⟩
end Own

def own_QF (r : Option Value) (n0 : Nat) (v : Option Value) (h : Heap) (L : List Loc) : Prop := v = r ∧ Fr n0 L
theorem own_eqF {p : Program} {e : Env} {below : List Frame} {s : State} {n0 : Nat} {k n : Nat} {S : State} {a b : Int32} (h : a = b) (g : own_G p e below s (own_QF (some (.int b)) n0) k n S) : own_G p e below s (own_QF (some (.int a)) n0) k n S := h ▸ g
/-! arrays: at a stands an array of n values, the j-th f j -/
def own_A (Z : State) (h : Heap) (a : Addr) (ty : FieldType) (n : Int32) (f : Int32 → Int32) : Prop :=
  ∃ c : Cell, Arr Z h a c ty ∧ c.slots.size = n.toNatClampNeg ∧ ¬ n < 0 ∧ ∀ j : Int32, ¬ j < 0 → j < n → c.slots[j.toNatClampNeg]? = some (.int (f j))
def own_set (f : Int32 → Int32) (j v : Int32) (i : Int32) : Int32 := if i = j then v else f i
theorem own_clamp {j n : Int32} (h0 : ¬ j < 0) (h1 : j < n) : j.toNatClampNeg < n.toNatClampNeg := by
  rw [Int32.lt_iff_toInt_lt] at h0 h1
  have : (0 : Int32).toInt = 0 := rfl
  show j.toInt.toNat < n.toInt.toNat
  omega
theorem own_clinj {i j : Int32} (h0 : ¬ i < 0) (h1 : ¬ j < 0) (h : i.toNatClampNeg = j.toNatClampNeg) : i = j := by
  rw [Int32.lt_iff_toInt_lt] at h0 h1
  have z : (0 : Int32).toInt = 0 := rfl
  have e : i.toInt.toNat = j.toInt.toNat := h
  apply Int32.toInt_inj.mp
  omega
theorem own_A_new {Z : State} {h : Heap} {a : Addr} {k : ClassId} {ty : FieldType} {n : Int32} (A : Arr Z h a (newA k ty n) ty) (q : ¬ n < 0) (hd : defaultValue ty = .int 0) : own_A Z h a ty n (fun _ => 0) := by
  obtain ⟨c, h1, -, h3, h4, h5, -⟩ := Arv.new A q
  refine ⟨c, h1, h3, q, fun j h0 hj => ?_⟩
  have := h5 j.toNatClampNeg (by rw [h3]; exact own_clamp h0 hj)
  rw [this, hd]
  rfl
theorem own_A_set {Z : State} {h h' : Heap} {a : Addr} {ty : FieldType} {n j v : Int32} {f : Int32 → Int32} (A : own_A Z h a ty n f) (h0 : ¬ j < 0) (h1 : j < n) (W : Wr h h' a j.toNatClampNeg (.int v)) : own_A Z h' a ty n (own_set f j v) := by
  obtain ⟨c, A1, A2, A3, A4⟩ := A
  refine ⟨_, A1.same W, by rw [← A2]; simp [Cell.setSlot], A3, fun i i0 i1 => ?_⟩
  show (c.slots.setIfInBounds j.toNatClampNeg (.int v))[i.toNatClampNeg]? = _
  by_cases e : i = j
  · subst e
    rw [Array.getElem?_setIfInBounds_self_of_lt (by rw [A2]; exact own_clamp h0 h1)]
    simp [own_set]
  · rw [Array.getElem?_setIfInBounds_ne (fun q => e (own_clinj i0 h0 q.symm)), A4 i i0 i1]
    simp [own_set, e]
theorem own_A_other {Z : State} {h h' : Heap} {a b : Addr} {ty : FieldType} {n : Int32} {f : Int32 → Int32} {sl : Nat} {v : Value} (A : own_A Z h a ty n f) (W : Wr h h' b sl v) (q : a ≠ b) : own_A Z h' a ty n f := by
  obtain ⟨c, A1, A2⟩ := A
  exact ⟨c, A1.other W q, A2⟩
theorem own_A_ext {Z : State} {h h' : Heap} {a : Addr} {ty : FieldType} {n : Int32} {f : Int32 → Int32} (A : own_A Z h a ty n f) (E : Ext h h') : own_A Z h' a ty n f := by
  obtain ⟨c, A1, A2⟩ := A
  exact ⟨c, A1.ext E, A2⟩
theorem own_A_lt {Z : State} {h : Heap} {a : Addr} {ty : FieldType} {n : Int32} {f : Int32 → Int32} (A : own_A Z h a ty n f) : a < h.size := by
  obtain ⟨c, A1, A2⟩ := A
  exact A1.lt
section OwnA
variable {p : Program} {l : Launch} {e : Env} {R : Room} {s : State} {m : MethodId} {args : Array Value} {below : List Frame} {meth : Method} {c : Code} {T : State} {locs : List Loc} {cells slots : Nat} {Z : State} {h : Heap} {n0 : Nat}
theorem own_new (X : Stand p l e R s m args below meth c T locs cells slots) (hx : p.tables.exec = Jvm.exec) (hZ : Z.Warmed39 s.vm) {a0 : Array Value} {aty : ArrayType} (w : (Cond.arrayClass (newarray.typeOf aty)).before a0 Z = true) (eT : T.heap = h) (hn0 : n0 ≤ h.size) (hdv : defaultValue (newarray.typeOf aty) = .int 0) {g : JFrame} (hg : g.method = m) (hd : decode c.code g.pc = .ok (.newarray aty, 2)) {n : Int32} {rest : List Value} (hs : g.stack = .int n :: rest)
    (hn : ¬ n < 0) {cap : Nat} (hcap : n.toNatClampNeg ≤ cap) (hb : cap * 8 ≤ 536870912) (hc : cells + 1 ≤ R.cells) (hl : slots + cap ≤ R.slots) :
    ∃ T' h' a, Stand p l e R s m args below meth c T' locs (cells + 1) (slots + cap) ∧ T'.heap = h' ∧ Ext h h' ∧ a = h.size ∧ n0 ≤ a ∧ own_A Z h' a (newarray.typeOf aty) n (fun _ => 0) ∧
      ∀ target, Steps p.tables e below (T'.setTop { g with pc := g.pc + 2, stack := .ref a :: rest }) target → Steps p.tables e below (T.setTop g) target := by
  obtain ⟨T', h', cA, X', e', E', A', st⟩ := newP X hx hZ w eT hg hd hs hn hcap hb hc hl
  exact ⟨T', h', h.size, X', e', E', rfl, hn0, own_A_new A' hn hdv, st⟩
theorem own_stC (X : Stand p l e R s m args below meth c T locs cells slots) (hx : p.tables.exec = Jvm.exec) (hZ : Z.Warmed39 s.vm) (eT : T.heap = h) {a : Addr} {n : Int32} {f : Int32 → Int32} (A : own_A Z h a .char n f) (N : Fr n0 locs) (ha : n0 ≤ a) {j x : Int32} (h0 : ¬ j < 0) (h1 : j < n) {g : JFrame} (hg : g.method = m) {rest : List Value} (hs : g.stack = .int x :: .int j :: .ref a :: rest) (hd : decode c.code g.pc = .ok (.castore, 1)) :
    ∃ T' h' locs', Stand p l e R s m args below meth c T' locs' cells slots ∧ T'.heap = h' ∧ Fr n0 locs' ∧ own_A Z h' a .char n (own_set f j (nar .char x)) ∧ Wr h h' a j.toNatClampNeg (.int (nar .char x)) ∧
      ∀ target, Steps p.tables e below (T'.setTop { g with pc := g.pc + 1, stack := rest }) target → Steps p.tables e below (T.setTop g) target := by
  obtain ⟨cl, Ar, Sz, Hn, Hf⟩ := A
  obtain ⟨T', h', X', e', W', st⟩ := stC X hx hZ eT Ar (inb_of Sz ⟨h0, h1⟩) hg hs hd
  exact ⟨T', h', _, X', e', Fr.snoc X' N ha, own_A_set ⟨cl, Ar, Sz, Hn, Hf⟩ h0 h1 W', W', st⟩
theorem own_stI (X : Stand p l e R s m args below meth c T locs cells slots) (hx : p.tables.exec = Jvm.exec) (hZ : Z.Warmed39 s.vm) (eT : T.heap = h) {a : Addr} {n : Int32} {f : Int32 → Int32} (A : own_A Z h a .int n f) (N : Fr n0 locs) (ha : n0 ≤ a) {j x : Int32} (h0 : ¬ j < 0) (h1 : j < n) {g : JFrame} (hg : g.method = m) {rest : List Value} (hs : g.stack = .int x :: .int j :: .ref a :: rest) (hd : decode c.code g.pc = .ok (.iastore, 1)) :
    ∃ T' h' locs', Stand p l e R s m args below meth c T' locs' cells slots ∧ T'.heap = h' ∧ Fr n0 locs' ∧ own_A Z h' a .int n (own_set f j x) ∧ Wr h h' a j.toNatClampNeg (.int x) ∧
      ∀ target, Steps p.tables e below (T'.setTop { g with pc := g.pc + 1, stack := rest }) target → Steps p.tables e below (T.setTop g) target := by
  obtain ⟨cl, Ar, Sz, Hn, Hf⟩ := A
  obtain ⟨T', h', X', e', W', st⟩ := stI X hx hZ eT Ar (inb_of Sz ⟨h0, h1⟩) hg hs hd
  exact ⟨T', h', _, X', e', Fr.snoc X' N ha, own_A_set ⟨cl, Ar, Sz, Hn, Hf⟩ h0 h1 W', W', st⟩
theorem own_stB (X : Stand p l e R s m args below meth c T locs cells slots) (hx : p.tables.exec = Jvm.exec) (hZ : Z.Warmed39 s.vm) (eT : T.heap = h) {a : Addr} {n : Int32} {f : Int32 → Int32} (A : own_A Z h a .byte n f) (N : Fr n0 locs) (ha : n0 ≤ a) {j x : Int32} (h0 : ¬ j < 0) (h1 : j < n) {g : JFrame} (hg : g.method = m) {rest : List Value} (hs : g.stack = .int x :: .int j :: .ref a :: rest) (hd : decode c.code g.pc = .ok (.bastore, 1)) :
    ∃ T' h' locs', Stand p l e R s m args below meth c T' locs' cells slots ∧ T'.heap = h' ∧ Fr n0 locs' ∧ own_A Z h' a .byte n (own_set f j (nar .byte x)) ∧ Wr h h' a j.toNatClampNeg (.int (nar .byte x)) ∧
      ∀ target, Steps p.tables e below (T'.setTop { g with pc := g.pc + 1, stack := rest }) target → Steps p.tables e below (T.setTop g) target := by
  obtain ⟨cl, Ar, Sz, Hn, Hf⟩ := A
  obtain ⟨T', h', X', e', W', st⟩ := stB X hx hZ eT Ar (inb_of Sz ⟨h0, h1⟩) hg hs hd
  exact ⟨T', h', _, X', e', Fr.snoc X' N ha, own_A_set ⟨cl, Ar, Sz, Hn, Hf⟩ h0 h1 W', W', st⟩
theorem own_ldC (X : Stand p l e R s m args below meth c T locs cells slots) (hx : p.tables.exec = Jvm.exec) (hZ : Z.Warmed39 s.vm) (eT : T.heap = h) {a : Addr} {n : Int32} {f : Int32 → Int32} (A : own_A Z h a .char n f) {j : Int32} (h0 : ¬ j < 0) (h1 : j < n) {g : JFrame} (hg : g.method = m) {rest : List Value} (hs : g.stack = .int j :: .ref a :: rest) (hd : decode c.code g.pc = .ok (.caload, 1)) :
    ∀ target, Steps p.tables e below (T.setTop { g with pc := g.pc + 1, stack := .int (f j) :: rest }) target → Steps p.tables e below (T.setTop g) target := by
  obtain ⟨cl, Ar, Sz, Hn, Hf⟩ := A
  exact fun t k => X.caload hx (j := j) (v := .int (f j)) (by rw [eT]; exact Ar.1) (State.isArrayOf_alike hZ.alike Ar.2.1) Ar.2.2 (inb_of Sz ⟨h0, h1⟩) (Hf j h0 h1) hg hs hd t k
theorem own_ldI (X : Stand p l e R s m args below meth c T locs cells slots) (hx : p.tables.exec = Jvm.exec) (hZ : Z.Warmed39 s.vm) (eT : T.heap = h) {a : Addr} {n : Int32} {f : Int32 → Int32} (A : own_A Z h a .int n f) {j : Int32} (h0 : ¬ j < 0) (h1 : j < n) {g : JFrame} (hg : g.method = m) {rest : List Value} (hs : g.stack = .int j :: .ref a :: rest) (hd : decode c.code g.pc = .ok (.iaload, 1)) :
    ∀ target, Steps p.tables e below (T.setTop { g with pc := g.pc + 1, stack := .int (f j) :: rest }) target → Steps p.tables e below (T.setTop g) target := by
  obtain ⟨cl, Ar, Sz, Hn, Hf⟩ := A
  exact fun t k => X.iaload hx (j := j) (v := .int (f j)) (by rw [eT]; exact Ar.1) (State.isArrayOf_alike hZ.alike Ar.2.1) Ar.2.2 (inb_of Sz ⟨h0, h1⟩) (Hf j h0 h1) hg hs hd t k
theorem own_ldB (X : Stand p l e R s m args below meth c T locs cells slots) (hx : p.tables.exec = Jvm.exec) (hZ : Z.Warmed39 s.vm) (eT : T.heap = h) {a : Addr} {n : Int32} {f : Int32 → Int32} (A : own_A Z h a .byte n f) {j : Int32} (h0 : ¬ j < 0) (h1 : j < n) {g : JFrame} (hg : g.method = m) {rest : List Value} (hs : g.stack = .int j :: .ref a :: rest) (hd : decode c.code g.pc = .ok (.baload, 1)) :
    ∀ target, Steps p.tables e below (T.setTop { g with pc := g.pc + 1, stack := .int (f j) :: rest }) target → Steps p.tables e below (T.setTop g) target := by
  obtain ⟨cl, Ar, Sz, Hn, Hf⟩ := A
  exact fun t k => X.baloadBytes hx (j := j) (v := .int (f j)) (by rw [eT]; exact Ar.1) (State.isArrayOf_alike hZ.alike Ar.2.1) Ar.2.2 (inb_of Sz ⟨h0, h1⟩) (Hf j h0 h1) hg hs hd t k
theorem own_len (X : Stand p l e R s m args below meth c T locs cells slots) (hx : p.tables.exec = Jvm.exec) (hZ : Z.Warmed39 s.vm) (eT : T.heap = h) {a : Addr} {ty : FieldType} {n : Int32} {f : Int32 → Int32} (A : own_A Z h a ty n f) {g : JFrame} (hg : g.method = m) {rest : List Value} (hs : g.stack = .ref a :: rest) (hd : decode c.code g.pc = .ok (.arraylength, 1)) :
    ∀ target, Steps p.tables e below (T.setTop { g with pc := g.pc + 1, stack := .int n :: rest }) target → Steps p.tables e below (T.setTop g) target := by
  obtain ⟨cl, Ar, Sz, Hn, Hf⟩ := A
  intro t k
  refine X.arraylength hx (by rw [eT]; exact Ar.1) (State.isArrayOf_alike hZ.alike Ar.2.1) hg hs hd t ?_
  rw [len_of Sz Hn]
  exact k
end OwnA

theorem own_m31 (x : Int32) : 0 ≤ (x &&& (2147483647 : Int32)).toInt := by
  have h : (x &&& (2147483647 : Int32)).toBitVec.msb = false := by
    rw [Int32.toBitVec_and, BitVec.msb_and, show (2147483647 : Int32).toBitVec.msb = false from rfl, Bool.and_false]
  rw [← Int32.toInt_toBitVec, BitVec.toInt_eq_msb_cond, h]
  simp
theorem own_rem_i {x y : Int32} (hx : 0 ≤ x.toInt) (hy : 0 < y.toInt) : (own_rem x y).toInt = x.toInt % y.toInt := by
  have lx := Int32.toInt_lt x
  have ly := Int32.toInt_lt y
  have e1 : (x / y).toInt = x.toInt / y.toInt := by
    rw [Int32.toInt_div, Int.tdiv_eq_ediv_of_nonneg hx]
    have a1 : 0 ≤ x.toInt / y.toInt := Int.ediv_nonneg hx (Int.le_of_lt hy)
    have a2 : x.toInt / y.toInt ≤ x.toInt := Int.ediv_le_self _ hx
    rw [Int.bmod_eq_of_le] <;> omega
  have b0 : 0 ≤ x.toInt / y.toInt := Int.ediv_nonneg hx (Int.le_of_lt hy)
  have b1 : x.toInt / y.toInt * y.toInt ≤ x.toInt := Int.ediv_mul_le _ (by omega)
  have b2 : 0 ≤ x.toInt / y.toInt * y.toInt := Int.mul_nonneg b0 (Int.le_of_lt hy)
  have e2 : (x / y * y).toInt = x.toInt / y.toInt * y.toInt := by
    rw [Int32.toInt_mul, e1, Int.bmod_eq_of_le] <;> omega
  have b3 : x.toInt % y.toInt = x.toInt - x.toInt / y.toInt * y.toInt := by
    have := Int.mul_ediv_add_emod x.toInt y.toInt
    rw [Int.mul_comm] at this
    omega
  rw [own_rem, Int32.toInt_sub, e2, Int.bmod_eq_of_le] <;> omega
theorem own_add_i {x y : Int32} (h1 : -2147483648 ≤ x.toInt + y.toInt) (h2 : x.toInt + y.toInt < 2147483648) : (x + y).toInt = x.toInt + y.toInt := by
  rw [Int32.toInt_add, Int.bmod_eq_of_le] <;> omega
theorem own_sub_i {x y : Int32} (h1 : -2147483648 ≤ x.toInt - y.toInt) (h2 : x.toInt - y.toInt < 2147483648) : (x - y).toInt = x.toInt - y.toInt := by
  rw [Int32.toInt_sub, Int.bmod_eq_of_le] <;> omega
theorem own_ne0 {y : Int32} (hy : 0 < y.toInt) : y ≠ 0 := fun h => by rw [h] at hy; exact absurd hy (by decide)
theorem own_mask (x m : Int32) (hm : 0 ≤ m.toInt) : 0 ≤ (x &&& m).toInt ∧ (x &&& m).toInt ≤ m.toInt := by
  have hm' : m.toBitVec.msb = false := by
    rw [← Int32.toInt_toBitVec] at hm
    exact BitVec.msb_eq_false_iff_two_mul_lt.mpr (by have := BitVec.toInt_eq_toNat_cond m.toBitVec; split at this <;> omega)
  have h1 : (x &&& m).toBitVec.msb = false := by rw [Int32.toBitVec_and, BitVec.msb_and, hm', Bool.and_false]
  have e1 : (x &&& m).toInt = ((x &&& m).toBitVec.toNat : Int) := by rw [← Int32.toInt_toBitVec, BitVec.toInt_eq_msb_cond, h1]; simp
  have e2 : m.toInt = (m.toBitVec.toNat : Int) := by rw [← Int32.toInt_toBitVec, BitVec.toInt_eq_msb_cond, hm']; simp
  have h2 : (x &&& m).toBitVec.toNat ≤ m.toBitVec.toNat := by rw [Int32.toBitVec_and, BitVec.toNat_and]; exact Nat.and_le_right
  omega
theorem own_lt {x y : Int32} : x < y ↔ x.toInt < y.toInt := Int32.lt_iff_toInt_lt
theorem own_inc {i n : Int32} (h : i < n) : (i + 1).toInt = i.toInt + 1 := by
  rw [own_lt] at h
  have a := Int32.toInt_lt n
  have b := Int32.le_toInt i
  have e : (1 : Int32).toInt = 1 := rfl
  rw [own_add_i (by omega) (by omega), e]
theorem own_of_i {x y : Int32} (h : x.toInt = y.toInt) : x = y := Int32.toInt_inj.mp h

theorem d1_0 : decode method_2_code 0 = .ok (.iload_n 0, 1) := by decide +kernel
theorem d1_1 : decode method_2_code 1 = .ok (.iconst 3, 1) := by decide +kernel
theorem d1_2 : decode method_2_code 2 = .ok (.iand, 1) := by decide +kernel
theorem d1_3 : decode method_2_code 3 = .ok (.istore_n 1, 1) := by decide +kernel
theorem d1_4 : decode method_2_code 4 = .ok (.iload_n 1, 1) := by decide +kernel
theorem d1_5 : decode method_2_code 5 = .ok (.ifCond .ne 6, 3) := by decide +kernel
theorem d1_8 : decode method_2_code 8 = .ok (.bipush 10, 2) := by decide +kernel
theorem d1_10 : decode method_2_code 10 = .ok (.ireturn, 1) := by decide +kernel
theorem d1_11 : decode method_2_code 11 = .ok (.iload_n 1, 1) := by decide +kernel
theorem d1_12 : decode method_2_code 12 = .ok (.iconst 1, 1) := by decide +kernel
theorem d1_13 : decode method_2_code 13 = .ok (.if_icmp .ne 6, 3) := by decide +kernel
theorem d1_16 : decode method_2_code 16 = .ok (.bipush 13, 2) := by decide +kernel
theorem d1_18 : decode method_2_code 18 = .ok (.ireturn, 1) := by decide +kernel
theorem d1_19 : decode method_2_code 19 = .ok (.iload_n 0, 1) := by decide +kernel
theorem d1_20 : decode method_2_code 20 = .ok (.iconst 2, 1) := by decide +kernel
theorem d1_21 : decode method_2_code 21 = .ok (.iushr, 1) := by decide +kernel
theorem d1_22 : decode method_2_code 22 = .ok (.i2c, 1) := by decide +kernel
theorem d1_23 : decode method_2_code 23 = .ok (.ireturn, 1) := by decide +kernel
def own_v1_0 (q : Int32) : Int32 := (if (q &&& (3 : Int32)) = (0 : Int32) then (nar .char (10 : Int32)) else (if (q &&& (3 : Int32)) = (1 : Int32) then (nar .char (13 : Int32)) else (nar .char (own_c (own_us q (2 : Int32))))))
theorem pn_1 : plainName "com/example/covenantry/covenantry/TextFilesLineEndPinLaw" = true := by first | (simp [plainName, overriddenIn]; done) | decide +kernel
theorem ef_1 (m : MethodId) (q : Int32) : entryFrame m #[(.int q)] 2 = mkF m 0 #[.val (.int q), .unset] [] := by first | (simp [entryFrame, mkF, argsToLocals, Value.category]; done) | rfl
set_option maxRecDepth 65536 in
set_option maxHeartbeats 40000000 in
theorem rm1 (l : Launch) (Z : State) (a0 : Array Value) (hw : ∀ d ∈ tables_1, d.before a0 Z = true) (ws : List Jvm.Cond) (q : Int32) (h0 : Heap)  :
    MetFree l (⟨"com/example/covenantry/covenantry/TextFilesLineEndPinLaw", "ch", "(I)C"⟩ : MethodName) (head1 (Jvm.Cond.code (⟨"com/example/covenantry/covenantry/TextFilesLineEndPinLaw", "ch", "(I)C"⟩ : MethodName) method_2_code 2 (some .char) :: ws) ({ frames := 0, cells := 0, slots := 0, locals := 0 } : Room)) (fun aa U => aa = #[(.int q)] ∧ Z.Warmed39 U.vm ∧ U.heap = h0) (fun _ _ _ _ _ => True) (fun _ U o U' => ∃ v L, o = .returned v ∧ own_Q (some (.int (own_v1_0 q))) h0 v U'.heap L ∧ FrameEnd U o U' L ({ frames := 0, cells := 0, slots := 0, locals := 0 } : Room).cells ({ frames := 0, cells := 0, slots := 0, locals := 0 } : Room).slots) := by
  refine MetFree.of_bodySF (plainFor_of_name pn_1) hisR ?_
  intro p e s m args below meth c s₁ Bd hml0 hP hK
  obtain ⟨rfl, hZ, hh⟩ := hP
  have hx := Bd.exec
  have hby := Bd.bytes
  have hml : c.maxLocals = 2 := hml0
  have hlk : meth.locks = false := Bd.notSynchronized
  have hown : s.vm.findClass "com/example/covenantry/covenantry/TextFilesLineEndPinLaw" = some m.cls := findClass_of_methodNamed Bd.named
  have X0 : Stand p l e ({ frames := 0, cells := 0, slots := 0, locals := 0 } : Room) s m #[(.int q)] below meth c s₁ [] 0 0 := Stand.of_body Bd
  have e0 : s₁.heap = h0 := by rw [← hh, Bd.state]; rfl
  refine own_G0 (own_go (fun _ k => castTop (ef_1 m q) k) ?_)
  show own_G p e below s (own_Q (some (.int (if (q &&& (3 : Int32)) = (0 : Int32) then (nar .char (10 : Int32)) else (if (q &&& (3 : Int32)) = (1 : Int32) then (nar .char (13 : Int32)) else (nar .char (own_c (own_us q (2 : Int32)))))))) h0) ({ frames := 0, cells := 0, slots := 0, locals := 0 } : Room).cells ({ frames := 0, cells := 0, slots := 0, locals := 0 } : Room).slots (s₁.setTop (mkF m 0 #[.val (.int q), .unset] []))
  refine own_go (fun _ => XS.iloadN X0.here hx rfl (hb hby d1_0) rfl) ?_
  show own_G p e below s _ _ _ (s₁.setTop (mkF m 1 #[.val (.int q), .unset] [(.int q)]))
  refine own_go (fun _ => XS.iconst X0.here hx rfl (hb hby d1_1)) ?_
  show own_G p e below s _ _ _ (s₁.setTop (mkF m 2 #[.val (.int q), .unset] [(.int (3 : Int32)), (.int q)]))
  refine own_go (fun _ => XS.iand X0.here hx rfl (hb hby d1_2) rfl) ?_
  show own_G p e below s _ _ _ (s₁.setTop (mkF m 3 #[.val (.int q), .unset] [(.int (q &&& (3 : Int32)))]))
  refine own_go (fun _ => XS.istoreN X0.here hx rfl (hb hby d1_3) rfl (l' := #[.val (.int q), .val (.int (q &&& (3 : Int32)))]) rfl) ?_
  show own_G p e below s _ _ _ (s₁.setTop (mkF m 4 #[.val (.int q), .val (.int (q &&& (3 : Int32)))] []))
  refine own_go (fun _ => XS.iloadN X0.here hx rfl (hb hby d1_4) rfl) ?_
  show own_G p e below s _ _ _ (s₁.setTop (mkF m 5 #[.val (.int q), .val (.int (q &&& (3 : Int32)))] [(.int (q &&& (3 : Int32)))]))
  by_cases hc5 : (q &&& (3 : Int32)) = (0 : Int32)
  · refine own_eq (if_pos hc5) ?_
    refine own_go (fun _ => XS.ifNo X0.here hx rfl (hb hby d1_5) rfl ((if0 _ _).trans (teq hc5).2)) ?_
    show own_G p e below s _ _ _ (s₁.setTop (mkF m 8 #[.val (.int q), .val (.int (q &&& (3 : Int32)))] []))
    refine own_go (fun _ => XS.bipush X0.here hx rfl (hb hby d1_8)) ?_
    show own_G p e below s _ _ _ (s₁.setTop (mkF m 10 #[.val (.int q), .val (.int (q &&& (3 : Int32)))] [(.int (10 : Int32))]))
    exact own_retN X0 hx hlk (t := .char) Bd.returns (by simp) (hb hby d1_10) (by decide) (by decide) ⟨rfl, rfl, e0⟩
  · refine own_eq (if_neg hc5) ?_
    refine own_go (fun _ => XS.ifYes X0.here hx rfl (pc0 := 5) (pc' := 11) rfl (hb hby d1_5) rfl ((if0 _ _).trans (feq hc5).2) (by decide) (by decide)) ?_
    show own_G p e below s _ _ _ (s₁.setTop (mkF m 11 #[.val (.int q), .val (.int (q &&& (3 : Int32)))] []))
    refine own_go (fun _ => XS.iloadN X0.here hx rfl (hb hby d1_11) rfl) ?_
    show own_G p e below s _ _ _ (s₁.setTop (mkF m 12 #[.val (.int q), .val (.int (q &&& (3 : Int32)))] [(.int (q &&& (3 : Int32)))]))
    refine own_go (fun _ => XS.iconst X0.here hx rfl (hb hby d1_12)) ?_
    show own_G p e below s _ _ _ (s₁.setTop (mkF m 13 #[.val (.int q), .val (.int (q &&& (3 : Int32)))] [(.int (1 : Int32)), (.int (q &&& (3 : Int32)))]))
    by_cases hc13 : (q &&& (3 : Int32)) = (1 : Int32)
    · refine own_eq (if_pos hc13) ?_
      refine own_go (fun _ => XS.icmpNo X0.here hx rfl (hb hby d1_13) rfl (teq hc13).2) ?_
      show own_G p e below s _ _ _ (s₁.setTop (mkF m 16 #[.val (.int q), .val (.int (q &&& (3 : Int32)))] []))
      refine own_go (fun _ => XS.bipush X0.here hx rfl (hb hby d1_16)) ?_
      show own_G p e below s _ _ _ (s₁.setTop (mkF m 18 #[.val (.int q), .val (.int (q &&& (3 : Int32)))] [(.int (13 : Int32))]))
      exact own_retN X0 hx hlk (t := .char) Bd.returns (by simp) (hb hby d1_18) (by decide) (by decide) ⟨rfl, rfl, e0⟩
    · refine own_eq (if_neg hc13) ?_
      refine own_go (fun _ => XS.icmpYes X0.here hx rfl (pc0 := 13) (pc' := 19) rfl (hb hby d1_13) rfl (feq hc13).2 (by decide) (by decide)) ?_
      show own_G p e below s _ _ _ (s₁.setTop (mkF m 19 #[.val (.int q), .val (.int (q &&& (3 : Int32)))] []))
      refine own_go (fun _ => XS.iloadN X0.here hx rfl (hb hby d1_19) rfl) ?_
      show own_G p e below s _ _ _ (s₁.setTop (mkF m 20 #[.val (.int q), .val (.int (q &&& (3 : Int32)))] [(.int q)]))
      refine own_go (fun _ => XS.iconst X0.here hx rfl (hb hby d1_20)) ?_
      show own_G p e below s _ _ _ (s₁.setTop (mkF m 21 #[.val (.int q), .val (.int (q &&& (3 : Int32)))] [(.int (2 : Int32)), (.int q)]))
      refine own_go (fun _ => XS.iushr X0.here hx rfl (hb hby d1_21) rfl) ?_
      show own_G p e below s _ _ _ (s₁.setTop (mkF m 22 #[.val (.int q), .val (.int (q &&& (3 : Int32)))] [(.int (own_us q (2 : Int32)))]))
      refine own_go (fun _ => XS.i2c X0.here hx rfl (hb hby d1_22) rfl) ?_
      show own_G p e below s _ _ _ (s₁.setTop (mkF m 23 #[.val (.int q), .val (.int (q &&& (3 : Int32)))] [(.int (own_c (own_us q (2 : Int32))))]))
      exact own_retN X0 hx hlk (t := .char) Bd.returns (by simp) (hb hby d1_23) (by decide) (by decide) ⟨rfl, rfl, e0⟩
theorem d2_0 : decode method_3_code 0 = .ok (.iload_n 0, 1) := by decide +kernel
theorem d2_1 : decode method_3_code 1 = .ok (.bipush 10, 2) := by decide +kernel
theorem d2_3 : decode method_3_code 3 = .ok (.if_icmp .eq 9, 3) := by decide +kernel
theorem d2_6 : decode method_3_code 6 = .ok (.iload_n 0, 1) := by decide +kernel
theorem d2_7 : decode method_3_code 7 = .ok (.bipush 13, 2) := by decide +kernel
theorem d2_9 : decode method_3_code 9 = .ok (.if_icmp .ne 7, 3) := by decide +kernel
theorem d2_12 : decode method_3_code 12 = .ok (.iconst 1, 1) := by decide +kernel
theorem d2_13 : decode method_3_code 13 = .ok (.goto 4, 3) := by decide +kernel
theorem d2_16 : decode method_3_code 16 = .ok (.iconst 0, 1) := by decide +kernel
theorem d2_17 : decode method_3_code 17 = .ok (.ireturn, 1) := by decide +kernel
def own_v2_17 (q : Int32) (j17_S0 : Int32) : Int32 := (nar .boolean j17_S0)
def own_v2_12 (q : Int32) : Int32 := (own_v2_17 q (1 : Int32))
def own_v2_0 (q : Int32) : Int32 := (if q = (10 : Int32) then (own_v2_12 q) else (if q = (13 : Int32) then (own_v2_12 q) else (own_v2_17 q (0 : Int32))))
theorem pn_2 : plainName "com/example/covenantry/covenantry/TextFilesLineEndPinLaw" = true := by first | (simp [plainName, overriddenIn]; done) | decide +kernel
theorem ef_2 (m : MethodId) (q : Int32) : entryFrame m #[(.int q)] 1 = mkF m 0 #[.val (.int q)] [] := by first | (simp [entryFrame, mkF, argsToLocals, Value.category]; done) | rfl
set_option maxRecDepth 65536 in
set_option maxHeartbeats 40000000 in
theorem rm2 (l : Launch) (Z : State) (a0 : Array Value) (hw : ∀ d ∈ tables_1, d.before a0 Z = true) (ws : List Jvm.Cond) (q : Int32) (h0 : Heap)  :
    MetFree l (⟨"com/example/covenantry/covenantry/TextFilesLineEndPinLaw", "br", "(C)Z"⟩ : MethodName) (head1 (Jvm.Cond.code (⟨"com/example/covenantry/covenantry/TextFilesLineEndPinLaw", "br", "(C)Z"⟩ : MethodName) method_3_code 1 (some .boolean) :: ws) ({ frames := 0, cells := 0, slots := 0, locals := 0 } : Room)) (fun aa U => aa = #[(.int q)] ∧ Z.Warmed39 U.vm ∧ U.heap = h0) (fun _ _ _ _ _ => True) (fun _ U o U' => ∃ v L, o = .returned v ∧ own_Q (some (.int (own_v2_0 q))) h0 v U'.heap L ∧ FrameEnd U o U' L ({ frames := 0, cells := 0, slots := 0, locals := 0 } : Room).cells ({ frames := 0, cells := 0, slots := 0, locals := 0 } : Room).slots) := by
  refine MetFree.of_bodySF (plainFor_of_name pn_2) hisR ?_
  intro p e s m args below meth c s₁ Bd hml0 hP hK
  obtain ⟨rfl, hZ, hh⟩ := hP
  have hx := Bd.exec
  have hby := Bd.bytes
  have hml : c.maxLocals = 1 := hml0
  have hlk : meth.locks = false := Bd.notSynchronized
  have hown : s.vm.findClass "com/example/covenantry/covenantry/TextFilesLineEndPinLaw" = some m.cls := findClass_of_methodNamed Bd.named
  have X0 : Stand p l e ({ frames := 0, cells := 0, slots := 0, locals := 0 } : Room) s m #[(.int q)] below meth c s₁ [] 0 0 := Stand.of_body Bd
  have e0 : s₁.heap = h0 := by rw [← hh, Bd.state]; rfl
  have b17 : ∀ (T : State), Stand p l e ({ frames := 0, cells := 0, slots := 0, locals := 0 } : Room) s m #[(.int q)] below meth c T [] 0 0 → T.heap = h0 → ∀ (j17_S0 : Int32), own_G p e below s (own_Q (some (.int (own_v2_17 q j17_S0))) h0) ({ frames := 0, cells := 0, slots := 0, locals := 0 } : Room).cells ({ frames := 0, cells := 0, slots := 0, locals := 0 } : Room).slots (T.setTop (mkF m 17 #[.val (.int q)] [(.int j17_S0)])) := by
    intro T X eT j17_S0
    show own_G p e below s (own_Q (some (.int (nar .boolean j17_S0))) h0) ({ frames := 0, cells := 0, slots := 0, locals := 0 } : Room).cells ({ frames := 0, cells := 0, slots := 0, locals := 0 } : Room).slots (T.setTop (mkF m 17 #[.val (.int q)] [(.int j17_S0)]))
    exact own_retN X hx hlk (t := .boolean) Bd.returns (by simp) (hb hby d2_17) (by decide) (by decide) ⟨rfl, rfl, eT⟩
  have b12 : ∀ (T : State), Stand p l e ({ frames := 0, cells := 0, slots := 0, locals := 0 } : Room) s m #[(.int q)] below meth c T [] 0 0 → T.heap = h0 → own_G p e below s (own_Q (some (.int (own_v2_12 q))) h0) ({ frames := 0, cells := 0, slots := 0, locals := 0 } : Room).cells ({ frames := 0, cells := 0, slots := 0, locals := 0 } : Room).slots (T.setTop (mkF m 12 #[.val (.int q)] [])) := by
    intro T X eT
    show own_G p e below s (own_Q (some (.int (own_v2_17 q (1 : Int32)))) h0) ({ frames := 0, cells := 0, slots := 0, locals := 0 } : Room).cells ({ frames := 0, cells := 0, slots := 0, locals := 0 } : Room).slots (T.setTop (mkF m 12 #[.val (.int q)] []))
    refine own_go (fun _ => XS.iconst X.here hx rfl (hb hby d2_12)) ?_
    show own_G p e below s _ _ _ (T.setTop (mkF m 13 #[.val (.int q)] [(.int (1 : Int32))]))
    refine own_go (fun _ => XS.goto X.here hx rfl (pc0 := 13) (pc' := 17) rfl (hb hby d2_13) (by decide) (by decide)) ?_
    exact b17 T X eT (1 : Int32)
  refine own_G0 (own_go (fun _ k => castTop (ef_2 m q) k) ?_)
  show own_G p e below s (own_Q (some (.int (if q = (10 : Int32) then (own_v2_12 q) else (if q = (13 : Int32) then (own_v2_12 q) else (own_v2_17 q (0 : Int32)))))) h0) ({ frames := 0, cells := 0, slots := 0, locals := 0 } : Room).cells ({ frames := 0, cells := 0, slots := 0, locals := 0 } : Room).slots (s₁.setTop (mkF m 0 #[.val (.int q)] []))
  refine own_go (fun _ => XS.iloadN X0.here hx rfl (hb hby d2_0) rfl) ?_
  show own_G p e below s _ _ _ (s₁.setTop (mkF m 1 #[.val (.int q)] [(.int q)]))
  refine own_go (fun _ => XS.bipush X0.here hx rfl (hb hby d2_1)) ?_
  show own_G p e below s _ _ _ (s₁.setTop (mkF m 3 #[.val (.int q)] [(.int (10 : Int32)), (.int q)]))
  by_cases hc3 : q = (10 : Int32)
  · refine own_eq (if_pos hc3) ?_
    refine own_go (fun _ => XS.icmpYes X0.here hx rfl (pc0 := 3) (pc' := 12) rfl (hb hby d2_3) rfl (teq hc3).1 (by decide) (by decide)) ?_
    exact b12 s₁ X0 e0
  · refine own_eq (if_neg hc3) ?_
    refine own_go (fun _ => XS.icmpNo X0.here hx rfl (hb hby d2_3) rfl (feq hc3).1) ?_
    show own_G p e below s _ _ _ (s₁.setTop (mkF m 6 #[.val (.int q)] []))
    refine own_go (fun _ => XS.iloadN X0.here hx rfl (hb hby d2_6) rfl) ?_
    show own_G p e below s _ _ _ (s₁.setTop (mkF m 7 #[.val (.int q)] [(.int q)]))
    refine own_go (fun _ => XS.bipush X0.here hx rfl (hb hby d2_7)) ?_
    show own_G p e below s _ _ _ (s₁.setTop (mkF m 9 #[.val (.int q)] [(.int (13 : Int32)), (.int q)]))
    by_cases hc9 : q = (13 : Int32)
    · refine own_eq (if_pos hc9) ?_
      refine own_go (fun _ => XS.icmpNo X0.here hx rfl (hb hby d2_9) rfl (teq hc9).2) ?_
      exact b12 s₁ X0 e0
    · refine own_eq (if_neg hc9) ?_
      refine own_go (fun _ => XS.icmpYes X0.here hx rfl (pc0 := 9) (pc' := 16) rfl (hb hby d2_9) rfl (feq hc9).2 (by decide) (by decide)) ?_
      show own_G p e below s _ _ _ (s₁.setTop (mkF m 16 #[.val (.int q)] []))
      refine own_go (fun _ => XS.iconst X0.here hx rfl (hb hby d2_16)) ?_
      exact b17 s₁ X0 e0 (0 : Int32)
def own_scan (f : Int32 → Int32) (n : Int32) : Nat → Int32 → Int32
  | 0, i => i
  | k + 1, i => if i < n then (if f i = (10 : Int32) then i else (if f i = (13 : Int32) then i else own_scan f n k (i + (1 : Int32)))) else i
theorem own_lt4 {i n : Int32} (h : i < n) (hn : ¬ (4 : Int32) < n) : i < 4 := by
  rw [own_lt] at h hn ⊢
  omega
theorem own_up {i n : Int32} (hi : ¬ i < 0) (h : i < n) : ¬ (i + 1) < 0 := by
  have e := own_inc h
  rw [own_lt] at hi ⊢
  have z : (0 : Int32).toInt = 0 := rfl
  omega
theorem own_k {i n : Int32} {k : Nat} (h : i < n) (hk : n.toInt ≤ i.toInt + ((k + 1 : Nat) : Int)) : n.toInt ≤ (i + 1).toInt + (k : Int) := by
  have e := own_inc h
  omega
theorem own_k0 {i n : Int32} (hk : n.toInt ≤ i.toInt + ((0 : Nat) : Int)) : ¬ i < n := by
  rw [own_lt]
  omega
theorem d3_0 : decode prog_89_method_4_code 0 = .ok (.iload_n 1, 1) := by decide +kernel
theorem d3_1 : decode prog_89_method_4_code 1 = .ok (.istore_n 3, 1) := by decide +kernel
theorem d3_2 : decode prog_89_method_4_code 2 = .ok (.iload_n 3, 1) := by decide +kernel
theorem d3_3 : decode prog_89_method_4_code 3 = .ok (.iload_n 2, 1) := by decide +kernel
theorem d3_4 : decode prog_89_method_4_code 4 = .ok (.if_icmp .ge 25, 3) := by decide +kernel
theorem d3_7 : decode prog_89_method_4_code 7 = .ok (.aload_n 0, 1) := by decide +kernel
theorem d3_8 : decode prog_89_method_4_code 8 = .ok (.iload_n 3, 1) := by decide +kernel
theorem d3_9 : decode prog_89_method_4_code 9 = .ok (.caload, 1) := by decide +kernel
theorem d3_10 : decode prog_89_method_4_code 10 = .ok (.bipush 10, 2) := by decide +kernel
theorem d3_12 : decode prog_89_method_4_code 12 = .ok (.if_icmp .eq 17, 3) := by decide +kernel
theorem d3_15 : decode prog_89_method_4_code 15 = .ok (.aload_n 0, 1) := by decide +kernel
theorem d3_16 : decode prog_89_method_4_code 16 = .ok (.iload_n 3, 1) := by decide +kernel
theorem d3_17 : decode prog_89_method_4_code 17 = .ok (.caload, 1) := by decide +kernel
theorem d3_18 : decode prog_89_method_4_code 18 = .ok (.bipush 13, 2) := by decide +kernel
theorem d3_20 : decode prog_89_method_4_code 20 = .ok (.if_icmp .eq 9, 3) := by decide +kernel
theorem d3_23 : decode prog_89_method_4_code 23 = .ok (.iinc 3 1, 3) := by decide +kernel
theorem d3_26 : decode prog_89_method_4_code 26 = .ok (.goto (-24), 3) := by decide +kernel
theorem d3_29 : decode prog_89_method_4_code 29 = .ok (.iload_n 3, 1) := by decide +kernel
theorem d3_30 : decode prog_89_method_4_code 30 = .ok (.ireturn, 1) := by decide +kernel
theorem pn_3 : plainName "com/example/covenantry/covenantry/TextFiles" = true := by first | (simp [plainName, overriddenIn]; done) | decide +kernel
theorem ef_3 (m : MethodId) (a : Addr) (st : Int32) (n : Int32) : entryFrame m #[(.ref a), (.int st), (.int n)] 4 = mkF m 0 #[.val (.ref a), .val (.int st), .val (.int n), .unset] [] := by first | (simp [entryFrame, mkF, argsToLocals, Value.category]; done) | rfl
set_option maxRecDepth 65536 in
set_option maxHeartbeats 40000000 in
theorem rm3 (l : Launch) (Z : State) (a0 : Array Value) (hw : ∀ d ∈ tables_1, d.before a0 Z = true) (ws : List Jvm.Cond) (a : Addr) (st : Int32) (n : Int32) (h0 : Heap) (f : Int32 → Int32) (A : own_A Z h0 a .char (4 : Int32) f) (hs0 : ¬ st < 0) (hn : ¬ (4 : Int32) < n) (hk : n.toInt ≤ st.toInt + 4) :
    MetFree l (⟨"com/example/covenantry/covenantry/TextFiles", "lineEnd", "([CII)I"⟩ : MethodName) (head1 (Jvm.Cond.code (⟨"com/example/covenantry/covenantry/TextFiles", "lineEnd", "([CII)I"⟩ : MethodName) prog_89_method_4_code 4 (some .int) :: ws) ({ frames := 0, cells := 0, slots := 0, locals := 0 } : Room)) (fun aa U => aa = #[(.ref a), (.int st), (.int n)] ∧ Z.Warmed39 U.vm ∧ U.heap = h0) (fun _ _ _ _ _ => True) (fun _ U o U' => ∃ v L, o = .returned v ∧ own_Q (some (.int (own_scan f n 4 st))) h0 v U'.heap L ∧ FrameEnd U o U' L ({ frames := 0, cells := 0, slots := 0, locals := 0 } : Room).cells ({ frames := 0, cells := 0, slots := 0, locals := 0 } : Room).slots) := by
  refine MetFree.of_bodySF (plainFor_of_name pn_3) hisR ?_
  intro p e s m args below meth c s₁ Bd hml0 hP hK
  obtain ⟨rfl, hZ, hh⟩ := hP
  have hx := Bd.exec
  have hby := Bd.bytes
  have hml : c.maxLocals = 4 := hml0
  have hlk : meth.locks = false := Bd.notSynchronized
  have hown : s.vm.findClass "com/example/covenantry/covenantry/TextFiles" = some m.cls := findClass_of_methodNamed Bd.named
  have X0 : Stand p l e ({ frames := 0, cells := 0, slots := 0, locals := 0 } : Room) s m #[(.ref a), (.int st), (.int n)] below meth c s₁ [] 0 0 := Stand.of_body Bd
  have e0 : s₁.heap = h0 := by rw [← hh, Bd.state]; rfl
  have b29 : ∀ (T : State) (i : Int32), Stand p l e ({ frames := 0, cells := 0, slots := 0, locals := 0 } : Room) s m #[(.ref a), (.int st), (.int n)] below meth c T [] 0 0 → T.heap = h0 → own_G p e below s (own_Q (some (.int i)) h0) ({ frames := 0, cells := 0, slots := 0, locals := 0 } : Room).cells ({ frames := 0, cells := 0, slots := 0, locals := 0 } : Room).slots (T.setTop (mkF m 29 #[.val (.ref a), .val (.int st), .val (.int n), .val (.int i)] [])) := by
    intro T i X eT
    show own_G p e below s _ _ _ (T.setTop (mkF m 29 #[.val (.ref a), .val (.int st), .val (.int n), .val (.int i)] []))
    refine own_go (fun _ => XS.iloadN X.here hx rfl (hb hby d3_29) rfl) ?_
    show own_G p e below s _ _ _ (T.setTop (mkF m 30 #[.val (.ref a), .val (.int st), .val (.int n), .val (.int i)] [(.int i)]))
    exact own_retI X hx hlk Bd.returns (hb hby d3_30) (by decide) (by decide) ⟨rfl, rfl, eT⟩
  have b2 : ∀ (k : Nat) (T : State) (i : Int32), Stand p l e ({ frames := 0, cells := 0, slots := 0, locals := 0 } : Room) s m #[(.ref a), (.int st), (.int n)] below meth c T [] 0 0 → T.heap = h0 → ¬ i < 0 → n.toInt ≤ i.toInt + (k : Int) → own_G p e below s (own_Q (some (.int (own_scan f n k i))) h0) ({ frames := 0, cells := 0, slots := 0, locals := 0 } : Room).cells ({ frames := 0, cells := 0, slots := 0, locals := 0 } : Room).slots (T.setTop (mkF m 2 #[.val (.ref a), .val (.int st), .val (.int n), .val (.int i)] [])) := by
    intro k
    induction k with
    | zero =>
      intro T i X eT hi hk
      show own_G p e below s (own_Q (some (.int i)) h0) ({ frames := 0, cells := 0, slots := 0, locals := 0 } : Room).cells ({ frames := 0, cells := 0, slots := 0, locals := 0 } : Room).slots (T.setTop (mkF m 2 #[.val (.ref a), .val (.int st), .val (.int n), .val (.int i)] []))
      refine own_go (fun _ => XS.iloadN X.here hx rfl (hb hby d3_2) rfl) ?_
      show own_G p e below s _ _ _ (T.setTop (mkF m 3 #[.val (.ref a), .val (.int st), .val (.int n), .val (.int i)] [(.int i)]))
      refine own_go (fun _ => XS.iloadN X.here hx rfl (hb hby d3_3) rfl) ?_
      show own_G p e below s _ _ _ (T.setTop (mkF m 4 #[.val (.ref a), .val (.int st), .val (.int n), .val (.int i)] [(.int n), (.int i)]))
      refine own_go (fun _ => XS.icmpYes X.here hx rfl (pc0 := 4) (pc' := 29) rfl (hb hby d3_4) rfl (flt (own_k0 hk)).2.1 (by decide) (by decide)) ?_
      exact b29 T i X eT
    | succ k ih =>
      intro T i X eT hi hk
      show own_G p e below s (own_Q (some (.int (if i < n then (if (f i) = (10 : Int32) then i else (if (f i) = (13 : Int32) then i else (own_scan f n k (i + (1 : Int32))))) else i))) h0) ({ frames := 0, cells := 0, slots := 0, locals := 0 } : Room).cells ({ frames := 0, cells := 0, slots := 0, locals := 0 } : Room).slots (T.setTop (mkF m 2 #[.val (.ref a), .val (.int st), .val (.int n), .val (.int i)] []))
      refine own_go (fun _ => XS.iloadN X.here hx rfl (hb hby d3_2) rfl) ?_
      show own_G p e below s _ _ _ (T.setTop (mkF m 3 #[.val (.ref a), .val (.int st), .val (.int n), .val (.int i)] [(.int i)]))
      refine own_go (fun _ => XS.iloadN X.here hx rfl (hb hby d3_3) rfl) ?_
      show own_G p e below s _ _ _ (T.setTop (mkF m 4 #[.val (.ref a), .val (.int st), .val (.int n), .val (.int i)] [(.int n), (.int i)]))
      by_cases hc4 : i < n
      · refine own_eq (if_pos hc4) ?_
        refine own_go (fun _ => XS.icmpNo X.here hx rfl (hb hby d3_4) rfl (tlt hc4).2.1) ?_
        show own_G p e below s _ _ _ (T.setTop (mkF m 7 #[.val (.ref a), .val (.int st), .val (.int n), .val (.int i)] []))
        refine own_go (fun _ => XS.aloadN X.here hx rfl (hb hby d3_7) rfl rfl) ?_
        show own_G p e below s _ _ _ (T.setTop (mkF m 8 #[.val (.ref a), .val (.int st), .val (.int n), .val (.int i)] [(.ref a)]))
        refine own_go (fun _ => XS.iloadN X.here hx rfl (hb hby d3_8) rfl) ?_
        show own_G p e below s _ _ _ (T.setTop (mkF m 9 #[.val (.ref a), .val (.int st), .val (.int n), .val (.int i)] [(.int i), (.ref a)]))
        refine own_go (fun _ => own_ldC X hx hZ eT A hi (own_lt4 hc4 hn) (g := (mkF m 9 #[.val (.ref a), .val (.int st), .val (.int n), .val (.int i)] [(.int i), (.ref a)])) rfl rfl (hb hby d3_9) _) ?_
        show own_G p e below s _ _ _ (T.setTop (mkF m 10 #[.val (.ref a), .val (.int st), .val (.int n), .val (.int i)] [(.int (f i))]))
        refine own_go (fun _ => XS.bipush X.here hx rfl (hb hby d3_10)) ?_
        show own_G p e below s _ _ _ (T.setTop (mkF m 12 #[.val (.ref a), .val (.int st), .val (.int n), .val (.int i)] [(.int (10 : Int32)), (.int (f i))]))
        by_cases hc12 : (f i) = (10 : Int32)
        · refine own_eq (if_pos hc12) ?_
          refine own_go (fun _ => XS.icmpYes X.here hx rfl (pc0 := 12) (pc' := 29) rfl (hb hby d3_12) rfl (teq hc12).1 (by decide) (by decide)) ?_
          exact b29 T i X eT
        · refine own_eq (if_neg hc12) ?_
          refine own_go (fun _ => XS.icmpNo X.here hx rfl (hb hby d3_12) rfl (feq hc12).1) ?_
          show own_G p e below s _ _ _ (T.setTop (mkF m 15 #[.val (.ref a), .val (.int st), .val (.int n), .val (.int i)] []))
          refine own_go (fun _ => XS.aloadN X.here hx rfl (hb hby d3_15) rfl rfl) ?_
          show own_G p e below s _ _ _ (T.setTop (mkF m 16 #[.val (.ref a), .val (.int st), .val (.int n), .val (.int i)] [(.ref a)]))
          refine own_go (fun _ => XS.iloadN X.here hx rfl (hb hby d3_16) rfl) ?_
          show own_G p e below s _ _ _ (T.setTop (mkF m 17 #[.val (.ref a), .val (.int st), .val (.int n), .val (.int i)] [(.int i), (.ref a)]))
          refine own_go (fun _ => own_ldC X hx hZ eT A hi (own_lt4 hc4 hn) (g := (mkF m 17 #[.val (.ref a), .val (.int st), .val (.int n), .val (.int i)] [(.int i), (.ref a)])) rfl rfl (hb hby d3_17) _) ?_
          show own_G p e below s _ _ _ (T.setTop (mkF m 18 #[.val (.ref a), .val (.int st), .val (.int n), .val (.int i)] [(.int (f i))]))
          refine own_go (fun _ => XS.bipush X.here hx rfl (hb hby d3_18)) ?_
          show own_G p e below s _ _ _ (T.setTop (mkF m 20 #[.val (.ref a), .val (.int st), .val (.int n), .val (.int i)] [(.int (13 : Int32)), (.int (f i))]))
          by_cases hc20 : (f i) = (13 : Int32)
          · refine own_eq (if_pos hc20) ?_
            refine own_go (fun _ => XS.icmpYes X.here hx rfl (pc0 := 20) (pc' := 29) rfl (hb hby d3_20) rfl (teq hc20).1 (by decide) (by decide)) ?_
            exact b29 T i X eT
          · refine own_eq (if_neg hc20) ?_
            refine own_go (fun _ => XS.icmpNo X.here hx rfl (hb hby d3_20) rfl (feq hc20).1) ?_
            show own_G p e below s _ _ _ (T.setTop (mkF m 23 #[.val (.ref a), .val (.int st), .val (.int n), .val (.int i)] []))
            refine own_go (fun _ => XS.iinc X.here hx rfl (hb hby d3_23) rfl (l' := #[.val (.ref a), .val (.int st), .val (.int n), .val (.int (i + (1 : Int32)))]) rfl) ?_
            show own_G p e below s _ _ _ (T.setTop (mkF m 26 #[.val (.ref a), .val (.int st), .val (.int n), .val (.int (i + (1 : Int32)))] []))
            refine own_go (fun _ => XS.goto X.here hx rfl (pc0 := 26) (pc' := 2) rfl (hb hby d3_26) (by decide) (by decide)) ?_
            exact ih T (i + (1 : Int32)) X eT (own_up hi hc4) (own_k hc4 hk)
      · refine own_eq (if_neg hc4) ?_
        refine own_go (fun _ => XS.icmpYes X.here hx rfl (pc0 := 4) (pc' := 29) rfl (hb hby d3_4) rfl (flt hc4).2.1 (by decide) (by decide)) ?_
        exact b29 T i X eT
  refine own_G0 (own_go (fun _ k => castTop (ef_3 m a st n) k) ?_)
  show own_G p e below s _ _ _ (s₁.setTop (mkF m 0 #[.val (.ref a), .val (.int st), .val (.int n), .unset] []))
  refine own_go (fun _ => XS.iloadN X0.here hx rfl (hb hby d3_0) rfl) ?_
  show own_G p e below s _ _ _ (s₁.setTop (mkF m 1 #[.val (.ref a), .val (.int st), .val (.int n), .unset] [(.int st)]))
  refine own_go (fun _ => XS.istoreN X0.here hx rfl (hb hby d3_1) rfl (l' := #[.val (.ref a), .val (.int st), .val (.int n), .val (.int st)]) rfl) ?_
  exact b2 4 s₁ st X0 e0 hs0 hk
def own_n0_f (q0 q1 q2 q3 : Int32) : Int32 → Int32 := (own_set (own_set (own_set (own_set (fun _ => 0) (0 : Int32) (nar .char (own_v1_0 q0))) (1 : Int32) (nar .char (own_v1_0 q1))) (2 : Int32) (nar .char (own_v1_0 q2))) (3 : Int32) (nar .char (own_v1_0 q3)))
def own_n0_44 (q5 : Int32) : Int32 := (own_rem (q5 &&& (7 : Int32)) (5 : Int32))
def own_n0_56 (q4 : Int32) (q5 : Int32) : Int32 := (own_rem (q4 &&& (2147483647 : Int32)) ((own_n0_44 q5) + (1 : Int32)))
def own_v0_185 (f_a1 : Int32 → Int32) (q0 : Int32) (q1 : Int32) (q2 : Int32) (q3 : Int32) (q4 : Int32) (q5 : Int32) (j162_L9 : Int32) (j185_S0 : Int32) : Int32 := (nar .boolean j185_S0)
def own_v0_162 (f_a1 : Int32 → Int32) (q0 : Int32) (q1 : Int32) (q2 : Int32) (q3 : Int32) (q4 : Int32) (q5 : Int32) (j162_L9 : Int32) : Int32 := (if (own_scan f_a1 (own_n0_44 q5) 4 (own_n0_56 q4 q5)) = j162_L9 then (own_v0_185 f_a1 q0 q1 q2 q3 q4 q5 j162_L9 (1 : Int32)) else (own_v0_185 f_a1 q0 q1 q2 q3 q4 q5 j162_L9 (0 : Int32)))
def own_v0_137 (f_a1 : Int32 → Int32) (q0 : Int32) (q1 : Int32) (q2 : Int32) (q3 : Int32) (q4 : Int32) (q5 : Int32) (j137_L9 : Int32) : Int32 := (if (0 : Int32) < (own_n0_56 q4 q5) then (own_v0_162 f_a1 q0 q1 q2 q3 q4 q5 j137_L9) else (if (0 : Int32) < (own_n0_44 q5) then (if (own_v2_0 (f_a1 (0 : Int32))) = (0 : Int32) then (own_v0_162 f_a1 q0 q1 q2 q3 q4 q5 j137_L9) else (own_v0_162 f_a1 q0 q1 q2 q3 q4 q5 (0 : Int32))) else (own_v0_162 f_a1 q0 q1 q2 q3 q4 q5 j137_L9)))
def own_v0_112 (f_a1 : Int32 → Int32) (q0 : Int32) (q1 : Int32) (q2 : Int32) (q3 : Int32) (q4 : Int32) (q5 : Int32) (j112_L9 : Int32) : Int32 := (if (1 : Int32) < (own_n0_56 q4 q5) then (own_v0_137 f_a1 q0 q1 q2 q3 q4 q5 j112_L9) else (if (1 : Int32) < (own_n0_44 q5) then (if (own_v2_0 (f_a1 (1 : Int32))) = (0 : Int32) then (own_v0_137 f_a1 q0 q1 q2 q3 q4 q5 j112_L9) else (own_v0_137 f_a1 q0 q1 q2 q3 q4 q5 (1 : Int32))) else (own_v0_137 f_a1 q0 q1 q2 q3 q4 q5 j112_L9)))
def own_v0_87 (f_a1 : Int32 → Int32) (q0 : Int32) (q1 : Int32) (q2 : Int32) (q3 : Int32) (q4 : Int32) (q5 : Int32) (j87_L9 : Int32) : Int32 := (if (2 : Int32) < (own_n0_56 q4 q5) then (own_v0_112 f_a1 q0 q1 q2 q3 q4 q5 j87_L9) else (if (2 : Int32) < (own_n0_44 q5) then (if (own_v2_0 (f_a1 (2 : Int32))) = (0 : Int32) then (own_v0_112 f_a1 q0 q1 q2 q3 q4 q5 j87_L9) else (own_v0_112 f_a1 q0 q1 q2 q3 q4 q5 (2 : Int32))) else (own_v0_112 f_a1 q0 q1 q2 q3 q4 q5 j87_L9)))
def own_v0_62 (q0 : Int32) (q1 : Int32) (q2 : Int32) (q3 : Int32) (q4 : Int32) (q5 : Int32) : Int32 := (if (3 : Int32) < (own_n0_56 q4 q5) then (own_v0_87 (own_n0_f q0 q1 q2 q3) q0 q1 q2 q3 q4 q5 (own_n0_44 q5)) else (if (3 : Int32) < (own_n0_44 q5) then (if (own_v2_0 ((own_n0_f q0 q1 q2 q3) (3 : Int32))) = (0 : Int32) then (own_v0_87 (own_n0_f q0 q1 q2 q3) q0 q1 q2 q3 q4 q5 (own_n0_44 q5)) else (own_v0_87 (own_n0_f q0 q1 q2 q3) q0 q1 q2 q3 q4 q5 (3 : Int32))) else (own_v0_87 (own_n0_f q0 q1 q2 q3) q0 q1 q2 q3 q4 q5 (own_n0_44 q5))))
theorem own_len_i (q : Int32) : 0 ≤ (own_n0_44 q).toInt ∧ (own_n0_44 q).toInt ≤ 4 := by
  have h := own_mask q 7 (by decide)
  have e := own_rem_i (y := (5 : Int32)) h.1 (by decide)
  have e5 : (5 : Int32).toInt = 5 := rfl
  rw [own_n0_44, e, e5]
  omega
theorem own_len1_i (q : Int32) : (own_n0_44 q + 1).toInt = (own_n0_44 q).toInt + 1 := by
  have h := own_len_i q
  have e : (1 : Int32).toInt = 1 := rfl
  rw [own_add_i (by omega) (by omega), e]
theorem own_len1 (q : Int32) : own_n0_44 q + 1 ≠ 0 := own_ne0 (by have := own_len1_i q; have := own_len_i q; omega)
theorem own_st_i (q4 q5 : Int32) : 0 ≤ (own_n0_56 q4 q5).toInt ∧ (own_n0_56 q4 q5).toInt ≤ (own_n0_44 q5).toInt := by
  have h := own_len1_i q5
  have h1 := own_len_i q5
  have e := own_rem_i (y := own_n0_44 q5 + 1) (own_m31 q4) (by omega)
  have a := Int.emod_nonneg (q4 &&& (2147483647 : Int32)).toInt (b := (own_n0_44 q5 + 1).toInt) (by omega)
  have b := Int.emod_lt_of_pos (q4 &&& (2147483647 : Int32)).toInt (b := (own_n0_44 q5 + 1).toInt) (by omega)
  rw [own_n0_56, e]
  omega
theorem own_st0 (q4 q5 : Int32) : ¬ own_n0_56 q4 q5 < 0 := by
  have := own_st_i q4 q5
  have e : (0 : Int32).toInt = 0 := rfl
  rw [own_lt]
  omega
theorem own_len4 (q5 : Int32) : ¬ (4 : Int32) < own_n0_44 q5 := by
  have := own_len_i q5
  have e : (4 : Int32).toInt = 4 := rfl
  rw [own_lt]
  omega
theorem own_stk (q4 q5 : Int32) : (own_n0_44 q5).toInt ≤ (own_n0_56 q4 q5).toInt + 4 := by
  have := own_len_i q5
  have := own_st_i q4 q5
  omega
def own_b (f : Int32 → Int32) (i : Int32) : Bool := decide (f i = 10) || decide (f i = 13)
theorem own_br (f : Int32 → Int32) (i : Int32) : own_v2_0 (f i) = bif own_b f i then 1 else 0 := by
  have m1 : nar .boolean (1 : Int32) = 1 := rfl
  have m0 : nar .boolean (0 : Int32) = 0 := rfl
  simp only [own_v2_0, own_v2_12, own_v2_17, m1, m0, own_b]
  by_cases h : f i = 10
  · simp [h]
  · by_cases h' : f i = 13
    · simp [h']
    · simp [h, h']
def own_e (n t : Int32) (b : Int32 → Bool) (i e : Int32) : Int32 := if i < t then e else if i < n then (bif b i then i else e) else e
def own_scb (b : Int32 → Bool) (n : Int32) : Nat → Int32 → Int32
  | 0, i => i
  | k + 1, i => if i < n then (bif b i then i else own_scb b n k (i + (1 : Int32))) else i
theorem own_scan_b (f : Int32 → Int32) (n : Int32) (k : Nat) (i : Int32) : own_scan f n k i = own_scb (own_b f) n k i := by
  induction k generalizing i with
  | zero => rfl
  | succ k ih =>
    rw [own_scan, own_scb, ih, own_b]
    by_cases h : f i = 10
    · simp [h]
    · by_cases h' : f i = 13
      · simp [h']
      · simp [h, h']
theorem own_seg {V : Int32 → Int32} {n t e i : Int32} {f : Int32 → Int32} : (if i < t then V e else if i < n then (if own_v2_0 (f i) = 0 then V e else V i) else V e) = V (own_e n t (own_b f) i e) := by
  rw [own_br, own_e]
  have t1 : ¬ (1 : Int32) = 0 := by decide
  by_cases h : i < t
  · rw [if_pos h, if_pos h]
  · rw [if_neg h, if_neg h]
    by_cases h' : i < n
    · rw [if_pos h', if_pos h']
      cases own_b f i
      · rfl
      · rfl
    · rw [if_neg h', if_neg h']
theorem own_five {x : Int32} (h0 : 0 ≤ x.toInt) (h4 : x.toInt ≤ 4) : x = 0 ∨ x = 1 ∨ x = 2 ∨ x = 3 ∨ x = 4 := by
  have e0 : (0 : Int32).toInt = 0 := rfl
  have e1 : (1 : Int32).toInt = 1 := rfl
  have e2 : (2 : Int32).toInt = 2 := rfl
  have e3 : (3 : Int32).toInt = 3 := rfl
  have e4 : (4 : Int32).toInt = 4 := rfl
  simp only [← Int32.toInt_inj, e0, e1, e2, e3, e4]
  omega
theorem own_chk {n t : Int32} (b : Int32 → Bool) (hn : n = 0 ∨ n = 1 ∨ n = 2 ∨ n = 3 ∨ n = 4) (ht : t = 0 ∨ t = 1 ∨ t = 2 ∨ t = 3 ∨ t = 4) (h : t.toInt ≤ n.toInt) : own_scb b n 4 t = own_e n t b 0 (own_e n t b 1 (own_e n t b 2 (own_e n t b 3 n))) := by
  rcases hn with rfl | rfl | rfl | rfl | rfl <;> rcases ht with rfl | rfl | rfl | rfl | rfl <;> first
    | (exfalso; revert h; decide)
    | (simp only [own_scb, own_e, ↓reduceIte, Int32.reduceLT, Int32.reduceAdd])
theorem own_law (q0 q1 q2 q3 q4 q5 : Int32) : own_v0_62 q0 q1 q2 q3 q4 q5 = 1 := by
  have hl := own_len_i q5
  have hs := own_st_i q4 q5
  have h := own_chk (own_b (own_n0_f q0 q1 q2 q3)) (own_five hl.1 hl.2) (own_five hs.1 (by omega)) hs.2
  rw [← own_scan_b] at h
  generalize hf : own_n0_f q0 q1 q2 q3 = f at h
  have s3 : own_v0_62 q0 q1 q2 q3 q4 q5 = own_v0_87 f q0 q1 q2 q3 q4 q5 (own_e (own_n0_44 q5) (own_n0_56 q4 q5) (own_b f) 3 (own_n0_44 q5)) := by
    rw [own_v0_62, hf]
    exact own_seg
  have s2 : ∀ e, own_v0_87 f q0 q1 q2 q3 q4 q5 e = own_v0_112 f q0 q1 q2 q3 q4 q5 (own_e (own_n0_44 q5) (own_n0_56 q4 q5) (own_b f) 2 e) := fun e => own_seg
  have s1 : ∀ e, own_v0_112 f q0 q1 q2 q3 q4 q5 e = own_v0_137 f q0 q1 q2 q3 q4 q5 (own_e (own_n0_44 q5) (own_n0_56 q4 q5) (own_b f) 1 e) := fun e => own_seg
  have s0 : ∀ e, own_v0_137 f q0 q1 q2 q3 q4 q5 e = own_v0_162 f q0 q1 q2 q3 q4 q5 (own_e (own_n0_44 q5) (own_n0_56 q4 q5) (own_b f) 0 e) := fun e => own_seg
  rw [s3, s2, s1, s0, own_v0_162, if_pos h]
  rfl
theorem pn_0 : plainName "com/example/covenantry/covenantry/TextFilesLineEndPinLaw" = true := by first | (simp [plainName, overriddenIn]; done) | decide +kernel
theorem ef_0 (m : MethodId) (q0 : Int32) (q1 : Int32) (q2 : Int32) (q3 : Int32) (q4 : Int32) (q5 : Int32) : entryFrame m #[(.int q0), (.int q1), (.int q2), (.int q3), (.int q4), (.int q5)] maxLocals = mkF m 0 #[.val (.int q0), .val (.int q1), .val (.int q2), .val (.int q3), .val (.int q4), .val (.int q5), .unset, .unset, .unset, .unset, .unset] [] := by first | (simp [entryFrame, mkF, argsToLocals, Value.category, maxLocals]; done) | rfl
set_option maxRecDepth 65536 in
set_option maxHeartbeats 40000000 in
theorem rm0 (l : Launch) (Z : State) (a0 : Array Value) (hw : ∀ d ∈ tables_1, d.before a0 Z = true) (ws : List Jvm.Cond) (q0 : Int32) (q1 : Int32) (q2 : Int32) (q3 : Int32) (q4 : Int32) (q5 : Int32) (h0 : Heap) (n0 : Nat) (Z0 : n0 ≤ h0.size)  :
    MetFree l x (head1 (Jvm.Cond.code x code maxLocals ret :: ws) room_1) (fun aa U => aa = #[(.int q0), (.int q1), (.int q2), (.int q3), (.int q4), (.int q5)] ∧ Z.Warmed39 U.vm ∧ U.heap = h0) (fun _ _ _ _ _ => True) (fun _ U o U' => ∃ v L, o = .returned v ∧ own_QF (some (.int (own_v0_62 q0 q1 q2 q3 q4 q5))) n0 v U'.heap L ∧ FrameEnd U o U' L room_1.cells room_1.slots) := by
  refine MetFree.of_bodySF (plainFor_of_name pn_0) hisR ?_
  intro p e s m args below meth c s₁ Bd hml0 hP hK
  obtain ⟨rfl, hZ, hh⟩ := hP
  have hx := Bd.exec
  have hby := Bd.bytes
  have hml : c.maxLocals = 11 := hml0
  have hlk : meth.locks = false := Bd.notSynchronized
  have hown : s.vm.findClass "com/example/covenantry/covenantry/TextFilesLineEndPinLaw" = some m.cls := findClass_of_methodNamed Bd.named
  have X0 : Stand p l e room_1 s m #[(.int q0), (.int q1), (.int q2), (.int q3), (.int q4), (.int q5)] below meth c s₁ [] 0 0 := Stand.of_body Bd
  have e0 : s₁.heap = h0 := by rw [← hh, Bd.state]; rfl
  refine own_G0 (own_go (fun _ k => castTop (ef_0 m q0 q1 q2 q3 q4 q5) k) ?_)
  show own_G p e below s _ _ _ (s₁.setTop (mkF m 0 #[.val (.int q0), .val (.int q1), .val (.int q2), .val (.int q3), .val (.int q4), .val (.int q5), .unset, .unset, .unset, .unset, .unset] []))
  refine own_go (fun _ => XS.iconst X0.here hx rfl (hb hby at_0)) ?_
  show own_G p e below s _ _ _ (s₁.setTop (mkF m 1 #[.val (.int q0), .val (.int q1), .val (.int q2), .val (.int q3), .val (.int q4), .val (.int q5), .unset, .unset, .unset, .unset, .unset] [(.int (4 : Int32))]))
  obtain ⟨T1, h1, a1, X1, e1, E1, ga1, g1, A1, st1⟩ := own_new X0 hx hZ (hw _ (List.mem_of_getElem? (i := 0) rfl)) e0 Z0 rfl (g := (mkF m 1 #[.val (.int q0), .val (.int q1), .val (.int q2), .val (.int q3), .val (.int q4), .val (.int q5), .unset, .unset, .unset, .unset, .unset] [(.int (4 : Int32))])) rfl (hb hby at_1) rfl (by decide) (cap := 4) (by decide) (by decide) (by decide) (by decide)
  refine own_go (fun _ => st1 _) ?_
  show own_G p e below s _ _ _ (T1.setTop (mkF m 3 #[.val (.int q0), .val (.int q1), .val (.int q2), .val (.int q3), .val (.int q4), .val (.int q5), .unset, .unset, .unset, .unset, .unset] [(.ref a1)]))
  refine own_go (fun _ => XS.astore X1.here hx rfl (hb hby at_3) rfl rfl (l' := #[.val (.int q0), .val (.int q1), .val (.int q2), .val (.int q3), .val (.int q4), .val (.int q5), .val (.ref a1), .unset, .unset, .unset, .unset]) rfl) ?_
  show own_G p e below s _ _ _ (T1.setTop (mkF m 5 #[.val (.int q0), .val (.int q1), .val (.int q2), .val (.int q3), .val (.int q4), .val (.int q5), .val (.ref a1), .unset, .unset, .unset, .unset] []))
  refine own_go (fun _ => XS.aload X1.here hx rfl (hb hby at_5) rfl rfl) ?_
  show own_G p e below s _ _ _ (T1.setTop (mkF m 7 #[.val (.int q0), .val (.int q1), .val (.int q2), .val (.int q3), .val (.int q4), .val (.int q5), .val (.ref a1), .unset, .unset, .unset, .unset] [(.ref a1)]))
  refine own_go (fun _ => XS.iconst X1.here hx rfl (hb hby at_7)) ?_
  show own_G p e below s _ _ _ (T1.setTop (mkF m 8 #[.val (.int q0), .val (.int q1), .val (.int q2), .val (.int q3), .val (.int q4), .val (.int q5), .val (.ref a1), .unset, .unset, .unset, .unset] [(.int (0 : Int32)), (.ref a1)]))
  refine own_go (fun _ => XS.iloadN X1.here hx rfl (hb hby at_8) rfl) ?_
  show own_G p e below s _ _ _ (T1.setTop (mkF m 9 #[.val (.int q0), .val (.int q1), .val (.int q2), .val (.int q3), .val (.int q4), .val (.int q5), .val (.ref a1), .unset, .unset, .unset, .unset] [(.int q0), (.int (0 : Int32)), (.ref a1)]))
  obtain ⟨T2, X2, e2, st2⟩ := own_call X1 hx hZ hown (hw _ (List.mem_of_getElem? (i := 1) rfl)) (hw _ (List.mem_of_getElem? (i := 2) rfl)) (hw _ (List.mem_of_getElem? (i := 3) rfl)) (hw _ (List.mem_of_getElem? (i := 4) rfl)) (by decide) (rm1 l Z a0 hw [] q0 h1) rfl rfl e1 (W := 2) (by decide) (by decide) (by decide) (by decide) (g := (mkF m 9 #[.val (.int q0), .val (.int q1), .val (.int q2), .val (.int q3), .val (.int q4), .val (.int q5), .val (.ref a1), .unset, .unset, .unset, .unset] [(.int q0), (.int (0 : Int32)), (.ref a1)])) rfl (by rw [hml]; rfl) (argsL := [(.int q0)]) (rest := [(.int (0 : Int32)), (.ref a1)]) (lenOf (by decide +kernel : parseMethodDescriptor "(I)C" = some ⟨[.int], some .char⟩) rfl) rfl rfl (by show 2 * 0 + _ ≤ _; exact Nat.le_of_eq rfl) (hb hby at_9)
  refine own_go (fun _ => st2 _) ?_
  show own_G p e below s _ _ _ (T2.setTop (mkF m 12 #[.val (.int q0), .val (.int q1), .val (.int q2), .val (.int q3), .val (.int q4), .val (.int q5), .val (.ref a1), .unset, .unset, .unset, .unset] [(.int (own_v1_0 q0)), (.int (0 : Int32)), (.ref a1)]))
  obtain ⟨T3, h3, L3, X3, e3, N3, A3, W3, st3⟩ := own_stC X2 hx hZ e2 A1 (Fr.nil n0) g1 (by decide) (by decide) (g := (mkF m 12 #[.val (.int q0), .val (.int q1), .val (.int q2), .val (.int q3), .val (.int q4), .val (.int q5), .val (.ref a1), .unset, .unset, .unset, .unset] [(.int (own_v1_0 q0)), (.int (0 : Int32)), (.ref a1)])) rfl rfl (hb hby at_12)
  refine own_go (fun _ => st3 _) ?_
  show own_G p e below s _ _ _ (T3.setTop (mkF m 13 #[.val (.int q0), .val (.int q1), .val (.int q2), .val (.int q3), .val (.int q4), .val (.int q5), .val (.ref a1), .unset, .unset, .unset, .unset] []))
  refine own_go (fun _ => XS.aload X3.here hx rfl (hb hby at_13) rfl rfl) ?_
  show own_G p e below s _ _ _ (T3.setTop (mkF m 15 #[.val (.int q0), .val (.int q1), .val (.int q2), .val (.int q3), .val (.int q4), .val (.int q5), .val (.ref a1), .unset, .unset, .unset, .unset] [(.ref a1)]))
  refine own_go (fun _ => XS.iconst X3.here hx rfl (hb hby at_15)) ?_
  show own_G p e below s _ _ _ (T3.setTop (mkF m 16 #[.val (.int q0), .val (.int q1), .val (.int q2), .val (.int q3), .val (.int q4), .val (.int q5), .val (.ref a1), .unset, .unset, .unset, .unset] [(.int (1 : Int32)), (.ref a1)]))
  refine own_go (fun _ => XS.iloadN X3.here hx rfl (hb hby at_16) rfl) ?_
  show own_G p e below s _ _ _ (T3.setTop (mkF m 17 #[.val (.int q0), .val (.int q1), .val (.int q2), .val (.int q3), .val (.int q4), .val (.int q5), .val (.ref a1), .unset, .unset, .unset, .unset] [(.int q1), (.int (1 : Int32)), (.ref a1)]))
  obtain ⟨T4, X4, e4, st4⟩ := own_call X3 hx hZ hown (hw _ (List.mem_of_getElem? (i := 1) rfl)) (hw _ (List.mem_of_getElem? (i := 2) rfl)) (hw _ (List.mem_of_getElem? (i := 3) rfl)) (hw _ (List.mem_of_getElem? (i := 4) rfl)) (by decide) (rm1 l Z a0 hw [] q1 h3) rfl rfl e3 (W := 2) (by decide) (by decide) (by decide) (by decide) (g := (mkF m 17 #[.val (.int q0), .val (.int q1), .val (.int q2), .val (.int q3), .val (.int q4), .val (.int q5), .val (.ref a1), .unset, .unset, .unset, .unset] [(.int q1), (.int (1 : Int32)), (.ref a1)])) rfl (by rw [hml]; rfl) (argsL := [(.int q1)]) (rest := [(.int (1 : Int32)), (.ref a1)]) (lenOf (by decide +kernel : parseMethodDescriptor "(I)C" = some ⟨[.int], some .char⟩) rfl) rfl rfl (by show 2 * 0 + _ ≤ _; exact Nat.le_of_eq rfl) (hb hby at_17)
  refine own_go (fun _ => st4 _) ?_
  show own_G p e below s _ _ _ (T4.setTop (mkF m 20 #[.val (.int q0), .val (.int q1), .val (.int q2), .val (.int q3), .val (.int q4), .val (.int q5), .val (.ref a1), .unset, .unset, .unset, .unset] [(.int (own_v1_0 q1)), (.int (1 : Int32)), (.ref a1)]))
  obtain ⟨T5, h5, L5, X5, e5, N5, A5, W5, st5⟩ := own_stC X4 hx hZ e4 A3 N3 g1 (by decide) (by decide) (g := (mkF m 20 #[.val (.int q0), .val (.int q1), .val (.int q2), .val (.int q3), .val (.int q4), .val (.int q5), .val (.ref a1), .unset, .unset, .unset, .unset] [(.int (own_v1_0 q1)), (.int (1 : Int32)), (.ref a1)])) rfl rfl (hb hby at_20)
  refine own_go (fun _ => st5 _) ?_
  show own_G p e below s _ _ _ (T5.setTop (mkF m 21 #[.val (.int q0), .val (.int q1), .val (.int q2), .val (.int q3), .val (.int q4), .val (.int q5), .val (.ref a1), .unset, .unset, .unset, .unset] []))
  refine own_go (fun _ => XS.aload X5.here hx rfl (hb hby at_21) rfl rfl) ?_
  show own_G p e below s _ _ _ (T5.setTop (mkF m 23 #[.val (.int q0), .val (.int q1), .val (.int q2), .val (.int q3), .val (.int q4), .val (.int q5), .val (.ref a1), .unset, .unset, .unset, .unset] [(.ref a1)]))
  refine own_go (fun _ => XS.iconst X5.here hx rfl (hb hby at_23)) ?_
  show own_G p e below s _ _ _ (T5.setTop (mkF m 24 #[.val (.int q0), .val (.int q1), .val (.int q2), .val (.int q3), .val (.int q4), .val (.int q5), .val (.ref a1), .unset, .unset, .unset, .unset] [(.int (2 : Int32)), (.ref a1)]))
  refine own_go (fun _ => XS.iloadN X5.here hx rfl (hb hby at_24) rfl) ?_
  show own_G p e below s _ _ _ (T5.setTop (mkF m 25 #[.val (.int q0), .val (.int q1), .val (.int q2), .val (.int q3), .val (.int q4), .val (.int q5), .val (.ref a1), .unset, .unset, .unset, .unset] [(.int q2), (.int (2 : Int32)), (.ref a1)]))
  obtain ⟨T6, X6, e6, st6⟩ := own_call X5 hx hZ hown (hw _ (List.mem_of_getElem? (i := 1) rfl)) (hw _ (List.mem_of_getElem? (i := 2) rfl)) (hw _ (List.mem_of_getElem? (i := 3) rfl)) (hw _ (List.mem_of_getElem? (i := 4) rfl)) (by decide) (rm1 l Z a0 hw [] q2 h5) rfl rfl e5 (W := 2) (by decide) (by decide) (by decide) (by decide) (g := (mkF m 25 #[.val (.int q0), .val (.int q1), .val (.int q2), .val (.int q3), .val (.int q4), .val (.int q5), .val (.ref a1), .unset, .unset, .unset, .unset] [(.int q2), (.int (2 : Int32)), (.ref a1)])) rfl (by rw [hml]; rfl) (argsL := [(.int q2)]) (rest := [(.int (2 : Int32)), (.ref a1)]) (lenOf (by decide +kernel : parseMethodDescriptor "(I)C" = some ⟨[.int], some .char⟩) rfl) rfl rfl (by show 2 * 0 + _ ≤ _; exact Nat.le_of_eq rfl) (hb hby at_25)
  refine own_go (fun _ => st6 _) ?_
  show own_G p e below s _ _ _ (T6.setTop (mkF m 28 #[.val (.int q0), .val (.int q1), .val (.int q2), .val (.int q3), .val (.int q4), .val (.int q5), .val (.ref a1), .unset, .unset, .unset, .unset] [(.int (own_v1_0 q2)), (.int (2 : Int32)), (.ref a1)]))
  obtain ⟨T7, h7, L7, X7, e7, N7, A7, W7, st7⟩ := own_stC X6 hx hZ e6 A5 N5 g1 (by decide) (by decide) (g := (mkF m 28 #[.val (.int q0), .val (.int q1), .val (.int q2), .val (.int q3), .val (.int q4), .val (.int q5), .val (.ref a1), .unset, .unset, .unset, .unset] [(.int (own_v1_0 q2)), (.int (2 : Int32)), (.ref a1)])) rfl rfl (hb hby at_28)
  refine own_go (fun _ => st7 _) ?_
  show own_G p e below s _ _ _ (T7.setTop (mkF m 29 #[.val (.int q0), .val (.int q1), .val (.int q2), .val (.int q3), .val (.int q4), .val (.int q5), .val (.ref a1), .unset, .unset, .unset, .unset] []))
  refine own_go (fun _ => XS.aload X7.here hx rfl (hb hby at_29) rfl rfl) ?_
  show own_G p e below s _ _ _ (T7.setTop (mkF m 31 #[.val (.int q0), .val (.int q1), .val (.int q2), .val (.int q3), .val (.int q4), .val (.int q5), .val (.ref a1), .unset, .unset, .unset, .unset] [(.ref a1)]))
  refine own_go (fun _ => XS.iconst X7.here hx rfl (hb hby at_31)) ?_
  show own_G p e below s _ _ _ (T7.setTop (mkF m 32 #[.val (.int q0), .val (.int q1), .val (.int q2), .val (.int q3), .val (.int q4), .val (.int q5), .val (.ref a1), .unset, .unset, .unset, .unset] [(.int (3 : Int32)), (.ref a1)]))
  refine own_go (fun _ => XS.iloadN X7.here hx rfl (hb hby at_32) rfl) ?_
  show own_G p e below s _ _ _ (T7.setTop (mkF m 33 #[.val (.int q0), .val (.int q1), .val (.int q2), .val (.int q3), .val (.int q4), .val (.int q5), .val (.ref a1), .unset, .unset, .unset, .unset] [(.int q3), (.int (3 : Int32)), (.ref a1)]))
  obtain ⟨T8, X8, e8, st8⟩ := own_call X7 hx hZ hown (hw _ (List.mem_of_getElem? (i := 1) rfl)) (hw _ (List.mem_of_getElem? (i := 2) rfl)) (hw _ (List.mem_of_getElem? (i := 3) rfl)) (hw _ (List.mem_of_getElem? (i := 4) rfl)) (by decide) (rm1 l Z a0 hw [] q3 h7) rfl rfl e7 (W := 2) (by decide) (by decide) (by decide) (by decide) (g := (mkF m 33 #[.val (.int q0), .val (.int q1), .val (.int q2), .val (.int q3), .val (.int q4), .val (.int q5), .val (.ref a1), .unset, .unset, .unset, .unset] [(.int q3), (.int (3 : Int32)), (.ref a1)])) rfl (by rw [hml]; rfl) (argsL := [(.int q3)]) (rest := [(.int (3 : Int32)), (.ref a1)]) (lenOf (by decide +kernel : parseMethodDescriptor "(I)C" = some ⟨[.int], some .char⟩) rfl) rfl rfl (by show 2 * 0 + _ ≤ _; exact Nat.le_of_eq rfl) (hb hby at_33)
  refine own_go (fun _ => st8 _) ?_
  show own_G p e below s _ _ _ (T8.setTop (mkF m 36 #[.val (.int q0), .val (.int q1), .val (.int q2), .val (.int q3), .val (.int q4), .val (.int q5), .val (.ref a1), .unset, .unset, .unset, .unset] [(.int (own_v1_0 q3)), (.int (3 : Int32)), (.ref a1)]))
  obtain ⟨T9, h9, L9, X9, e9, N9, A9, W9, st9⟩ := own_stC X8 hx hZ e8 A7 N7 g1 (by decide) (by decide) (g := (mkF m 36 #[.val (.int q0), .val (.int q1), .val (.int q2), .val (.int q3), .val (.int q4), .val (.int q5), .val (.ref a1), .unset, .unset, .unset, .unset] [(.int (own_v1_0 q3)), (.int (3 : Int32)), (.ref a1)])) rfl rfl (hb hby at_36)
  have A9 : own_A Z h9 a1 .char (4 : Int32) (own_n0_f q0 q1 q2 q3) := A9
  refine own_go (fun _ => st9 _) ?_
  show own_G p e below s _ _ _ (T9.setTop (mkF m 37 #[.val (.int q0), .val (.int q1), .val (.int q2), .val (.int q3), .val (.int q4), .val (.int q5), .val (.ref a1), .unset, .unset, .unset, .unset] []))
  refine own_go (fun _ => XS.iload X9.here hx rfl (hb hby at_37) rfl) ?_
  show own_G p e below s _ _ _ (T9.setTop (mkF m 39 #[.val (.int q0), .val (.int q1), .val (.int q2), .val (.int q3), .val (.int q4), .val (.int q5), .val (.ref a1), .unset, .unset, .unset, .unset] [(.int q5)]))
  refine own_go (fun _ => XS.bipush X9.here hx rfl (hb hby at_39)) ?_
  show own_G p e below s _ _ _ (T9.setTop (mkF m 41 #[.val (.int q0), .val (.int q1), .val (.int q2), .val (.int q3), .val (.int q4), .val (.int q5), .val (.ref a1), .unset, .unset, .unset, .unset] [(.int (7 : Int32)), (.int q5)]))
  refine own_go (fun _ => XS.iand X9.here hx rfl (hb hby at_41) rfl) ?_
  show own_G p e below s _ _ _ (T9.setTop (mkF m 42 #[.val (.int q0), .val (.int q1), .val (.int q2), .val (.int q3), .val (.int q4), .val (.int q5), .val (.ref a1), .unset, .unset, .unset, .unset] [(.int (q5 &&& (7 : Int32)))]))
  refine own_go (fun _ => XS.iconst X9.here hx rfl (hb hby at_42)) ?_
  show own_G p e below s _ _ _ (T9.setTop (mkF m 43 #[.val (.int q0), .val (.int q1), .val (.int q2), .val (.int q3), .val (.int q4), .val (.int q5), .val (.ref a1), .unset, .unset, .unset, .unset] [(.int (5 : Int32)), (.int (q5 &&& (7 : Int32)))]))
  refine own_go (fun _ => XS.irem X9.here hx rfl (hb hby at_43) rfl (by decide)) ?_
  show own_G p e below s _ _ _ (T9.setTop (mkF m 44 #[.val (.int q0), .val (.int q1), .val (.int q2), .val (.int q3), .val (.int q4), .val (.int q5), .val (.ref a1), .unset, .unset, .unset, .unset] [(.int (own_rem (q5 &&& (7 : Int32)) (5 : Int32)))]))
  refine own_go (fun _ => XS.istore X9.here hx rfl (hb hby at_44) rfl (l' := #[.val (.int q0), .val (.int q1), .val (.int q2), .val (.int q3), .val (.int q4), .val (.int q5), .val (.ref a1), .val (.int (own_n0_44 q5)), .unset, .unset, .unset]) rfl) ?_
  show own_G p e below s _ _ _ (T9.setTop (mkF m 46 #[.val (.int q0), .val (.int q1), .val (.int q2), .val (.int q3), .val (.int q4), .val (.int q5), .val (.ref a1), .val (.int (own_n0_44 q5)), .unset, .unset, .unset] []))
  refine own_go (fun _ => XS.iload X9.here hx rfl (hb hby at_46) rfl) ?_
  show own_G p e below s _ _ _ (T9.setTop (mkF m 48 #[.val (.int q0), .val (.int q1), .val (.int q2), .val (.int q3), .val (.int q4), .val (.int q5), .val (.ref a1), .val (.int (own_n0_44 q5)), .unset, .unset, .unset] [(.int q4)]))
  refine own_go (fun _ => X9.ldcInt hx hown (mvT hZ (hw _ (List.mem_of_getElem? (i := 5) rfl))) (g := (mkF m 48 #[.val (.int q0), .val (.int q1), .val (.int q2), .val (.int q3), .val (.int q4), .val (.int q5), .val (.ref a1), .val (.int (own_n0_44 q5)), .unset, .unset, .unset] [(.int q4)])) rfl (hb hby at_48) _) ?_
  show own_G p e below s _ _ _ (T9.setTop (mkF m 50 #[.val (.int q0), .val (.int q1), .val (.int q2), .val (.int q3), .val (.int q4), .val (.int q5), .val (.ref a1), .val (.int (own_n0_44 q5)), .unset, .unset, .unset] [(.int (2147483647 : Int32)), (.int q4)]))
  refine own_go (fun _ => XS.iand X9.here hx rfl (hb hby at_50) rfl) ?_
  show own_G p e below s _ _ _ (T9.setTop (mkF m 51 #[.val (.int q0), .val (.int q1), .val (.int q2), .val (.int q3), .val (.int q4), .val (.int q5), .val (.ref a1), .val (.int (own_n0_44 q5)), .unset, .unset, .unset] [(.int (q4 &&& (2147483647 : Int32)))]))
  refine own_go (fun _ => XS.iload X9.here hx rfl (hb hby at_51) rfl) ?_
  show own_G p e below s _ _ _ (T9.setTop (mkF m 53 #[.val (.int q0), .val (.int q1), .val (.int q2), .val (.int q3), .val (.int q4), .val (.int q5), .val (.ref a1), .val (.int (own_n0_44 q5)), .unset, .unset, .unset] [(.int (own_n0_44 q5)), (.int (q4 &&& (2147483647 : Int32)))]))
  refine own_go (fun _ => XS.iconst X9.here hx rfl (hb hby at_53)) ?_
  show own_G p e below s _ _ _ (T9.setTop (mkF m 54 #[.val (.int q0), .val (.int q1), .val (.int q2), .val (.int q3), .val (.int q4), .val (.int q5), .val (.ref a1), .val (.int (own_n0_44 q5)), .unset, .unset, .unset] [(.int (1 : Int32)), (.int (own_n0_44 q5)), (.int (q4 &&& (2147483647 : Int32)))]))
  refine own_go (fun _ => XS.iadd X9.here hx rfl (hb hby at_54) rfl) ?_
  show own_G p e below s _ _ _ (T9.setTop (mkF m 55 #[.val (.int q0), .val (.int q1), .val (.int q2), .val (.int q3), .val (.int q4), .val (.int q5), .val (.ref a1), .val (.int (own_n0_44 q5)), .unset, .unset, .unset] [(.int ((own_n0_44 q5) + (1 : Int32))), (.int (q4 &&& (2147483647 : Int32)))]))
  refine own_go (fun _ => XS.irem X9.here hx rfl (hb hby at_55) rfl (own_len1 q5)) ?_
  show own_G p e below s _ _ _ (T9.setTop (mkF m 56 #[.val (.int q0), .val (.int q1), .val (.int q2), .val (.int q3), .val (.int q4), .val (.int q5), .val (.ref a1), .val (.int (own_n0_44 q5)), .unset, .unset, .unset] [(.int (own_rem (q4 &&& (2147483647 : Int32)) ((own_n0_44 q5) + (1 : Int32))))]))
  refine own_go (fun _ => XS.istore X9.here hx rfl (hb hby at_56) rfl (l' := #[.val (.int q0), .val (.int q1), .val (.int q2), .val (.int q3), .val (.int q4), .val (.int q5), .val (.ref a1), .val (.int (own_n0_44 q5)), .val (.int (own_n0_56 q4 q5)), .unset, .unset]) rfl) ?_
  show own_G p e below s _ _ _ (T9.setTop (mkF m 58 #[.val (.int q0), .val (.int q1), .val (.int q2), .val (.int q3), .val (.int q4), .val (.int q5), .val (.ref a1), .val (.int (own_n0_44 q5)), .val (.int (own_n0_56 q4 q5)), .unset, .unset] []))
  refine own_go (fun _ => XS.iload X9.here hx rfl (hb hby at_58) rfl) ?_
  show own_G p e below s _ _ _ (T9.setTop (mkF m 60 #[.val (.int q0), .val (.int q1), .val (.int q2), .val (.int q3), .val (.int q4), .val (.int q5), .val (.ref a1), .val (.int (own_n0_44 q5)), .val (.int (own_n0_56 q4 q5)), .unset, .unset] [(.int (own_n0_44 q5))]))
  refine own_go (fun _ => XS.istore X9.here hx rfl (hb hby at_60) rfl (l' := #[.val (.int q0), .val (.int q1), .val (.int q2), .val (.int q3), .val (.int q4), .val (.int q5), .val (.ref a1), .val (.int (own_n0_44 q5)), .val (.int (own_n0_56 q4 q5)), .val (.int (own_n0_44 q5)), .unset]) rfl) ?_
  have b185 : ∀ (T : State) (h : Heap) (Lc : List Loc), Stand p l e room_1 s m #[(.int q0), (.int q1), (.int q2), (.int q3), (.int q4), (.int q5)] below meth c T Lc (0 + 1) (0 + 4) → T.heap = h → Fr n0 Lc → ∀ (f_a1 : Int32 → Int32), own_A Z h a1 .char (4 : Int32) f_a1 → ∀ (j162_L9 : Int32) (j185_S0 : Int32), own_G p e below s (own_QF (some (.int (own_v0_185 f_a1 q0 q1 q2 q3 q4 q5 j162_L9 j185_S0))) n0) room_1.cells room_1.slots (T.setTop (mkF m 185 #[.val (.int q0), .val (.int q1), .val (.int q2), .val (.int q3), .val (.int q4), .val (.int q5), .val (.ref a1), .val (.int (own_n0_44 q5)), .val (.int (own_n0_56 q4 q5)), .val (.int j162_L9), .val (.int (own_scan f_a1 (own_n0_44 q5) 4 (own_n0_56 q4 q5)))] [(.int j185_S0)])) := by
    intro T h Lc X eT N f_a1 A_a1 j162_L9 j185_S0
    show own_G p e below s (own_QF (some (.int (nar .boolean j185_S0))) n0) room_1.cells room_1.slots (T.setTop (mkF m 185 #[.val (.int q0), .val (.int q1), .val (.int q2), .val (.int q3), .val (.int q4), .val (.int q5), .val (.ref a1), .val (.int (own_n0_44 q5)), .val (.int (own_n0_56 q4 q5)), .val (.int j162_L9), .val (.int (own_scan f_a1 (own_n0_44 q5) 4 (own_n0_56 q4 q5)))] [(.int j185_S0)]))
    exact own_retN X hx hlk (t := .boolean) Bd.returns (by simp) (hb hby at_185) (by decide) (by decide) ⟨rfl, N⟩
  have b162 : ∀ (T : State) (h : Heap) (Lc : List Loc), Stand p l e room_1 s m #[(.int q0), (.int q1), (.int q2), (.int q3), (.int q4), (.int q5)] below meth c T Lc (0 + 1) (0 + 4) → T.heap = h → Fr n0 Lc → ∀ (f_a1 : Int32 → Int32), own_A Z h a1 .char (4 : Int32) f_a1 → ∀ (j162_L9 : Int32), own_G p e below s (own_QF (some (.int (own_v0_162 f_a1 q0 q1 q2 q3 q4 q5 j162_L9))) n0) room_1.cells room_1.slots (T.setTop (mkF m 162 #[.val (.int q0), .val (.int q1), .val (.int q2), .val (.int q3), .val (.int q4), .val (.int q5), .val (.ref a1), .val (.int (own_n0_44 q5)), .val (.int (own_n0_56 q4 q5)), .val (.int j162_L9), .unset] [])) := by
    intro T h Lc X eT N f_a1 A_a1 j162_L9
    show own_G p e below s (own_QF (some (.int (if (own_scan f_a1 (own_n0_44 q5) 4 (own_n0_56 q4 q5)) = j162_L9 then (own_v0_185 f_a1 q0 q1 q2 q3 q4 q5 j162_L9 (1 : Int32)) else (own_v0_185 f_a1 q0 q1 q2 q3 q4 q5 j162_L9 (0 : Int32))))) n0) room_1.cells room_1.slots (T.setTop (mkF m 162 #[.val (.int q0), .val (.int q1), .val (.int q2), .val (.int q3), .val (.int q4), .val (.int q5), .val (.ref a1), .val (.int (own_n0_44 q5)), .val (.int (own_n0_56 q4 q5)), .val (.int j162_L9), .unset] []))
    refine own_go (fun _ => XS.aload X.here hx rfl (hb hby at_162) rfl rfl) ?_
    show own_G p e below s _ _ _ (T.setTop (mkF m 164 #[.val (.int q0), .val (.int q1), .val (.int q2), .val (.int q3), .val (.int q4), .val (.int q5), .val (.ref a1), .val (.int (own_n0_44 q5)), .val (.int (own_n0_56 q4 q5)), .val (.int j162_L9), .unset] [(.ref a1)]))
    refine own_go (fun _ => XS.iload X.here hx rfl (hb hby at_164) rfl) ?_
    show own_G p e below s _ _ _ (T.setTop (mkF m 166 #[.val (.int q0), .val (.int q1), .val (.int q2), .val (.int q3), .val (.int q4), .val (.int q5), .val (.ref a1), .val (.int (own_n0_44 q5)), .val (.int (own_n0_56 q4 q5)), .val (.int j162_L9), .unset] [(.int (own_n0_56 q4 q5)), (.ref a1)]))
    refine own_go (fun _ => XS.iload X.here hx rfl (hb hby at_166) rfl) ?_
    show own_G p e below s _ _ _ (T.setTop (mkF m 168 #[.val (.int q0), .val (.int q1), .val (.int q2), .val (.int q3), .val (.int q4), .val (.int q5), .val (.ref a1), .val (.int (own_n0_44 q5)), .val (.int (own_n0_56 q4 q5)), .val (.int j162_L9), .unset] [(.int (own_n0_44 q5)), (.int (own_n0_56 q4 q5)), (.ref a1)]))
    obtain ⟨T10, X10, e10, st10⟩ := own_call X hx hZ hown (hw _ (List.mem_of_getElem? (i := 9) rfl)) (hw _ (List.mem_of_getElem? (i := 10) rfl)) (hw _ (List.mem_of_getElem? (i := 11) rfl)) (hw _ (List.mem_of_getElem? (i := 12) rfl)) (by decide) (rm3 l Z a0 hw [] a1 (own_n0_56 q4 q5) (own_n0_44 q5) h _ A_a1 (own_st0 q4 q5) (own_len4 q5) (own_stk q4 q5)) rfl rfl eT (W := 0) (by decide) (by decide) (by decide) (by decide) (g := (mkF m 168 #[.val (.int q0), .val (.int q1), .val (.int q2), .val (.int q3), .val (.int q4), .val (.int q5), .val (.ref a1), .val (.int (own_n0_44 q5)), .val (.int (own_n0_56 q4 q5)), .val (.int j162_L9), .unset] [(.int (own_n0_44 q5)), (.int (own_n0_56 q4 q5)), (.ref a1)])) rfl (by rw [hml]; rfl) (argsL := [(.ref a1), (.int (own_n0_56 q4 q5)), (.int (own_n0_44 q5))]) (rest := []) (lenOf (by decide +kernel : parseMethodDescriptor "([CII)I" = some ⟨[(.array .char), .int, .int], some .int⟩) rfl) rfl rfl (by show 2 * 0 + _ ≤ _; exact Nat.le_of_eq rfl) (hb hby at_168)
    refine own_go (fun _ => st10 _) ?_
    show own_G p e below s _ _ _ (T10.setTop (mkF m 171 #[.val (.int q0), .val (.int q1), .val (.int q2), .val (.int q3), .val (.int q4), .val (.int q5), .val (.ref a1), .val (.int (own_n0_44 q5)), .val (.int (own_n0_56 q4 q5)), .val (.int j162_L9), .unset] [(.int (own_scan f_a1 (own_n0_44 q5) 4 (own_n0_56 q4 q5)))]))
    refine own_go (fun _ => XS.istore X10.here hx rfl (hb hby at_171) rfl (l' := #[.val (.int q0), .val (.int q1), .val (.int q2), .val (.int q3), .val (.int q4), .val (.int q5), .val (.ref a1), .val (.int (own_n0_44 q5)), .val (.int (own_n0_56 q4 q5)), .val (.int j162_L9), .val (.int (own_scan f_a1 (own_n0_44 q5) 4 (own_n0_56 q4 q5)))]) rfl) ?_
    show own_G p e below s _ _ _ (T10.setTop (mkF m 173 #[.val (.int q0), .val (.int q1), .val (.int q2), .val (.int q3), .val (.int q4), .val (.int q5), .val (.ref a1), .val (.int (own_n0_44 q5)), .val (.int (own_n0_56 q4 q5)), .val (.int j162_L9), .val (.int (own_scan f_a1 (own_n0_44 q5) 4 (own_n0_56 q4 q5)))] []))
    refine own_go (fun _ => XS.iload X10.here hx rfl (hb hby at_173) rfl) ?_
    show own_G p e below s _ _ _ (T10.setTop (mkF m 175 #[.val (.int q0), .val (.int q1), .val (.int q2), .val (.int q3), .val (.int q4), .val (.int q5), .val (.ref a1), .val (.int (own_n0_44 q5)), .val (.int (own_n0_56 q4 q5)), .val (.int j162_L9), .val (.int (own_scan f_a1 (own_n0_44 q5) 4 (own_n0_56 q4 q5)))] [(.int (own_scan f_a1 (own_n0_44 q5) 4 (own_n0_56 q4 q5)))]))
    refine own_go (fun _ => XS.iload X10.here hx rfl (hb hby at_175) rfl) ?_
    show own_G p e below s _ _ _ (T10.setTop (mkF m 177 #[.val (.int q0), .val (.int q1), .val (.int q2), .val (.int q3), .val (.int q4), .val (.int q5), .val (.ref a1), .val (.int (own_n0_44 q5)), .val (.int (own_n0_56 q4 q5)), .val (.int j162_L9), .val (.int (own_scan f_a1 (own_n0_44 q5) 4 (own_n0_56 q4 q5)))] [(.int j162_L9), (.int (own_scan f_a1 (own_n0_44 q5) 4 (own_n0_56 q4 q5)))]))
    by_cases hc177 : (own_scan f_a1 (own_n0_44 q5) 4 (own_n0_56 q4 q5)) = j162_L9
    · refine own_eqF (if_pos hc177) ?_
      refine own_go (fun _ => XS.icmpNo X10.here hx rfl (hb hby at_177) rfl (teq hc177).2) ?_
      show own_G p e below s _ _ _ (T10.setTop (mkF m 180 #[.val (.int q0), .val (.int q1), .val (.int q2), .val (.int q3), .val (.int q4), .val (.int q5), .val (.ref a1), .val (.int (own_n0_44 q5)), .val (.int (own_n0_56 q4 q5)), .val (.int j162_L9), .val (.int (own_scan f_a1 (own_n0_44 q5) 4 (own_n0_56 q4 q5)))] []))
      refine own_go (fun _ => XS.iconst X10.here hx rfl (hb hby at_180)) ?_
      show own_G p e below s _ _ _ (T10.setTop (mkF m 181 #[.val (.int q0), .val (.int q1), .val (.int q2), .val (.int q3), .val (.int q4), .val (.int q5), .val (.ref a1), .val (.int (own_n0_44 q5)), .val (.int (own_n0_56 q4 q5)), .val (.int j162_L9), .val (.int (own_scan f_a1 (own_n0_44 q5) 4 (own_n0_56 q4 q5)))] [(.int (1 : Int32))]))
      refine own_go (fun _ => XS.goto X10.here hx rfl (pc0 := 181) (pc' := 185) rfl (hb hby at_181) (by decide) (by decide)) ?_
      exact b185 T10 h Lc X10 e10 N f_a1 A_a1 j162_L9 (1 : Int32)
    · refine own_eqF (if_neg hc177) ?_
      refine own_go (fun _ => XS.icmpYes X10.here hx rfl (pc0 := 177) (pc' := 184) rfl (hb hby at_177) rfl (feq hc177).2 (by decide) (by decide)) ?_
      show own_G p e below s _ _ _ (T10.setTop (mkF m 184 #[.val (.int q0), .val (.int q1), .val (.int q2), .val (.int q3), .val (.int q4), .val (.int q5), .val (.ref a1), .val (.int (own_n0_44 q5)), .val (.int (own_n0_56 q4 q5)), .val (.int j162_L9), .val (.int (own_scan f_a1 (own_n0_44 q5) 4 (own_n0_56 q4 q5)))] []))
      refine own_go (fun _ => XS.iconst X10.here hx rfl (hb hby at_184)) ?_
      exact b185 T10 h Lc X10 e10 N f_a1 A_a1 j162_L9 (0 : Int32)
  have b137 : ∀ (T : State) (h : Heap) (Lc : List Loc), Stand p l e room_1 s m #[(.int q0), (.int q1), (.int q2), (.int q3), (.int q4), (.int q5)] below meth c T Lc (0 + 1) (0 + 4) → T.heap = h → Fr n0 Lc → ∀ (f_a1 : Int32 → Int32), own_A Z h a1 .char (4 : Int32) f_a1 → ∀ (j137_L9 : Int32), own_G p e below s (own_QF (some (.int (own_v0_137 f_a1 q0 q1 q2 q3 q4 q5 j137_L9))) n0) room_1.cells room_1.slots (T.setTop (mkF m 137 #[.val (.int q0), .val (.int q1), .val (.int q2), .val (.int q3), .val (.int q4), .val (.int q5), .val (.ref a1), .val (.int (own_n0_44 q5)), .val (.int (own_n0_56 q4 q5)), .val (.int j137_L9), .unset] [])) := by
    intro T h Lc X eT N f_a1 A_a1 j137_L9
    show own_G p e below s (own_QF (some (.int (if (0 : Int32) < (own_n0_56 q4 q5) then (own_v0_162 f_a1 q0 q1 q2 q3 q4 q5 j137_L9) else (if (0 : Int32) < (own_n0_44 q5) then (if (own_v2_0 (f_a1 (0 : Int32))) = (0 : Int32) then (own_v0_162 f_a1 q0 q1 q2 q3 q4 q5 j137_L9) else (own_v0_162 f_a1 q0 q1 q2 q3 q4 q5 (0 : Int32))) else (own_v0_162 f_a1 q0 q1 q2 q3 q4 q5 j137_L9))))) n0) room_1.cells room_1.slots (T.setTop (mkF m 137 #[.val (.int q0), .val (.int q1), .val (.int q2), .val (.int q3), .val (.int q4), .val (.int q5), .val (.ref a1), .val (.int (own_n0_44 q5)), .val (.int (own_n0_56 q4 q5)), .val (.int j137_L9), .unset] []))
    refine own_go (fun _ => XS.iconst X.here hx rfl (hb hby at_137)) ?_
    show own_G p e below s _ _ _ (T.setTop (mkF m 138 #[.val (.int q0), .val (.int q1), .val (.int q2), .val (.int q3), .val (.int q4), .val (.int q5), .val (.ref a1), .val (.int (own_n0_44 q5)), .val (.int (own_n0_56 q4 q5)), .val (.int j137_L9), .unset] [(.int (0 : Int32))]))
    refine own_go (fun _ => XS.iload X.here hx rfl (hb hby at_138) rfl) ?_
    show own_G p e below s _ _ _ (T.setTop (mkF m 140 #[.val (.int q0), .val (.int q1), .val (.int q2), .val (.int q3), .val (.int q4), .val (.int q5), .val (.ref a1), .val (.int (own_n0_44 q5)), .val (.int (own_n0_56 q4 q5)), .val (.int j137_L9), .unset] [(.int (own_n0_56 q4 q5)), (.int (0 : Int32))]))
    by_cases hc140 : (0 : Int32) < (own_n0_56 q4 q5)
    · refine own_eqF (if_pos hc140) ?_
      refine own_go (fun _ => XS.icmpYes X.here hx rfl (pc0 := 140) (pc' := 162) rfl (hb hby at_140) rfl (tlt hc140).1 (by decide) (by decide)) ?_
      exact b162 T h Lc X eT N f_a1 A_a1 j137_L9
    · refine own_eqF (if_neg hc140) ?_
      refine own_go (fun _ => XS.icmpNo X.here hx rfl (hb hby at_140) rfl (flt hc140).1) ?_
      show own_G p e below s _ _ _ (T.setTop (mkF m 143 #[.val (.int q0), .val (.int q1), .val (.int q2), .val (.int q3), .val (.int q4), .val (.int q5), .val (.ref a1), .val (.int (own_n0_44 q5)), .val (.int (own_n0_56 q4 q5)), .val (.int j137_L9), .unset] []))
      refine own_go (fun _ => XS.iconst X.here hx rfl (hb hby at_143)) ?_
      show own_G p e below s _ _ _ (T.setTop (mkF m 144 #[.val (.int q0), .val (.int q1), .val (.int q2), .val (.int q3), .val (.int q4), .val (.int q5), .val (.ref a1), .val (.int (own_n0_44 q5)), .val (.int (own_n0_56 q4 q5)), .val (.int j137_L9), .unset] [(.int (0 : Int32))]))
      refine own_go (fun _ => XS.iload X.here hx rfl (hb hby at_144) rfl) ?_
      show own_G p e below s _ _ _ (T.setTop (mkF m 146 #[.val (.int q0), .val (.int q1), .val (.int q2), .val (.int q3), .val (.int q4), .val (.int q5), .val (.ref a1), .val (.int (own_n0_44 q5)), .val (.int (own_n0_56 q4 q5)), .val (.int j137_L9), .unset] [(.int (own_n0_44 q5)), (.int (0 : Int32))]))
      by_cases hc146 : (0 : Int32) < (own_n0_44 q5)
      · refine own_eqF (if_pos hc146) ?_
        refine own_go (fun _ => XS.icmpNo X.here hx rfl (hb hby at_146) rfl (tlt hc146).2.1) ?_
        show own_G p e below s _ _ _ (T.setTop (mkF m 149 #[.val (.int q0), .val (.int q1), .val (.int q2), .val (.int q3), .val (.int q4), .val (.int q5), .val (.ref a1), .val (.int (own_n0_44 q5)), .val (.int (own_n0_56 q4 q5)), .val (.int j137_L9), .unset] []))
        refine own_go (fun _ => XS.aload X.here hx rfl (hb hby at_149) rfl rfl) ?_
        show own_G p e below s _ _ _ (T.setTop (mkF m 151 #[.val (.int q0), .val (.int q1), .val (.int q2), .val (.int q3), .val (.int q4), .val (.int q5), .val (.ref a1), .val (.int (own_n0_44 q5)), .val (.int (own_n0_56 q4 q5)), .val (.int j137_L9), .unset] [(.ref a1)]))
        refine own_go (fun _ => XS.iconst X.here hx rfl (hb hby at_151)) ?_
        show own_G p e below s _ _ _ (T.setTop (mkF m 152 #[.val (.int q0), .val (.int q1), .val (.int q2), .val (.int q3), .val (.int q4), .val (.int q5), .val (.ref a1), .val (.int (own_n0_44 q5)), .val (.int (own_n0_56 q4 q5)), .val (.int j137_L9), .unset] [(.int (0 : Int32)), (.ref a1)]))
        refine own_go (fun _ => own_ldC X hx hZ eT A_a1 (by decide) (by decide) (g := (mkF m 152 #[.val (.int q0), .val (.int q1), .val (.int q2), .val (.int q3), .val (.int q4), .val (.int q5), .val (.ref a1), .val (.int (own_n0_44 q5)), .val (.int (own_n0_56 q4 q5)), .val (.int j137_L9), .unset] [(.int (0 : Int32)), (.ref a1)])) rfl rfl (hb hby at_152) _) ?_
        show own_G p e below s _ _ _ (T.setTop (mkF m 153 #[.val (.int q0), .val (.int q1), .val (.int q2), .val (.int q3), .val (.int q4), .val (.int q5), .val (.ref a1), .val (.int (own_n0_44 q5)), .val (.int (own_n0_56 q4 q5)), .val (.int j137_L9), .unset] [(.int (f_a1 (0 : Int32)))]))
        obtain ⟨T10, X10, e10, st10⟩ := own_call X hx hZ hown (hw _ (List.mem_of_getElem? (i := 6) rfl)) (hw _ (List.mem_of_getElem? (i := 7) rfl)) (hw _ (List.mem_of_getElem? (i := 3) rfl)) (hw _ (List.mem_of_getElem? (i := 8) rfl)) (by decide) (rm2 l Z a0 hw [] (f_a1 (0 : Int32)) h) rfl rfl eT (W := 0) (by decide) (by decide) (by decide) (by decide) (g := (mkF m 153 #[.val (.int q0), .val (.int q1), .val (.int q2), .val (.int q3), .val (.int q4), .val (.int q5), .val (.ref a1), .val (.int (own_n0_44 q5)), .val (.int (own_n0_56 q4 q5)), .val (.int j137_L9), .unset] [(.int (f_a1 (0 : Int32)))])) rfl (by rw [hml]; rfl) (argsL := [(.int (f_a1 (0 : Int32)))]) (rest := []) (lenOf (by decide +kernel : parseMethodDescriptor "(C)Z" = some ⟨[.char], some .boolean⟩) rfl) rfl rfl (by show 2 * 0 + _ ≤ _; exact Nat.le_of_eq rfl) (hb hby at_153)
        refine own_go (fun _ => st10 _) ?_
        show own_G p e below s _ _ _ (T10.setTop (mkF m 156 #[.val (.int q0), .val (.int q1), .val (.int q2), .val (.int q3), .val (.int q4), .val (.int q5), .val (.ref a1), .val (.int (own_n0_44 q5)), .val (.int (own_n0_56 q4 q5)), .val (.int j137_L9), .unset] [(.int (own_v2_0 (f_a1 (0 : Int32))))]))
        by_cases hc156 : (own_v2_0 (f_a1 (0 : Int32))) = (0 : Int32)
        · refine own_eqF (if_pos hc156) ?_
          refine own_go (fun _ => XS.ifYes X10.here hx rfl (pc0 := 156) (pc' := 162) rfl (hb hby at_156) rfl ((if0 _ _).trans (teq hc156).1) (by decide) (by decide)) ?_
          exact b162 T10 h Lc X10 e10 N f_a1 A_a1 j137_L9
        · refine own_eqF (if_neg hc156) ?_
          refine own_go (fun _ => XS.ifNo X10.here hx rfl (hb hby at_156) rfl ((if0 _ _).trans (feq hc156).1)) ?_
          show own_G p e below s _ _ _ (T10.setTop (mkF m 159 #[.val (.int q0), .val (.int q1), .val (.int q2), .val (.int q3), .val (.int q4), .val (.int q5), .val (.ref a1), .val (.int (own_n0_44 q5)), .val (.int (own_n0_56 q4 q5)), .val (.int j137_L9), .unset] []))
          refine own_go (fun _ => XS.iconst X10.here hx rfl (hb hby at_159)) ?_
          show own_G p e below s _ _ _ (T10.setTop (mkF m 160 #[.val (.int q0), .val (.int q1), .val (.int q2), .val (.int q3), .val (.int q4), .val (.int q5), .val (.ref a1), .val (.int (own_n0_44 q5)), .val (.int (own_n0_56 q4 q5)), .val (.int j137_L9), .unset] [(.int (0 : Int32))]))
          refine own_go (fun _ => XS.istore X10.here hx rfl (hb hby at_160) rfl (l' := #[.val (.int q0), .val (.int q1), .val (.int q2), .val (.int q3), .val (.int q4), .val (.int q5), .val (.ref a1), .val (.int (own_n0_44 q5)), .val (.int (own_n0_56 q4 q5)), .val (.int (0 : Int32)), .unset]) rfl) ?_
          exact b162 T10 h Lc X10 e10 N f_a1 A_a1 (0 : Int32)
      · refine own_eqF (if_neg hc146) ?_
        refine own_go (fun _ => XS.icmpYes X.here hx rfl (pc0 := 146) (pc' := 162) rfl (hb hby at_146) rfl (flt hc146).2.1 (by decide) (by decide)) ?_
        exact b162 T h Lc X eT N f_a1 A_a1 j137_L9
  have b112 : ∀ (T : State) (h : Heap) (Lc : List Loc), Stand p l e room_1 s m #[(.int q0), (.int q1), (.int q2), (.int q3), (.int q4), (.int q5)] below meth c T Lc (0 + 1) (0 + 4) → T.heap = h → Fr n0 Lc → ∀ (f_a1 : Int32 → Int32), own_A Z h a1 .char (4 : Int32) f_a1 → ∀ (j112_L9 : Int32), own_G p e below s (own_QF (some (.int (own_v0_112 f_a1 q0 q1 q2 q3 q4 q5 j112_L9))) n0) room_1.cells room_1.slots (T.setTop (mkF m 112 #[.val (.int q0), .val (.int q1), .val (.int q2), .val (.int q3), .val (.int q4), .val (.int q5), .val (.ref a1), .val (.int (own_n0_44 q5)), .val (.int (own_n0_56 q4 q5)), .val (.int j112_L9), .unset] [])) := by
    intro T h Lc X eT N f_a1 A_a1 j112_L9
    show own_G p e below s (own_QF (some (.int (if (1 : Int32) < (own_n0_56 q4 q5) then (own_v0_137 f_a1 q0 q1 q2 q3 q4 q5 j112_L9) else (if (1 : Int32) < (own_n0_44 q5) then (if (own_v2_0 (f_a1 (1 : Int32))) = (0 : Int32) then (own_v0_137 f_a1 q0 q1 q2 q3 q4 q5 j112_L9) else (own_v0_137 f_a1 q0 q1 q2 q3 q4 q5 (1 : Int32))) else (own_v0_137 f_a1 q0 q1 q2 q3 q4 q5 j112_L9))))) n0) room_1.cells room_1.slots (T.setTop (mkF m 112 #[.val (.int q0), .val (.int q1), .val (.int q2), .val (.int q3), .val (.int q4), .val (.int q5), .val (.ref a1), .val (.int (own_n0_44 q5)), .val (.int (own_n0_56 q4 q5)), .val (.int j112_L9), .unset] []))
    refine own_go (fun _ => XS.iconst X.here hx rfl (hb hby at_112)) ?_
    show own_G p e below s _ _ _ (T.setTop (mkF m 113 #[.val (.int q0), .val (.int q1), .val (.int q2), .val (.int q3), .val (.int q4), .val (.int q5), .val (.ref a1), .val (.int (own_n0_44 q5)), .val (.int (own_n0_56 q4 q5)), .val (.int j112_L9), .unset] [(.int (1 : Int32))]))
    refine own_go (fun _ => XS.iload X.here hx rfl (hb hby at_113) rfl) ?_
    show own_G p e below s _ _ _ (T.setTop (mkF m 115 #[.val (.int q0), .val (.int q1), .val (.int q2), .val (.int q3), .val (.int q4), .val (.int q5), .val (.ref a1), .val (.int (own_n0_44 q5)), .val (.int (own_n0_56 q4 q5)), .val (.int j112_L9), .unset] [(.int (own_n0_56 q4 q5)), (.int (1 : Int32))]))
    by_cases hc115 : (1 : Int32) < (own_n0_56 q4 q5)
    · refine own_eqF (if_pos hc115) ?_
      refine own_go (fun _ => XS.icmpYes X.here hx rfl (pc0 := 115) (pc' := 137) rfl (hb hby at_115) rfl (tlt hc115).1 (by decide) (by decide)) ?_
      exact b137 T h Lc X eT N f_a1 A_a1 j112_L9
    · refine own_eqF (if_neg hc115) ?_
      refine own_go (fun _ => XS.icmpNo X.here hx rfl (hb hby at_115) rfl (flt hc115).1) ?_
      show own_G p e below s _ _ _ (T.setTop (mkF m 118 #[.val (.int q0), .val (.int q1), .val (.int q2), .val (.int q3), .val (.int q4), .val (.int q5), .val (.ref a1), .val (.int (own_n0_44 q5)), .val (.int (own_n0_56 q4 q5)), .val (.int j112_L9), .unset] []))
      refine own_go (fun _ => XS.iconst X.here hx rfl (hb hby at_118)) ?_
      show own_G p e below s _ _ _ (T.setTop (mkF m 119 #[.val (.int q0), .val (.int q1), .val (.int q2), .val (.int q3), .val (.int q4), .val (.int q5), .val (.ref a1), .val (.int (own_n0_44 q5)), .val (.int (own_n0_56 q4 q5)), .val (.int j112_L9), .unset] [(.int (1 : Int32))]))
      refine own_go (fun _ => XS.iload X.here hx rfl (hb hby at_119) rfl) ?_
      show own_G p e below s _ _ _ (T.setTop (mkF m 121 #[.val (.int q0), .val (.int q1), .val (.int q2), .val (.int q3), .val (.int q4), .val (.int q5), .val (.ref a1), .val (.int (own_n0_44 q5)), .val (.int (own_n0_56 q4 q5)), .val (.int j112_L9), .unset] [(.int (own_n0_44 q5)), (.int (1 : Int32))]))
      by_cases hc121 : (1 : Int32) < (own_n0_44 q5)
      · refine own_eqF (if_pos hc121) ?_
        refine own_go (fun _ => XS.icmpNo X.here hx rfl (hb hby at_121) rfl (tlt hc121).2.1) ?_
        show own_G p e below s _ _ _ (T.setTop (mkF m 124 #[.val (.int q0), .val (.int q1), .val (.int q2), .val (.int q3), .val (.int q4), .val (.int q5), .val (.ref a1), .val (.int (own_n0_44 q5)), .val (.int (own_n0_56 q4 q5)), .val (.int j112_L9), .unset] []))
        refine own_go (fun _ => XS.aload X.here hx rfl (hb hby at_124) rfl rfl) ?_
        show own_G p e below s _ _ _ (T.setTop (mkF m 126 #[.val (.int q0), .val (.int q1), .val (.int q2), .val (.int q3), .val (.int q4), .val (.int q5), .val (.ref a1), .val (.int (own_n0_44 q5)), .val (.int (own_n0_56 q4 q5)), .val (.int j112_L9), .unset] [(.ref a1)]))
        refine own_go (fun _ => XS.iconst X.here hx rfl (hb hby at_126)) ?_
        show own_G p e below s _ _ _ (T.setTop (mkF m 127 #[.val (.int q0), .val (.int q1), .val (.int q2), .val (.int q3), .val (.int q4), .val (.int q5), .val (.ref a1), .val (.int (own_n0_44 q5)), .val (.int (own_n0_56 q4 q5)), .val (.int j112_L9), .unset] [(.int (1 : Int32)), (.ref a1)]))
        refine own_go (fun _ => own_ldC X hx hZ eT A_a1 (by decide) (by decide) (g := (mkF m 127 #[.val (.int q0), .val (.int q1), .val (.int q2), .val (.int q3), .val (.int q4), .val (.int q5), .val (.ref a1), .val (.int (own_n0_44 q5)), .val (.int (own_n0_56 q4 q5)), .val (.int j112_L9), .unset] [(.int (1 : Int32)), (.ref a1)])) rfl rfl (hb hby at_127) _) ?_
        show own_G p e below s _ _ _ (T.setTop (mkF m 128 #[.val (.int q0), .val (.int q1), .val (.int q2), .val (.int q3), .val (.int q4), .val (.int q5), .val (.ref a1), .val (.int (own_n0_44 q5)), .val (.int (own_n0_56 q4 q5)), .val (.int j112_L9), .unset] [(.int (f_a1 (1 : Int32)))]))
        obtain ⟨T10, X10, e10, st10⟩ := own_call X hx hZ hown (hw _ (List.mem_of_getElem? (i := 6) rfl)) (hw _ (List.mem_of_getElem? (i := 7) rfl)) (hw _ (List.mem_of_getElem? (i := 3) rfl)) (hw _ (List.mem_of_getElem? (i := 8) rfl)) (by decide) (rm2 l Z a0 hw [] (f_a1 (1 : Int32)) h) rfl rfl eT (W := 0) (by decide) (by decide) (by decide) (by decide) (g := (mkF m 128 #[.val (.int q0), .val (.int q1), .val (.int q2), .val (.int q3), .val (.int q4), .val (.int q5), .val (.ref a1), .val (.int (own_n0_44 q5)), .val (.int (own_n0_56 q4 q5)), .val (.int j112_L9), .unset] [(.int (f_a1 (1 : Int32)))])) rfl (by rw [hml]; rfl) (argsL := [(.int (f_a1 (1 : Int32)))]) (rest := []) (lenOf (by decide +kernel : parseMethodDescriptor "(C)Z" = some ⟨[.char], some .boolean⟩) rfl) rfl rfl (by show 2 * 0 + _ ≤ _; exact Nat.le_of_eq rfl) (hb hby at_128)
        refine own_go (fun _ => st10 _) ?_
        show own_G p e below s _ _ _ (T10.setTop (mkF m 131 #[.val (.int q0), .val (.int q1), .val (.int q2), .val (.int q3), .val (.int q4), .val (.int q5), .val (.ref a1), .val (.int (own_n0_44 q5)), .val (.int (own_n0_56 q4 q5)), .val (.int j112_L9), .unset] [(.int (own_v2_0 (f_a1 (1 : Int32))))]))
        by_cases hc131 : (own_v2_0 (f_a1 (1 : Int32))) = (0 : Int32)
        · refine own_eqF (if_pos hc131) ?_
          refine own_go (fun _ => XS.ifYes X10.here hx rfl (pc0 := 131) (pc' := 137) rfl (hb hby at_131) rfl ((if0 _ _).trans (teq hc131).1) (by decide) (by decide)) ?_
          exact b137 T10 h Lc X10 e10 N f_a1 A_a1 j112_L9
        · refine own_eqF (if_neg hc131) ?_
          refine own_go (fun _ => XS.ifNo X10.here hx rfl (hb hby at_131) rfl ((if0 _ _).trans (feq hc131).1)) ?_
          show own_G p e below s _ _ _ (T10.setTop (mkF m 134 #[.val (.int q0), .val (.int q1), .val (.int q2), .val (.int q3), .val (.int q4), .val (.int q5), .val (.ref a1), .val (.int (own_n0_44 q5)), .val (.int (own_n0_56 q4 q5)), .val (.int j112_L9), .unset] []))
          refine own_go (fun _ => XS.iconst X10.here hx rfl (hb hby at_134)) ?_
          show own_G p e below s _ _ _ (T10.setTop (mkF m 135 #[.val (.int q0), .val (.int q1), .val (.int q2), .val (.int q3), .val (.int q4), .val (.int q5), .val (.ref a1), .val (.int (own_n0_44 q5)), .val (.int (own_n0_56 q4 q5)), .val (.int j112_L9), .unset] [(.int (1 : Int32))]))
          refine own_go (fun _ => XS.istore X10.here hx rfl (hb hby at_135) rfl (l' := #[.val (.int q0), .val (.int q1), .val (.int q2), .val (.int q3), .val (.int q4), .val (.int q5), .val (.ref a1), .val (.int (own_n0_44 q5)), .val (.int (own_n0_56 q4 q5)), .val (.int (1 : Int32)), .unset]) rfl) ?_
          exact b137 T10 h Lc X10 e10 N f_a1 A_a1 (1 : Int32)
      · refine own_eqF (if_neg hc121) ?_
        refine own_go (fun _ => XS.icmpYes X.here hx rfl (pc0 := 121) (pc' := 137) rfl (hb hby at_121) rfl (flt hc121).2.1 (by decide) (by decide)) ?_
        exact b137 T h Lc X eT N f_a1 A_a1 j112_L9
  have b87 : ∀ (T : State) (h : Heap) (Lc : List Loc), Stand p l e room_1 s m #[(.int q0), (.int q1), (.int q2), (.int q3), (.int q4), (.int q5)] below meth c T Lc (0 + 1) (0 + 4) → T.heap = h → Fr n0 Lc → ∀ (f_a1 : Int32 → Int32), own_A Z h a1 .char (4 : Int32) f_a1 → ∀ (j87_L9 : Int32), own_G p e below s (own_QF (some (.int (own_v0_87 f_a1 q0 q1 q2 q3 q4 q5 j87_L9))) n0) room_1.cells room_1.slots (T.setTop (mkF m 87 #[.val (.int q0), .val (.int q1), .val (.int q2), .val (.int q3), .val (.int q4), .val (.int q5), .val (.ref a1), .val (.int (own_n0_44 q5)), .val (.int (own_n0_56 q4 q5)), .val (.int j87_L9), .unset] [])) := by
    intro T h Lc X eT N f_a1 A_a1 j87_L9
    show own_G p e below s (own_QF (some (.int (if (2 : Int32) < (own_n0_56 q4 q5) then (own_v0_112 f_a1 q0 q1 q2 q3 q4 q5 j87_L9) else (if (2 : Int32) < (own_n0_44 q5) then (if (own_v2_0 (f_a1 (2 : Int32))) = (0 : Int32) then (own_v0_112 f_a1 q0 q1 q2 q3 q4 q5 j87_L9) else (own_v0_112 f_a1 q0 q1 q2 q3 q4 q5 (2 : Int32))) else (own_v0_112 f_a1 q0 q1 q2 q3 q4 q5 j87_L9))))) n0) room_1.cells room_1.slots (T.setTop (mkF m 87 #[.val (.int q0), .val (.int q1), .val (.int q2), .val (.int q3), .val (.int q4), .val (.int q5), .val (.ref a1), .val (.int (own_n0_44 q5)), .val (.int (own_n0_56 q4 q5)), .val (.int j87_L9), .unset] []))
    refine own_go (fun _ => XS.iconst X.here hx rfl (hb hby at_87)) ?_
    show own_G p e below s _ _ _ (T.setTop (mkF m 88 #[.val (.int q0), .val (.int q1), .val (.int q2), .val (.int q3), .val (.int q4), .val (.int q5), .val (.ref a1), .val (.int (own_n0_44 q5)), .val (.int (own_n0_56 q4 q5)), .val (.int j87_L9), .unset] [(.int (2 : Int32))]))
    refine own_go (fun _ => XS.iload X.here hx rfl (hb hby at_88) rfl) ?_
    show own_G p e below s _ _ _ (T.setTop (mkF m 90 #[.val (.int q0), .val (.int q1), .val (.int q2), .val (.int q3), .val (.int q4), .val (.int q5), .val (.ref a1), .val (.int (own_n0_44 q5)), .val (.int (own_n0_56 q4 q5)), .val (.int j87_L9), .unset] [(.int (own_n0_56 q4 q5)), (.int (2 : Int32))]))
    by_cases hc90 : (2 : Int32) < (own_n0_56 q4 q5)
    · refine own_eqF (if_pos hc90) ?_
      refine own_go (fun _ => XS.icmpYes X.here hx rfl (pc0 := 90) (pc' := 112) rfl (hb hby at_90) rfl (tlt hc90).1 (by decide) (by decide)) ?_
      exact b112 T h Lc X eT N f_a1 A_a1 j87_L9
    · refine own_eqF (if_neg hc90) ?_
      refine own_go (fun _ => XS.icmpNo X.here hx rfl (hb hby at_90) rfl (flt hc90).1) ?_
      show own_G p e below s _ _ _ (T.setTop (mkF m 93 #[.val (.int q0), .val (.int q1), .val (.int q2), .val (.int q3), .val (.int q4), .val (.int q5), .val (.ref a1), .val (.int (own_n0_44 q5)), .val (.int (own_n0_56 q4 q5)), .val (.int j87_L9), .unset] []))
      refine own_go (fun _ => XS.iconst X.here hx rfl (hb hby at_93)) ?_
      show own_G p e below s _ _ _ (T.setTop (mkF m 94 #[.val (.int q0), .val (.int q1), .val (.int q2), .val (.int q3), .val (.int q4), .val (.int q5), .val (.ref a1), .val (.int (own_n0_44 q5)), .val (.int (own_n0_56 q4 q5)), .val (.int j87_L9), .unset] [(.int (2 : Int32))]))
      refine own_go (fun _ => XS.iload X.here hx rfl (hb hby at_94) rfl) ?_
      show own_G p e below s _ _ _ (T.setTop (mkF m 96 #[.val (.int q0), .val (.int q1), .val (.int q2), .val (.int q3), .val (.int q4), .val (.int q5), .val (.ref a1), .val (.int (own_n0_44 q5)), .val (.int (own_n0_56 q4 q5)), .val (.int j87_L9), .unset] [(.int (own_n0_44 q5)), (.int (2 : Int32))]))
      by_cases hc96 : (2 : Int32) < (own_n0_44 q5)
      · refine own_eqF (if_pos hc96) ?_
        refine own_go (fun _ => XS.icmpNo X.here hx rfl (hb hby at_96) rfl (tlt hc96).2.1) ?_
        show own_G p e below s _ _ _ (T.setTop (mkF m 99 #[.val (.int q0), .val (.int q1), .val (.int q2), .val (.int q3), .val (.int q4), .val (.int q5), .val (.ref a1), .val (.int (own_n0_44 q5)), .val (.int (own_n0_56 q4 q5)), .val (.int j87_L9), .unset] []))
        refine own_go (fun _ => XS.aload X.here hx rfl (hb hby at_99) rfl rfl) ?_
        show own_G p e below s _ _ _ (T.setTop (mkF m 101 #[.val (.int q0), .val (.int q1), .val (.int q2), .val (.int q3), .val (.int q4), .val (.int q5), .val (.ref a1), .val (.int (own_n0_44 q5)), .val (.int (own_n0_56 q4 q5)), .val (.int j87_L9), .unset] [(.ref a1)]))
        refine own_go (fun _ => XS.iconst X.here hx rfl (hb hby at_101)) ?_
        show own_G p e below s _ _ _ (T.setTop (mkF m 102 #[.val (.int q0), .val (.int q1), .val (.int q2), .val (.int q3), .val (.int q4), .val (.int q5), .val (.ref a1), .val (.int (own_n0_44 q5)), .val (.int (own_n0_56 q4 q5)), .val (.int j87_L9), .unset] [(.int (2 : Int32)), (.ref a1)]))
        refine own_go (fun _ => own_ldC X hx hZ eT A_a1 (by decide) (by decide) (g := (mkF m 102 #[.val (.int q0), .val (.int q1), .val (.int q2), .val (.int q3), .val (.int q4), .val (.int q5), .val (.ref a1), .val (.int (own_n0_44 q5)), .val (.int (own_n0_56 q4 q5)), .val (.int j87_L9), .unset] [(.int (2 : Int32)), (.ref a1)])) rfl rfl (hb hby at_102) _) ?_
        show own_G p e below s _ _ _ (T.setTop (mkF m 103 #[.val (.int q0), .val (.int q1), .val (.int q2), .val (.int q3), .val (.int q4), .val (.int q5), .val (.ref a1), .val (.int (own_n0_44 q5)), .val (.int (own_n0_56 q4 q5)), .val (.int j87_L9), .unset] [(.int (f_a1 (2 : Int32)))]))
        obtain ⟨T10, X10, e10, st10⟩ := own_call X hx hZ hown (hw _ (List.mem_of_getElem? (i := 6) rfl)) (hw _ (List.mem_of_getElem? (i := 7) rfl)) (hw _ (List.mem_of_getElem? (i := 3) rfl)) (hw _ (List.mem_of_getElem? (i := 8) rfl)) (by decide) (rm2 l Z a0 hw [] (f_a1 (2 : Int32)) h) rfl rfl eT (W := 0) (by decide) (by decide) (by decide) (by decide) (g := (mkF m 103 #[.val (.int q0), .val (.int q1), .val (.int q2), .val (.int q3), .val (.int q4), .val (.int q5), .val (.ref a1), .val (.int (own_n0_44 q5)), .val (.int (own_n0_56 q4 q5)), .val (.int j87_L9), .unset] [(.int (f_a1 (2 : Int32)))])) rfl (by rw [hml]; rfl) (argsL := [(.int (f_a1 (2 : Int32)))]) (rest := []) (lenOf (by decide +kernel : parseMethodDescriptor "(C)Z" = some ⟨[.char], some .boolean⟩) rfl) rfl rfl (by show 2 * 0 + _ ≤ _; exact Nat.le_of_eq rfl) (hb hby at_103)
        refine own_go (fun _ => st10 _) ?_
        show own_G p e below s _ _ _ (T10.setTop (mkF m 106 #[.val (.int q0), .val (.int q1), .val (.int q2), .val (.int q3), .val (.int q4), .val (.int q5), .val (.ref a1), .val (.int (own_n0_44 q5)), .val (.int (own_n0_56 q4 q5)), .val (.int j87_L9), .unset] [(.int (own_v2_0 (f_a1 (2 : Int32))))]))
        by_cases hc106 : (own_v2_0 (f_a1 (2 : Int32))) = (0 : Int32)
        · refine own_eqF (if_pos hc106) ?_
          refine own_go (fun _ => XS.ifYes X10.here hx rfl (pc0 := 106) (pc' := 112) rfl (hb hby at_106) rfl ((if0 _ _).trans (teq hc106).1) (by decide) (by decide)) ?_
          exact b112 T10 h Lc X10 e10 N f_a1 A_a1 j87_L9
        · refine own_eqF (if_neg hc106) ?_
          refine own_go (fun _ => XS.ifNo X10.here hx rfl (hb hby at_106) rfl ((if0 _ _).trans (feq hc106).1)) ?_
          show own_G p e below s _ _ _ (T10.setTop (mkF m 109 #[.val (.int q0), .val (.int q1), .val (.int q2), .val (.int q3), .val (.int q4), .val (.int q5), .val (.ref a1), .val (.int (own_n0_44 q5)), .val (.int (own_n0_56 q4 q5)), .val (.int j87_L9), .unset] []))
          refine own_go (fun _ => XS.iconst X10.here hx rfl (hb hby at_109)) ?_
          show own_G p e below s _ _ _ (T10.setTop (mkF m 110 #[.val (.int q0), .val (.int q1), .val (.int q2), .val (.int q3), .val (.int q4), .val (.int q5), .val (.ref a1), .val (.int (own_n0_44 q5)), .val (.int (own_n0_56 q4 q5)), .val (.int j87_L9), .unset] [(.int (2 : Int32))]))
          refine own_go (fun _ => XS.istore X10.here hx rfl (hb hby at_110) rfl (l' := #[.val (.int q0), .val (.int q1), .val (.int q2), .val (.int q3), .val (.int q4), .val (.int q5), .val (.ref a1), .val (.int (own_n0_44 q5)), .val (.int (own_n0_56 q4 q5)), .val (.int (2 : Int32)), .unset]) rfl) ?_
          exact b112 T10 h Lc X10 e10 N f_a1 A_a1 (2 : Int32)
      · refine own_eqF (if_neg hc96) ?_
        refine own_go (fun _ => XS.icmpYes X.here hx rfl (pc0 := 96) (pc' := 112) rfl (hb hby at_96) rfl (flt hc96).2.1 (by decide) (by decide)) ?_
        exact b112 T h Lc X eT N f_a1 A_a1 j87_L9
  show own_G p e below s (own_QF (some (.int (if (3 : Int32) < (own_n0_56 q4 q5) then (own_v0_87 (own_n0_f q0 q1 q2 q3) q0 q1 q2 q3 q4 q5 (own_n0_44 q5)) else (if (3 : Int32) < (own_n0_44 q5) then (if (own_v2_0 ((own_n0_f q0 q1 q2 q3) (3 : Int32))) = (0 : Int32) then (own_v0_87 (own_n0_f q0 q1 q2 q3) q0 q1 q2 q3 q4 q5 (own_n0_44 q5)) else (own_v0_87 (own_n0_f q0 q1 q2 q3) q0 q1 q2 q3 q4 q5 (3 : Int32))) else (own_v0_87 (own_n0_f q0 q1 q2 q3) q0 q1 q2 q3 q4 q5 (own_n0_44 q5)))))) n0) room_1.cells room_1.slots (T9.setTop (mkF m 62 #[.val (.int q0), .val (.int q1), .val (.int q2), .val (.int q3), .val (.int q4), .val (.int q5), .val (.ref a1), .val (.int (own_n0_44 q5)), .val (.int (own_n0_56 q4 q5)), .val (.int (own_n0_44 q5)), .unset] []))
  refine own_go (fun _ => XS.iconst X9.here hx rfl (hb hby at_62)) ?_
  show own_G p e below s _ _ _ (T9.setTop (mkF m 63 #[.val (.int q0), .val (.int q1), .val (.int q2), .val (.int q3), .val (.int q4), .val (.int q5), .val (.ref a1), .val (.int (own_n0_44 q5)), .val (.int (own_n0_56 q4 q5)), .val (.int (own_n0_44 q5)), .unset] [(.int (3 : Int32))]))
  refine own_go (fun _ => XS.iload X9.here hx rfl (hb hby at_63) rfl) ?_
  show own_G p e below s _ _ _ (T9.setTop (mkF m 65 #[.val (.int q0), .val (.int q1), .val (.int q2), .val (.int q3), .val (.int q4), .val (.int q5), .val (.ref a1), .val (.int (own_n0_44 q5)), .val (.int (own_n0_56 q4 q5)), .val (.int (own_n0_44 q5)), .unset] [(.int (own_n0_56 q4 q5)), (.int (3 : Int32))]))
  by_cases hc65 : (3 : Int32) < (own_n0_56 q4 q5)
  · refine own_eqF (if_pos hc65) ?_
    refine own_go (fun _ => XS.icmpYes X9.here hx rfl (pc0 := 65) (pc' := 87) rfl (hb hby at_65) rfl (tlt hc65).1 (by decide) (by decide)) ?_
    exact b87 T9 h9 L9 X9 e9 N9 (own_n0_f q0 q1 q2 q3) A9 (own_n0_44 q5)
  · refine own_eqF (if_neg hc65) ?_
    refine own_go (fun _ => XS.icmpNo X9.here hx rfl (hb hby at_65) rfl (flt hc65).1) ?_
    show own_G p e below s _ _ _ (T9.setTop (mkF m 68 #[.val (.int q0), .val (.int q1), .val (.int q2), .val (.int q3), .val (.int q4), .val (.int q5), .val (.ref a1), .val (.int (own_n0_44 q5)), .val (.int (own_n0_56 q4 q5)), .val (.int (own_n0_44 q5)), .unset] []))
    refine own_go (fun _ => XS.iconst X9.here hx rfl (hb hby at_68)) ?_
    show own_G p e below s _ _ _ (T9.setTop (mkF m 69 #[.val (.int q0), .val (.int q1), .val (.int q2), .val (.int q3), .val (.int q4), .val (.int q5), .val (.ref a1), .val (.int (own_n0_44 q5)), .val (.int (own_n0_56 q4 q5)), .val (.int (own_n0_44 q5)), .unset] [(.int (3 : Int32))]))
    refine own_go (fun _ => XS.iload X9.here hx rfl (hb hby at_69) rfl) ?_
    show own_G p e below s _ _ _ (T9.setTop (mkF m 71 #[.val (.int q0), .val (.int q1), .val (.int q2), .val (.int q3), .val (.int q4), .val (.int q5), .val (.ref a1), .val (.int (own_n0_44 q5)), .val (.int (own_n0_56 q4 q5)), .val (.int (own_n0_44 q5)), .unset] [(.int (own_n0_44 q5)), (.int (3 : Int32))]))
    by_cases hc71 : (3 : Int32) < (own_n0_44 q5)
    · refine own_eqF (if_pos hc71) ?_
      refine own_go (fun _ => XS.icmpNo X9.here hx rfl (hb hby at_71) rfl (tlt hc71).2.1) ?_
      show own_G p e below s _ _ _ (T9.setTop (mkF m 74 #[.val (.int q0), .val (.int q1), .val (.int q2), .val (.int q3), .val (.int q4), .val (.int q5), .val (.ref a1), .val (.int (own_n0_44 q5)), .val (.int (own_n0_56 q4 q5)), .val (.int (own_n0_44 q5)), .unset] []))
      refine own_go (fun _ => XS.aload X9.here hx rfl (hb hby at_74) rfl rfl) ?_
      show own_G p e below s _ _ _ (T9.setTop (mkF m 76 #[.val (.int q0), .val (.int q1), .val (.int q2), .val (.int q3), .val (.int q4), .val (.int q5), .val (.ref a1), .val (.int (own_n0_44 q5)), .val (.int (own_n0_56 q4 q5)), .val (.int (own_n0_44 q5)), .unset] [(.ref a1)]))
      refine own_go (fun _ => XS.iconst X9.here hx rfl (hb hby at_76)) ?_
      show own_G p e below s _ _ _ (T9.setTop (mkF m 77 #[.val (.int q0), .val (.int q1), .val (.int q2), .val (.int q3), .val (.int q4), .val (.int q5), .val (.ref a1), .val (.int (own_n0_44 q5)), .val (.int (own_n0_56 q4 q5)), .val (.int (own_n0_44 q5)), .unset] [(.int (3 : Int32)), (.ref a1)]))
      refine own_go (fun _ => own_ldC X9 hx hZ e9 A9 (by decide) (by decide) (g := (mkF m 77 #[.val (.int q0), .val (.int q1), .val (.int q2), .val (.int q3), .val (.int q4), .val (.int q5), .val (.ref a1), .val (.int (own_n0_44 q5)), .val (.int (own_n0_56 q4 q5)), .val (.int (own_n0_44 q5)), .unset] [(.int (3 : Int32)), (.ref a1)])) rfl rfl (hb hby at_77) _) ?_
      show own_G p e below s _ _ _ (T9.setTop (mkF m 78 #[.val (.int q0), .val (.int q1), .val (.int q2), .val (.int q3), .val (.int q4), .val (.int q5), .val (.ref a1), .val (.int (own_n0_44 q5)), .val (.int (own_n0_56 q4 q5)), .val (.int (own_n0_44 q5)), .unset] [(.int ((own_n0_f q0 q1 q2 q3) (3 : Int32)))]))
      obtain ⟨T10, X10, e10, st10⟩ := own_call X9 hx hZ hown (hw _ (List.mem_of_getElem? (i := 6) rfl)) (hw _ (List.mem_of_getElem? (i := 7) rfl)) (hw _ (List.mem_of_getElem? (i := 3) rfl)) (hw _ (List.mem_of_getElem? (i := 8) rfl)) (by decide) (rm2 l Z a0 hw [] ((own_n0_f q0 q1 q2 q3) (3 : Int32)) h9) rfl rfl e9 (W := 0) (by decide) (by decide) (by decide) (by decide) (g := (mkF m 78 #[.val (.int q0), .val (.int q1), .val (.int q2), .val (.int q3), .val (.int q4), .val (.int q5), .val (.ref a1), .val (.int (own_n0_44 q5)), .val (.int (own_n0_56 q4 q5)), .val (.int (own_n0_44 q5)), .unset] [(.int ((own_n0_f q0 q1 q2 q3) (3 : Int32)))])) rfl (by rw [hml]; rfl) (argsL := [(.int ((own_n0_f q0 q1 q2 q3) (3 : Int32)))]) (rest := []) (lenOf (by decide +kernel : parseMethodDescriptor "(C)Z" = some ⟨[.char], some .boolean⟩) rfl) rfl rfl (by show 2 * 0 + _ ≤ _; exact Nat.le_of_eq rfl) (hb hby at_78)
      refine own_go (fun _ => st10 _) ?_
      show own_G p e below s _ _ _ (T10.setTop (mkF m 81 #[.val (.int q0), .val (.int q1), .val (.int q2), .val (.int q3), .val (.int q4), .val (.int q5), .val (.ref a1), .val (.int (own_n0_44 q5)), .val (.int (own_n0_56 q4 q5)), .val (.int (own_n0_44 q5)), .unset] [(.int (own_v2_0 ((own_n0_f q0 q1 q2 q3) (3 : Int32))))]))
      by_cases hc81 : (own_v2_0 ((own_n0_f q0 q1 q2 q3) (3 : Int32))) = (0 : Int32)
      · refine own_eqF (if_pos hc81) ?_
        refine own_go (fun _ => XS.ifYes X10.here hx rfl (pc0 := 81) (pc' := 87) rfl (hb hby at_81) rfl ((if0 _ _).trans (teq hc81).1) (by decide) (by decide)) ?_
        exact b87 T10 h9 L9 X10 e10 N9 (own_n0_f q0 q1 q2 q3) A9 (own_n0_44 q5)
      · refine own_eqF (if_neg hc81) ?_
        refine own_go (fun _ => XS.ifNo X10.here hx rfl (hb hby at_81) rfl ((if0 _ _).trans (feq hc81).1)) ?_
        show own_G p e below s _ _ _ (T10.setTop (mkF m 84 #[.val (.int q0), .val (.int q1), .val (.int q2), .val (.int q3), .val (.int q4), .val (.int q5), .val (.ref a1), .val (.int (own_n0_44 q5)), .val (.int (own_n0_56 q4 q5)), .val (.int (own_n0_44 q5)), .unset] []))
        refine own_go (fun _ => XS.iconst X10.here hx rfl (hb hby at_84)) ?_
        show own_G p e below s _ _ _ (T10.setTop (mkF m 85 #[.val (.int q0), .val (.int q1), .val (.int q2), .val (.int q3), .val (.int q4), .val (.int q5), .val (.ref a1), .val (.int (own_n0_44 q5)), .val (.int (own_n0_56 q4 q5)), .val (.int (own_n0_44 q5)), .unset] [(.int (3 : Int32))]))
        refine own_go (fun _ => XS.istore X10.here hx rfl (hb hby at_85) rfl (l' := #[.val (.int q0), .val (.int q1), .val (.int q2), .val (.int q3), .val (.int q4), .val (.int q5), .val (.ref a1), .val (.int (own_n0_44 q5)), .val (.int (own_n0_56 q4 q5)), .val (.int (3 : Int32)), .unset]) rfl) ?_
        exact b87 T10 h9 L9 X10 e10 N9 (own_n0_f q0 q1 q2 q3) A9 (3 : Int32)
    · refine own_eqF (if_neg hc71) ?_
      refine own_go (fun _ => XS.icmpYes X9.here hx rfl (pc0 := 71) (pc' := 87) rfl (hb hby at_71) rfl (flt hc71).2.1 (by decide) (by decide)) ?_
      exact b87 T9 h9 L9 X9 e9 N9 (own_n0_f q0 q1 q2 q3) A9 (own_n0_44 q5)
set_option maxRecDepth 65536 in
set_option maxHeartbeats 40000000 in
theorem comes_1 {Post : Tables → Env → Array Value → State → Outcome → State → Prop} (hpost : ∀ tb e args s v u, (limb_1_1.after args s (.returned v) u = true ∧ limb_1_2.after args s (.returned v) u = true ∧ True) → FrameEnd s (.returned v) u (Jvm.fieldLocs frame_1_writes args s ++ Jvm.arrayLocs frame_1_arrays args s ++ Jvm.staticLocs frame_1_statics s) 16 128 → Post tb e args s (.returned v) u) :
    ArmFor flags0 classFile x code maxLocals ret World_1 tables_1 room_1 Calls_1 rest_1 Pre_1 Post := by
  intro l hfl _ _ p e ha hc hk s m args below hf hA hF happ hP
  obtain ⟨hcalls, hrest, hpre⟩ := hP
  obtain ⟨-, -, -, hnamed, -, -, -, hat⟩ := (Spec.applies_iff hf).mp happ
  obtain ⟨hg, hn⟩ := and_e (Cond.before_iff.mp (show (Jvm.Cond.and given_1 narrow_1).before args s = true from hpre))
  obtain ⟨cg0, cq0⟩ := and_e hg
  obtain ⟨w0, w1, w2, w3, w4, w5, rfl⟩ : ∃ w0 w1 w2 w3 w4 w5 : Value, args = #[w0, w1, w2, w3, w4, w5] := by
    have hs : args.size = 6 := by simpa [Cond.value, given_1] using cg0
    obtain ⟨L⟩ := args
    match L, hs with
    | [w0, w1, w2, w3, w4, w5], _ => exact ⟨w0, w1, w2, w3, w4, w5, rfl⟩
  have hw := fun d (hd : d ∈ tables_1) => atoms_spec (ws := Jvm.Cond.code x code maxLocals ret :: tables_1) hat d (List.mem_cons_of_mem _ hd)
  obtain ⟨ca0, cq1⟩ := and_e cq0
  obtain ⟨q0, eq0⟩ := is_v ca0
  obtain rfl : w0 = (.int q0) := Option.some.inj eq0
  obtain ⟨ca1, cq2⟩ := and_e cq1
  obtain ⟨q1, eq1⟩ := is_v ca1
  obtain rfl : w1 = (.int q1) := Option.some.inj eq1
  obtain ⟨ca2, cq3⟩ := and_e cq2
  obtain ⟨q2, eq2⟩ := is_v ca2
  obtain rfl : w2 = (.int q2) := Option.some.inj eq2
  obtain ⟨ca3, cq4⟩ := and_e cq3
  obtain ⟨q3, eq3⟩ := is_v ca3
  obtain rfl : w3 = (.int q3) := Option.some.inj eq3
  obtain ⟨ca4, cq5⟩ := and_e cq4
  obtain ⟨q4, eq4⟩ := is_v ca4
  obtain rfl : w4 = (.int q4) := Option.some.inj eq4
  obtain ⟨q5, eq5⟩ := is_v cq5
  obtain rfl : w5 = (.int q5) := Option.some.inj eq5
  obtain ⟨n, o, h1, h2, h3, _, L, rfl, ⟨hv, N⟩, hq⟩ := rm0 l s _ hw tables_1 q0 q1 q2 q3 q4 q5 s.heap s.heap.size (Nat.le_refl _)  p e ha hc hk s m _ below hf ((Spec.applies_iff_loose hf).mp happ).1 ⟨rfl, State.Warmed39.refl s, rfl⟩ trivial
  rw [own_law] at hv
  subst hv
  refine ⟨n, _, h1, h2, h3, hpost _ _ _ _ _ _ ⟨Cond.after_iff.mpr rfl, Cond.after_iff.mpr (eq_i res_at (Term.int_eval (1)) rfl), trivial⟩ ⟨hq.1, hq.2.1, (hq.2.2.sift fun y hy => Or.inr (N y hy)).mono (by decide) (by decide)⟩⟩
theorem main_1_1 : Claimed_1_1 := comes_1 fun _ _ _ _ _ _ h hF => ⟨h.1, hF⟩
theorem main_1_2 : Claimed_1_2 := comes_1 fun _ _ _ _ _ _ h hF => ⟨h.2.1, hF⟩
end Jvm.Pilot.@@N@@
namespace Jvm.Pilot.@@N@@
open Jvm Jvm.ClassFile Sem Op Lib Jvm.Free Jvm.Stand Jvm.Pilot.@@N@@.Jvm.D
/-! MADE BY PROGRAM (witnessworld.py) out of the Statement's table words and the real class files: 11 classes; the members and pool entries that the words name. The judged class is class 1, her method 3. -/
namespace start1
open Jvm.ClassFile
def u (s : String) : CpInfo := .utf8 (stringToUtf16 s)
/-- a pool by its gaps: so many unusable entries, then the entry; so many at the end -/
def gap : Nat → List CpInfo → List CpInfo
  | 0, r => r
  | n + 1, r => .unusable :: gap n r
def poolList (es : List (Nat × CpInfo)) (last : Nat) : List CpInfo := es.foldr (fun e r => gap e.1 (e.2 :: r)) (gap last [])
def pool (es : List (Nat × CpInfo)) (last : Nat) : Array CpInfo := ⟨poolList es last⟩
def fileOf (pool : Array CpInfo) (this : Nat) (attrs : Array Attribute := #[]) (ms : Array MethodInfo := #[]) (fl : Nat := 33) (sup : Nat := 0) (ifs : Array Nat := #[]) (fds : Array FieldInfo := #[]) : ClassFile where
  minorVersion := 0
  majorVersion := 65
  constantPool := pool
  accessFlags := fl
  thisClass := this
  superClass := sup
  interfaces := ifs
  fields := fds
  methods := ms
  attributes := attrs
def plain (name : String) (sup : Option ClassId) : Class where
  name := name
  kind := .ordinary
  loader := none
  accessFlags := 33
  super := sup
  interfaces := #[]
  cf := none
  fields := #[]
  methods := #[]
  instanceTypes := #[]
  staticTypes := #[]
  resolved := #[]
  callSites := []
  init := .initialized
  statics := none
  mirror := none

def pool0 : Array CpInfo := pool [(5, u "<init>"), (0, u "()V"), (1, .class_ 10), (1, u "java/lang/Object")] 113

def k0m0 : Method := { name := "<init>", desc := "()V", sig := { parameters := [], returnType := none }, accessFlags := 1, code := none }
/-- java/lang/Object -/
def k0 : Class := { plain "java/lang/Object" none with
  accessFlags := 33
  interfaces := #[]
  cf := some (fileOf pool0 8 #[] #[{ accessFlags := 1, nameIndex := 5, descriptorIndex := 6, attributes := #[] }] 33 0 #[] #[])
  fields := #[]
  methods := #[k0m0]
  instanceTypes := #[]
  staticTypes := #[]
  resolved := Array.replicate 124 none
  statics := none }

def pool1 : Array CpInfo := pool [(2, .class_ 4), (1, u "java/lang/Object"), (0, u "<init>"), (0, u "()V"), (0, .methodref 8 9), (0, .class_ 10), (0, .nameAndType 11 12), (0, u "com/example/covenantry/covenantry/TextFilesLineEndPinLaw"), (0, u "ch"), (0, u "(I)C"), (0, .integer 2147483647), (0, .methodref 8 15), (0, .nameAndType 16 17), (0, u "br"), (0, u "(C)Z"), (0, .methodref 19 20), (0, .class_ 21), (0, .nameAndType 22 23), (0, u "com/example/covenantry/covenantry/TextFiles"), (0, u "lineEnd"), (0, u "([CII)I"), (3, u "law"), (0, u "(IIIIII)Z")] 4

def k1m0 : Method := { name := "<init>", desc := "()V", sig := { parameters := [], returnType := none }, accessFlags := 2, code := none }
def k1c1 : Code := { maxStack := 2, maxLocals := 2, code := method_2_code, exceptionTable := #[], attributes := #[] }
def k1m1 : Method := { name := "ch", desc := "(I)C", sig := { parameters := [.int], returnType := some .char }, accessFlags := 10, code := some k1c1 }
def k1c2 : Code := { maxStack := 2, maxLocals := 1, code := method_3_code, exceptionTable := #[], attributes := #[] }
def k1m2 : Method := { name := "br", desc := "(C)Z", sig := { parameters := [.char], returnType := some .boolean }, accessFlags := 10, code := some k1c2 }
def k1c3 : Code := { maxStack := 3, maxLocals := 11, code := code, exceptionTable := #[], attributes := #[] }
def k1m3 : Method := { name := "law", desc := "(IIIIII)Z", sig := { parameters := [.int, .int, .int, .int, .int, .int], returnType := some .boolean }, accessFlags := 9, code := some k1c3 }
/-- com/example/covenantry/covenantry/TextFilesLineEndPinLaw -/
def k1 : Class := { plain "com/example/covenantry/covenantry/TextFilesLineEndPinLaw" (some 0) with
  accessFlags := 49
  interfaces := #[]
  cf := some (fileOf pool1 8 #[] #[{ accessFlags := 2, nameIndex := 5, descriptorIndex := 6, attributes := #[] }, { accessFlags := 10, nameIndex := 11, descriptorIndex := 12, attributes := #[] }, { accessFlags := 10, nameIndex := 16, descriptorIndex := 17, attributes := #[] }, { accessFlags := 9, nameIndex := 27, descriptorIndex := 28, attributes := #[] }] 49 2 #[] #[])
  fields := #[]
  methods := #[k1m0, k1m1, k1m2, k1m3]
  instanceTypes := #[]
  staticTypes := #[]
  resolved := Array.replicate 33 none
  statics := none }

def pool2 : Array CpInfo := pool [(2, .class_ 4), (1, u "java/lang/Object"), (0, u "<init>"), (0, u "()V"), (22, .class_ 30), (0, u "com/example/covenantry/covenantry/TextFiles"), (13, .class_ 45), (0, u "com/example/covenantry/covenantry/TextFiles$Buffer"), (13, u "lineEnd"), (0, u "([CII)I"), (16, u "ENCODED_MARK"), (0, u "[B"), (0, u "BYTE_ORDER_MARK"), (0, u "C")] 21

def k2m0 : Method := { name := "<init>", desc := "()V", sig := { parameters := [], returnType := none }, accessFlags := 2, code := none }
def k2c1 : Code := { maxStack := 2, maxLocals := 4, code := prog_89_method_4_code, exceptionTable := #[], attributes := #[] }
def k2m1 : Method := { name := "lineEnd", desc := "([CII)I", sig := { parameters := [(.array .char), .int, .int], returnType := some .int }, accessFlags := 8, code := some k2c1 }
/-- com/example/covenantry/covenantry/TextFiles -/
def k2 : Class := { plain "com/example/covenantry/covenantry/TextFiles" (some 0) with
  accessFlags := 48
  interfaces := #[]
  cf := some (fileOf pool2 29 #[.nestMembers #[44]] #[{ accessFlags := 2, nameIndex := 5, descriptorIndex := 6, attributes := #[] }, { accessFlags := 8, nameIndex := 59, descriptorIndex := 60, attributes := #[] }] 48 2 #[] #[{ accessFlags := 26, nameIndex := 79, descriptorIndex := 80, attributes := #[] }, { accessFlags := 26, nameIndex := 77, descriptorIndex := 78, attributes := #[] }])
  fields := #[{ name := "BYTE_ORDER_MARK", type := .char, accessFlags := 26, slot := 0, constantValue := 0 }, { name := "ENCODED_MARK", type := (.array .byte), accessFlags := 26, slot := 1, constantValue := 0 }]
  methods := #[k2m0, k2m1]
  instanceTypes := #[]
  staticTypes := #[.char, (.array .byte)]
  resolved := Array.replicate 102 none
  statics := none }

def pool3 : Array CpInfo := pool [(1, u "java/lang/Cloneable"), (0, .class_ 1), (0, u "java/lang/Object"), (0, .class_ 3)] 3

/-- java/lang/Cloneable -/
def k3 : Class := { plain "java/lang/Cloneable" (some 0) with
  accessFlags := 1537
  interfaces := #[]
  cf := some (fileOf pool3 2 #[] #[] 1537 4 #[] #[])
  fields := #[]
  methods := #[]
  instanceTypes := #[]
  staticTypes := #[]
  resolved := Array.replicate 8 none
  statics := none }

def pool4 : Array CpInfo := pool [(1, u "java/io/Serializable"), (0, .class_ 1), (0, u "java/lang/Object"), (0, .class_ 3)] 3

/-- java/io/Serializable -/
def k4 : Class := { plain "java/io/Serializable" (some 0) with
  accessFlags := 1537
  interfaces := #[]
  cf := some (fileOf pool4 2 #[] #[] 1537 4 #[] #[])
  fields := #[]
  methods := #[]
  instanceTypes := #[]
  staticTypes := #[]
  resolved := Array.replicate 8 none
  statics := none }

/-- the primitive byte -/
def k5 : Class := { plain "byte" none with kind := .primitive 'B', accessFlags := 0x411 }
/-- [B -/
def k6 : Class := { plain "[B" (some 0) with kind := .array 5 .byte, interfaces := #[3, 4], accessFlags := 1041 }

/-- the primitive char -/
def k7 : Class := { plain "char" none with kind := .primitive 'C', accessFlags := 0x411 }
/-- [C -/
def k8 : Class := { plain "[C" (some 0) with kind := .array 7 .char, interfaces := #[3, 4], accessFlags := 1041 }

/-- the primitive int -/
def k9 : Class := { plain "int" none with kind := .primitive 'I', accessFlags := 0x411 }
/-- [I -/
def k10 : Class := { plain "[I" (some 0) with kind := .array 9 .int, interfaces := #[3, 4], accessFlags := 1041 }

def heap : Heap := #[]
def classes : Array Class := #[k0, k1, k2, k3, k4, k5, k6, k7, k8, k9, k10]
def interned : List (Array UInt16 × Addr) := []
def slotsUsed : Nat := 0
def theMethod : MethodId := ⟨1, 3⟩
def args0 : Array Value := #[.int 5, .int 3, .int 1, .int 2, .int 4, .int 3]
def aboutOver (below : List Frame) : State where
  vm := { classes := classes, interned := interned.toArray }
  heap := heap
  slotsUsed := slotsUsed
  threads := #[{ frames := .invoking theMethod args0 :: below }]
def below0 : List Frame := [.native { method := ⟨0, 0⟩, args := #[] }]
def about1 : State := aboutOver below0
def p0 : Program := .bare "" "" ""
def e0 : Env := launch0.env 0 0 0
theorem w_frames : about1.frames = Frame.invoking theMethod args0 :: below0 := rfl
set_option maxRecDepth 65536 in
theorem w_args : argsFit about1.vm theMethod args0 = true := by decide +kernel
set_option maxRecDepth 65536 in
theorem w_heap : heapFits about1 = true := by decide +kernel
set_option maxRecDepth 65536 in
theorem w_runnable : about1.curStatus? = some .runnable := by decide +kernel
set_option maxRecDepth 65536 in
theorem w_alone : about1.alone = true := by decide +kernel
set_option maxRecDepth 65536 in
theorem w_named : about1.methodNamed? x = some theMethod := by decide +kernel
set_option maxRecDepth 65536 in
theorem w_hears : about1.hears theMethod below0 = true := by decide +kernel
set_option maxRecDepth 65536 in
theorem w_ripe : about1.ripe theMethod args0 below0 = true := by decide +kernel
theorem w_running : about1.status = .running := rfl
set_option maxRecDepth 65536 in
theorem w_room : about1.hasRoom e0.platform room_1 = true :=
  launch0.hasRoom_least _ room_1 (by decide +kernel) (by decide +kernel) (by decide +kernel) (by decide +kernel) (by decide +kernel) (by decide +kernel)
theorem allAtoms_all (ts : List Jvm.Cond) (a : Array Jvm.Value) (st : Jvm.State) : (allAtoms ts).before a st = ts.all (fun c => c.before a st) := by
  induction ts with
  | nil => rfl
  | cons c t ih =>
    show (Jvm.Cond.and c (allAtoms t)).before a st = _
    rw [Jvm.Cond.before_and, ih, List.all_cons]
def words1 : List Jvm.Cond := Jvm.Cond.code x code maxLocals ret :: tables_1
/-- a 'code' word, met by the world's own term for the bytes: nothing is compared byte by byte -/
theorem code_word {y : MethodName} {bytes : ByteArray} {mx : Nat} {rt : Option FieldType} {a : Array Value} {s : State} {m : MethodId} {meth : Method} {c : Code} (h1 : s.methodNamed? y = some m) (h2 : s.vm.method? m = some meth) (h3 : meth.code = some c) (h4 : c.code = bytes)
    (h5 : (c.maxLocals == mx && c.exceptionTable.isEmpty && decide (c.maxStack ≤ mostOperands) && decide (meth.sig.returnType = rt) && !meth.locks && decide (parseMethodDescriptor y.desc = some meth.sig)) = true) : (Jvm.Cond.code y bytes mx rt).before a s = true := by
  simp only [Bool.and_eq_true, beq_iff_eq, Bool.not_eq_true', decide_eq_true_eq] at h5
  obtain ⟨⟨⟨⟨⟨g1, g2⟩, g3⟩, g4⟩, g5⟩, g6⟩ := h5
  simp [Cond.before, Cond.holds, Cond.value, h1, h2, h3, h4, g1, g2, g3, g4, g5, g6]
def isCode : Jvm.Cond → Bool
  | .code _ _ _ _ => true
  | _ => false
theorem all_split {L : List Jvm.Cond} {P : Jvm.Cond → Bool} (h1 : L.all (fun c => isCode c || P c) = true) (h2 : ∀ c ∈ L.filter isCode, P c = true) : L.all P = true := by
  refine List.all_eq_true.mpr fun c hc => ?_
  have h := List.all_eq_true.mp h1 c hc
  rcases Bool.eq_false_or_eq_true (isCode c) with hi | hi
  · exact h2 c (List.mem_filter.mpr ⟨hc, hi⟩)
  · simpa [hi] using h
set_option maxRecDepth 65536 in
theorem w_c0 : (Jvm.Cond.code x code maxLocals ret).before args0 about1 = true := code_word (m := ⟨1, 3⟩) (meth := k1m3) (c := k1c3) (by decide +kernel) rfl rfl rfl (by decide +kernel)
set_option maxRecDepth 65536 in
theorem w_c1 : (Jvm.Cond.code ({ cls := "com/example/covenantry/covenantry/TextFilesLineEndPinLaw", name := "ch", desc := "(I)C" } : Jvm.MethodName) method_2_code (2 : Nat) (Option.some Jvm.ClassFile.FieldType.char)).before args0 about1 = true := code_word (m := ⟨1, 1⟩) (meth := k1m1) (c := k1c1) (by decide +kernel) rfl rfl rfl (by decide +kernel)
set_option maxRecDepth 65536 in
theorem w_c2 : (Jvm.Cond.code ({ cls := "com/example/covenantry/covenantry/TextFilesLineEndPinLaw", name := "br", desc := "(C)Z" } : Jvm.MethodName) method_3_code (1 : Nat) (Option.some Jvm.ClassFile.FieldType.boolean)).before args0 about1 = true := code_word (m := ⟨1, 2⟩) (meth := k1m2) (c := k1c2) (by decide +kernel) rfl rfl rfl (by decide +kernel)
set_option maxRecDepth 65536 in
theorem w_c3 : (Jvm.Cond.code ({ cls := "com/example/covenantry/covenantry/TextFiles", name := "lineEnd", desc := "([CII)I" } : Jvm.MethodName) prog_89_method_4_code (4 : Nat) (Option.some Jvm.ClassFile.FieldType.int)).before args0 about1 = true := code_word (m := ⟨2, 1⟩) (meth := k2m1) (c := k2c1) (by decide +kernel) rfl rfl rfl (by decide +kernel)
def codes1 : List Jvm.Cond := [Jvm.Cond.code x code maxLocals ret, Jvm.Cond.code ({ cls := "com/example/covenantry/covenantry/TextFilesLineEndPinLaw", name := "ch", desc := "(I)C" } : Jvm.MethodName) method_2_code (2 : Nat) (Option.some Jvm.ClassFile.FieldType.char), Jvm.Cond.code ({ cls := "com/example/covenantry/covenantry/TextFilesLineEndPinLaw", name := "br", desc := "(C)Z" } : Jvm.MethodName) method_3_code (1 : Nat) (Option.some Jvm.ClassFile.FieldType.boolean), Jvm.Cond.code ({ cls := "com/example/covenantry/covenantry/TextFiles", name := "lineEnd", desc := "([CII)I" } : Jvm.MethodName) prog_89_method_4_code (4 : Nat) (Option.some Jvm.ClassFile.FieldType.int)]
set_option maxRecDepth 65536 in
theorem codes_eq : words1.filter isCode = codes1 := rfl
theorem w_codes : ∀ c ∈ words1.filter isCode, c.before args0 about1 = true := by
  rw [codes_eq]
  intro c hc
  simp only [codes1, List.mem_cons, List.not_mem_nil, or_false] at hc
  rcases hc with rfl | rfl | rfl | rfl
  · exact w_c0
  · exact w_c1
  · exact w_c2
  · exact w_c3
set_option maxRecDepth 65536 in
theorem w_t1 : words1.all (fun c => isCode c || c.before args0 about1) = true := by decide +kernel
theorem w_tables : (allAtoms (Jvm.Cond.code x code maxLocals ret :: tables_1)).before args0 about1 = true := by
  rw [allAtoms_all]
  show words1.all (fun c => c.before args0 about1) = true
  refine all_split ?_ w_codes
  rw [w_t1]
set_option maxRecDepth 65536 in
theorem w_case : (Jvm.Cond.and given_1 narrow_1).before args0 about1 = true := by decide +kernel
theorem w_applies : (headSpec (Jvm.Cond.code x code maxLocals ret :: tables_1) room_1).applies x e0.platform about1 = true :=
  (Spec.applies_iff w_frames).mpr ⟨w_running, w_runnable, w_alone, w_named, w_hears, w_ripe, w_room, w_tables⟩
theorem atStart : AtStart classFile x code maxLocals ret World_1 tables_1 room_1 Calls_1 rest_1 Pre_1 launch0 p0 e0 about1 theMethod args0 below0 :=
  ⟨lists_1, trivial, launch0.admits_env _ _ _, launch0.least_env, fairChoices_fair.cas, fairChoices_fair.clock, w_frames, w_args, w_heap, w_applies, trivial, trivial, w_case⟩
end start1
theorem witness_1 : WitnessClaimed_1 := ⟨start1.p0, start1.e0, start1.about1, start1.theMethod, start1.args0, start1.below0, start1.atStart⟩
end Jvm.Pilot.@@N@@
