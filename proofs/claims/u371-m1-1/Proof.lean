import JvmDerived
import JvmDerived.Pilot.@@N@@Statement
import JvmDerived.Pilot.@@N@@Code
set_option linter.unusedVariables false
set_option linter.unusedSimpArgs false
namespace Jvm.RoadKit
open Sem ClassFile Op Lib Jvm.Stand Jvm.Free Jvm.LawKit
section New
variable {p : Program} {l : Launch} {e : Env} {R : Room} {s : State} {m : MethodId} {args : Array Value} {below : List Frame} {meth : Method} {c : Code} {T : State} {locs : List Loc} {cells slots : Nat}
theorem retI (X : Stand p l e R s m args below meth c T locs cells slots) (hx : p.tables.exec = Jvm.exec) {pc : Nat} {Ls : Array Slot} {z : Int32} {rest : List Value} (hret : meth.sig.returnType = some .int) (hd : decode c.code pc = .ok (.ireturn, 1)) {fs : List Frame}
    (hl : ∀ (f : JFrame) (acts : List Action), f.method = m → f.locked = none → f.entered = [] → (doReturn e (T.setTop f) acts (some (.int z))).1 = T.setFrames fs) : Steps p.tables e below (T.setTop (mkF m pc Ls (.int z :: rest))) (T.setFrames fs) := by
  have hm' : T.vm.method? m = some meth := X.method'
  have hn : narrow .int (.int z) = .int z := rfl
  show Steps p.tables e below (T.setTop { method := m, pc := pc, locals := Ls, stack := _ :: rest, locked := none }) _
  jvm_step X.here [X.here.top, hx, hd, hm', hret, hn]
  first | (intro acts; rw [hl _ acts rfl rfl rfl]) | rw [hl _ _ rfl rfl rfl]
  exact Steps.refl _
end New
end Jvm.RoadKit
namespace Jvm.Pilot.@@N@@
open Jvm Jvm.ClassFile Sem Op Lib Jvm.Free Jvm.Stand Jvm.LawKit Jvm.RoadKit Bundle Jvm.Pilot.@@N@@.Jvm.D
/-! 0. the walk's goal: from the state S the body ends, and Q says what it leaves -/
def own_G (p : Program) (e : Env) (below : List Frame) (s : State) (Q : Option Value → Heap → List Loc → Prop) (k n : Nat) (S : State) : Prop :=
  ∃ s₂ o, Steps p.tables e below S s₂ ∧ s₂.status = .running ∧ Ended s₂ below o ∧ ∃ v L, o = .returned v ∧ Q v s₂.heap L ∧ FrameEnd s o s₂ L k n
theorem own_go {p : Program} {e : Env} {below : List Frame} {s : State} {Q : Option Value → Heap → List Loc → Prop} {k n : Nat} {S S' : State} (h : ∀ t, Steps p.tables e below S' t → Steps p.tables e below S t) (g : own_G p e below s Q k n S') : own_G p e below s Q k n S := by
  obtain ⟨t, o, h1, h2⟩ := g
  exact ⟨t, o, h t h1, h2⟩
theorem own_G0 {p : Program} {e : Env} {below : List Frame} {s : State} {Q : Option Value → Heap → List Loc → Prop} {k n : Nat} {S : State} (g : own_G p e below s Q k n S) :
    ∃ s₂ o, Steps p.tables e below S s₂ ∧ s₂.status = .running ∧ Ended s₂ below o ∧ ∃ v L, o = .returned v ∧ Q v s₂.heap L ∧ FrameEnd s o s₂ L k n := g
/-- a body that writes nothing and returns r -/
def own_Q (r : Option Value) (h0 : Heap) (v : Option Value) (h : Heap) (L : List Loc) : Prop := v = r ∧ L = [] ∧ h = h0
/-- Java's x % y, x >>> y on ints and longs, (char) x -/
def own_rem (x y : Int32) : Int32 := x - (x / y) * y
def own_us (x y : Int32) : Int32 := (x.toUInt32 >>> (y &&& 31).toUInt32).toInt32
def own_usL (x : Int64) (y : Int32) : Int64 := (x.toUInt64 >>> (y &&& 0x3f).toInt64.toUInt64).toInt64
def own_c (x : Int32) : Int32 := x.toUInt32.toUInt16.toUInt32.toInt32
theorem own_eq {p : Program} {e : Env} {below : List Frame} {s : State} {h0 : Heap} {k n : Nat} {S : State} {a b : Int32} (h : a = b) (g : own_G p e below s (own_Q (some (.int b)) h0) k n S) : own_G p e below s (own_Q (some (.int a)) h0) k n S := h ▸ g
section Own
variable {p : Program} {l : Launch} {e : Env} {R : Room} {s : State} {m : MethodId} {args : Array Value} {below : List Frame} {meth : Method} {c : Code} {T : State} {locs : List Loc} {cells slots : Nat} {Q : Option Value → Heap → List Loc → Prop} {k n : Nat}
theorem own_retI (X : Stand p l e R s m args below meth c T locs cells slots) (hx : p.tables.exec = Jvm.exec) (hlk : meth.locks = false) {pc : Nat} {Ls : Array Slot} {z : Int32} {rest : List Value} (hret : meth.sig.returnType = some .int) (hd : decode c.code pc = .ok (.ireturn, 1)) (hc : cells ≤ k) (hs : slots ≤ n) (hq : Q (some (.int z)) T.heap locs) :
    own_G p e below s Q k n (T.setTop (mkF m pc Ls (.int z :: rest))) := by
  obtain ⟨fs, hr, hrun, hended, hW, hsame⟩ := X.leave (v := some (.int z)) (fun h => by rw [hret] at h; cases h) hlk
  exact ⟨_, _, retI X hx hret hd hr, hrun, hended, _, _, rfl, hq, ⟨_, rfl⟩, hW, hsame.mono hc hs⟩
theorem own_retN (X : Stand p l e R s m args below meth c T locs cells slots) (hx : p.tables.exec = Jvm.exec) (hlk : meth.locks = false) {pc : Nat} {Ls : Array Slot} {z : Int32} {t : FieldType} {rest : List Value} (hret : meth.sig.returnType = some t) (ht : t = .boolean ∨ t = .byte ∨ t = .char ∨ t = .short) (hd : decode c.code pc = .ok (.ireturn, 1)) (hc : cells ≤ k) (hs : slots ≤ n) (hq : Q (some (.int (nar t z))) T.heap locs) :
    own_G p e below s Q k n (T.setTop (mkF m pc Ls (.int z :: rest))) := by
  obtain ⟨fs, hr, hrun, hended, hW, hsame⟩ := X.leave (v := some (.int (nar t z))) (fun h => by rw [hret] at h; cases h) hlk
  exact ⟨_, _, retN X hx hret ht hd hr, hrun, hended, _, _, rfl, hq, ⟨_, rfl⟩, hW, hsame.mono hc hs⟩
theorem own_retJ (X : Stand p l e R s m args below meth c T locs cells slots) (hx : p.tables.exec = Jvm.exec) (hlk : meth.locks = false) {pc : Nat} {Ls : Array Slot} {z : Int64} (hret : meth.sig.returnType = some .long) (hd : decode c.code pc = .ok (.lreturn, 1)) (hc : cells ≤ k) (hs : slots ≤ n) (hq : Q (some (.long z)) T.heap locs) :
    own_G p e below s Q k n (T.setTop (mkF m pc Ls [.long z])) := by
  obtain ⟨fs, hr, hrun, hended, hW, hsame⟩ := X.leave (v := some (.long z)) (fun h => by rw [hret] at h; cases h) hlk
  exact ⟨_, _, X.lreturnOut hx hret hd hr, hrun, hended, _, _, rfl, hq, ⟨_, rfl⟩, hW, hsame.mono hc hs⟩
theorem own_retA (X : Stand p l e R s m args below meth c T locs cells slots) (hx : p.tables.exec = Jvm.exec) (hlk : meth.locks = false) {pc : Nat} {Ls : Array Slot} {w : Value} {t : FieldType} (hw : w.isRef = true) (hret : meth.sig.returnType = some t) (ht : t.isReference = true) (hd : decode c.code pc = .ok (.areturn, 1)) (hc : cells ≤ k) (hs : slots ≤ n) (hq : Q (some w) T.heap locs) :
    own_G p e below s Q k n (T.setTop (mkF m pc Ls [w])) := by
  obtain ⟨fs, hr, hrun, hended, hW, hsame⟩ := X.leave (v := some w) (fun h => by rw [hret] at h; cases h) hlk
  exact ⟨_, _, X.areturnOut hx hw hret ht hd hr, hrun, hended, _, _, rfl, hq, ⟨_, rfl⟩, hW, hsame.mono hc hs⟩
theorem own_retV (X : Stand p l e R s m args below meth c T locs cells slots) (hx : p.tables.exec = Jvm.exec) (hlk : meth.locks = false) {pc : Nat} {Ls : Array Slot} (hret : meth.sig.returnType = none) (hd : decode c.code pc = .ok (.return_, 1)) (hc : cells ≤ k) (hs : slots ≤ n) (hq : Q none T.heap locs) :
    own_G p e below s Q k n (T.setTop (mkF m pc Ls [])) := by
  obtain ⟨fs, hr, hrun, hended, hW, hsame⟩ := X.leave (v := none) (fun _ => rfl) hlk
  exact ⟨_, _, X.returnOut hx hret hd hr, hrun, hended, _, _, rfl, hq, ⟨_, rfl⟩, hW, hsame.mono hc hs⟩
/-- a static call of a body that writes nothing -/
theorem own_call (X : Stand p l e R s m args below meth c T locs cells slots) (hx : p.tables.exec = Jvm.exec) {Z : State} (hZ : Z.Warmed39 s.vm) {a0 : Array Value} {own : String} {index : Nat} {y : MethodName} {bytes : ByteArray} {maxL : Nat} {ret : Option FieldType} {rm : Room} (hown : s.vm.findClass own = some m.cls)
    (w1 : (Cond.methodLink own index y).before a0 Z = true) (w2 : (Cond.static y).before a0 Z = true) (w3 : (Cond.initialized y.cls).before a0 Z = true) (w4 : (Cond.code y bytes maxL ret).before a0 Z = true) (hy : y.cls ≠ "java/lang/invoke/MethodHandle" ∧ y.cls ≠ "java/lang/invoke/VarHandle")
    {as' : Array Value} {h : Heap} {r : Option Value} (hM : MetFree l y (head1 [Cond.code y bytes maxL ret] rm) (fun a U => a = as' ∧ Z.Warmed39 U.vm ∧ U.heap = h) (fun _ _ _ _ _ => True) (fun _ U o U' => ∃ v L, o = .returned v ∧ own_Q r h v U'.heap L ∧ FrameEnd U o U' L rm.cells rm.slots)) (hc0 : rm.cells = 0) (hs0 : rm.slots = 0) (eT : T.heap = h)
    {W : Nat} (hf : rm.frames + 1 ≤ R.frames) (hl : W + (maxL + 11) + rm.locals ≤ R.locals) (hcR : cells ≤ R.cells) (hsR : slots ≤ R.slots) {g : JFrame} (hg : g.method = m) (hsize : g.locals.size = c.maxLocals) {argsL rest : List Value} (hlen : ∀ sig, parseMethodDescriptor y.desc = some sig → argsL.length = sig.parameters.length) (has : argsL.toArray = as') (hstack : g.stack = argsL.reverse ++ rest)
    (hW : 2 * g.monitorRoom + (rest.map fun v => v.category).sum ≤ W) (hdg : decode c.code g.pc = .ok (.invokestatic index, 3)) :
    ∃ T', Stand p l e R s m args below meth c T' locs cells slots ∧ T'.heap = h ∧ ∀ t, Steps p.tables e below (T'.setTop { g with pc := g.pc + 3, stack := r.toList ++ rest }) t → Steps p.tables e below (T.setTop g) t := by
  obtain ⟨_, _, ⟨T2, L2, k2, n2⟩, -, X2, ⟨Lc2, hQ2, l2, y2, z2⟩, st2⟩ := Jvm.LawKit.callS X hx hown (mvT hZ w1) (mvT hZ w2) (mvT hZ w3) (mvT hZ w4) hy (backOf (W := W) hM hZ w4 w3 hf hl) hg hsize hlen hstack hW hdg (fun _ _ => ⟨has, eT, (by show cells + rm.cells ≤ R.cells; rw [hc0]; exact hcR), (by show slots + rm.slots ≤ R.slots; rw [hs0]; exact hsR)⟩)
  dsimp only [Pt.U, Pt.locs, Pt.cells, Pt.slots] at X2 l2 y2 z2 st2 hQ2
  obtain ⟨rfl, rfl, e2⟩ := hQ2
  rw [hc0] at y2
  rw [hs0] at z2
  rw [List.append_nil] at l2
  subst l2 y2 z2
  exact ⟨T2, X2, e2, st2⟩
end Own

def own_QF (r : Option Value) (n0 : Nat) (v : Option Value) (h : Heap) (L : List Loc) : Prop := v = r ∧ Fr n0 L
theorem own_eqF {p : Program} {e : Env} {below : List Frame} {s : State} {n0 : Nat} {k n : Nat} {S : State} {a b : Int32} (h : a = b) (g : own_G p e below s (own_QF (some (.int b)) n0) k n S) : own_G p e below s (own_QF (some (.int a)) n0) k n S := h ▸ g
/-! arrays: at a stands an array of n values, the j-th f j -/
def own_A (Z : State) (h : Heap) (a : Addr) (ty : FieldType) (n : Int32) (f : Int32 → Int32) : Prop :=
  ∃ c : Cell, Arr Z h a c ty ∧ c.slots.size = n.toNatClampNeg ∧ ¬ n < 0 ∧ ∀ j : Int32, ¬ j < 0 → j < n → c.slots[j.toNatClampNeg]? = some (.int (f j))
def own_set (f : Int32 → Int32) (j v : Int32) (i : Int32) : Int32 := if i = j then v else f i
theorem own_clamp {j n : Int32} (h0 : ¬ j < 0) (h1 : j < n) : j.toNatClampNeg < n.toNatClampNeg := by
  rw [Int32.lt_iff_toInt_lt] at h0 h1
  have : (0 : Int32).toInt = 0 := rfl
  show j.toInt.toNat < n.toInt.toNat
  omega
theorem own_clinj {i j : Int32} (h0 : ¬ i < 0) (h1 : ¬ j < 0) (h : i.toNatClampNeg = j.toNatClampNeg) : i = j := by
  rw [Int32.lt_iff_toInt_lt] at h0 h1
  have z : (0 : Int32).toInt = 0 := rfl
  have e : i.toInt.toNat = j.toInt.toNat := h
  apply Int32.toInt_inj.mp
  omega
theorem own_A_new {Z : State} {h : Heap} {a : Addr} {k : ClassId} {ty : FieldType} {n : Int32} (A : Arr Z h a (newA k ty n) ty) (q : ¬ n < 0) (hd : defaultValue ty = .int 0) : own_A Z h a ty n (fun _ => 0) := by
  obtain ⟨c, h1, -, h3, h4, h5, -⟩ := Arv.new A q
  refine ⟨c, h1, h3, q, fun j h0 hj => ?_⟩
  have := h5 j.toNatClampNeg (by rw [h3]; exact own_clamp h0 hj)
  rw [this, hd]
  rfl
theorem own_A_set {Z : State} {h h' : Heap} {a : Addr} {ty : FieldType} {n j v : Int32} {f : Int32 → Int32} (A : own_A Z h a ty n f) (h0 : ¬ j < 0) (h1 : j < n) (W : Wr h h' a j.toNatClampNeg (.int v)) : own_A Z h' a ty n (own_set f j v) := by
  obtain ⟨c, A1, A2, A3, A4⟩ := A
  refine ⟨_, A1.same W, by rw [← A2]; simp [Cell.setSlot], A3, fun i i0 i1 => ?_⟩
  show (c.slots.setIfInBounds j.toNatClampNeg (.int v))[i.toNatClampNeg]? = _
  by_cases e : i = j
  · subst e
    rw [Array.getElem?_setIfInBounds_self_of_lt (by rw [A2]; exact own_clamp h0 h1)]
    simp [own_set]
  · rw [Array.getElem?_setIfInBounds_ne (fun q => e (own_clinj i0 h0 q.symm)), A4 i i0 i1]
    simp [own_set, e]
theorem own_A_other {Z : State} {h h' : Heap} {a b : Addr} {ty : FieldType} {n : Int32} {f : Int32 → Int32} {sl : Nat} {v : Value} (A : own_A Z h a ty n f) (W : Wr h h' b sl v) (q : a ≠ b) : own_A Z h' a ty n f := by
  obtain ⟨c, A1, A2⟩ := A
  exact ⟨c, A1.other W q, A2⟩
theorem own_A_ext {Z : State} {h h' : Heap} {a : Addr} {ty : FieldType} {n : Int32} {f : Int32 → Int32} (A : own_A Z h a ty n f) (E : Ext h h') : own_A Z h' a ty n f := by
  obtain ⟨c, A1, A2⟩ := A
  exact ⟨c, A1.ext E, A2⟩
theorem own_A_lt {Z : State} {h : Heap} {a : Addr} {ty : FieldType} {n : Int32} {f : Int32 → Int32} (A : own_A Z h a ty n f) : a < h.size := by
  obtain ⟨c, A1, A2⟩ := A
  exact A1.lt
section OwnA
variable {p : Program} {l : Launch} {e : Env} {R : Room} {s : State} {m : MethodId} {args : Array Value} {below : List Frame} {meth : Method} {c : Code} {T : State} {locs : List Loc} {cells slots : Nat} {Z : State} {h : Heap} {n0 : Nat}
theorem own_new (X : Stand p l e R s m args below meth c T locs cells slots) (hx : p.tables.exec = Jvm.exec) (hZ : Z.Warmed39 s.vm) {a0 : Array Value} {aty : ArrayType} (w : (Cond.arrayClass (newarray.typeOf aty)).before a0 Z = true) (eT : T.heap = h) (hn0 : n0 ≤ h.size) (hdv : defaultValue (newarray.typeOf aty) = .int 0) {g : JFrame} (hg : g.method = m) (hd : decode c.code g.pc = .ok (.newarray aty, 2)) {n : Int32} {rest : List Value} (hs : g.stack = .int n :: rest)
    (hn : ¬ n < 0) {cap : Nat} (hcap : n.toNatClampNeg ≤ cap) (hb : cap * 8 ≤ 536870912) (hc : cells + 1 ≤ R.cells) (hl : slots + cap ≤ R.slots) :
    ∃ T' h' a, Stand p l e R s m args below meth c T' locs (cells + 1) (slots + cap) ∧ T'.heap = h' ∧ Ext h h' ∧ a = h.size ∧ n0 ≤ a ∧ own_A Z h' a (newarray.typeOf aty) n (fun _ => 0) ∧
      ∀ target, Steps p.tables e below (T'.setTop { g with pc := g.pc + 2, stack := .ref a :: rest }) target → Steps p.tables e below (T.setTop g) target := by
  obtain ⟨T', h', cA, X', e', E', A', st⟩ := newP X hx hZ w eT hg hd hs hn hcap hb hc hl
  exact ⟨T', h', h.size, X', e', E', rfl, hn0, own_A_new A' hn hdv, st⟩
theorem own_stC (X : Stand p l e R s m args below meth c T locs cells slots) (hx : p.tables.exec = Jvm.exec) (hZ : Z.Warmed39 s.vm) (eT : T.heap = h) {a : Addr} {n : Int32} {f : Int32 → Int32} (A : own_A Z h a .char n f) (N : Fr n0 locs) (ha : n0 ≤ a) {j x : Int32} (h0 : ¬ j < 0) (h1 : j < n) {g : JFrame} (hg : g.method = m) {rest : List Value} (hs : g.stack = .int x :: .int j :: .ref a :: rest) (hd : decode c.code g.pc = .ok (.castore, 1)) :
    ∃ T' h' locs', Stand p l e R s m args below meth c T' locs' cells slots ∧ T'.heap = h' ∧ Fr n0 locs' ∧ own_A Z h' a .char n (own_set f j (nar .char x)) ∧ Wr h h' a j.toNatClampNeg (.int (nar .char x)) ∧
      ∀ target, Steps p.tables e below (T'.setTop { g with pc := g.pc + 1, stack := rest }) target → Steps p.tables e below (T.setTop g) target := by
  obtain ⟨cl, Ar, Sz, Hn, Hf⟩ := A
  obtain ⟨T', h', X', e', W', st⟩ := stC X hx hZ eT Ar (inb_of Sz ⟨h0, h1⟩) hg hs hd
  exact ⟨T', h', _, X', e', Fr.snoc X' N ha, own_A_set ⟨cl, Ar, Sz, Hn, Hf⟩ h0 h1 W', W', st⟩
theorem own_stI (X : Stand p l e R s m args below meth c T locs cells slots) (hx : p.tables.exec = Jvm.exec) (hZ : Z.Warmed39 s.vm) (eT : T.heap = h) {a : Addr} {n : Int32} {f : Int32 → Int32} (A : own_A Z h a .int n f) (N : Fr n0 locs) (ha : n0 ≤ a) {j x : Int32} (h0 : ¬ j < 0) (h1 : j < n) {g : JFrame} (hg : g.method = m) {rest : List Value} (hs : g.stack = .int x :: .int j :: .ref a :: rest) (hd : decode c.code g.pc = .ok (.iastore, 1)) :
    ∃ T' h' locs', Stand p l e R s m args below meth c T' locs' cells slots ∧ T'.heap = h' ∧ Fr n0 locs' ∧ own_A Z h' a .int n (own_set f j x) ∧ Wr h h' a j.toNatClampNeg (.int x) ∧
      ∀ target, Steps p.tables e below (T'.setTop { g with pc := g.pc + 1, stack := rest }) target → Steps p.tables e below (T.setTop g) target := by
  obtain ⟨cl, Ar, Sz, Hn, Hf⟩ := A
  obtain ⟨T', h', X', e', W', st⟩ := stI X hx hZ eT Ar (inb_of Sz ⟨h0, h1⟩) hg hs hd
  exact ⟨T', h', _, X', e', Fr.snoc X' N ha, own_A_set ⟨cl, Ar, Sz, Hn, Hf⟩ h0 h1 W', W', st⟩
theorem own_stB (X : Stand p l e R s m args below meth c T locs cells slots) (hx : p.tables.exec = Jvm.exec) (hZ : Z.Warmed39 s.vm) (eT : T.heap = h) {a : Addr} {n : Int32} {f : Int32 → Int32} (A : own_A Z h a .byte n f) (N : Fr n0 locs) (ha : n0 ≤ a) {j x : Int32} (h0 : ¬ j < 0) (h1 : j < n) {g : JFrame} (hg : g.method = m) {rest : List Value} (hs : g.stack = .int x :: .int j :: .ref a :: rest) (hd : decode c.code g.pc = .ok (.bastore, 1)) :
    ∃ T' h' locs', Stand p l e R s m args below meth c T' locs' cells slots ∧ T'.heap = h' ∧ Fr n0 locs' ∧ own_A Z h' a .byte n (own_set f j (nar .byte x)) ∧ Wr h h' a j.toNatClampNeg (.int (nar .byte x)) ∧
      ∀ target, Steps p.tables e below (T'.setTop { g with pc := g.pc + 1, stack := rest }) target → Steps p.tables e below (T.setTop g) target := by
  obtain ⟨cl, Ar, Sz, Hn, Hf⟩ := A
  obtain ⟨T', h', X', e', W', st⟩ := stB X hx hZ eT Ar (inb_of Sz ⟨h0, h1⟩) hg hs hd
  exact ⟨T', h', _, X', e', Fr.snoc X' N ha, own_A_set ⟨cl, Ar, Sz, Hn, Hf⟩ h0 h1 W', W', st⟩
theorem own_ldC (X : Stand p l e R s m args below meth c T locs cells slots) (hx : p.tables.exec = Jvm.exec) (hZ : Z.Warmed39 s.vm) (eT : T.heap = h) {a : Addr} {n : Int32} {f : Int32 → Int32} (A : own_A Z h a .char n f) {j : Int32} (h0 : ¬ j < 0) (h1 : j < n) {g : JFrame} (hg : g.method = m) {rest : List Value} (hs : g.stack = .int j :: .ref a :: rest) (hd : decode c.code g.pc = .ok (.caload, 1)) :
    ∀ target, Steps p.tables e below (T.setTop { g with pc := g.pc + 1, stack := .int (f j) :: rest }) target → Steps p.tables e below (T.setTop g) target := by
  obtain ⟨cl, Ar, Sz, Hn, Hf⟩ := A
  exact fun t k => X.caload hx (j := j) (v := .int (f j)) (by rw [eT]; exact Ar.1) (State.isArrayOf_alike hZ.alike Ar.2.1) Ar.2.2 (inb_of Sz ⟨h0, h1⟩) (Hf j h0 h1) hg hs hd t k
theorem own_ldI (X : Stand p l e R s m args below meth c T locs cells slots) (hx : p.tables.exec = Jvm.exec) (hZ : Z.Warmed39 s.vm) (eT : T.heap = h) {a : Addr} {n : Int32} {f : Int32 → Int32} (A : own_A Z h a .int n f) {j : Int32} (h0 : ¬ j < 0) (h1 : j < n) {g : JFrame} (hg : g.method = m) {rest : List Value} (hs : g.stack = .int j :: .ref a :: rest) (hd : decode c.code g.pc = .ok (.iaload, 1)) :
    ∀ target, Steps p.tables e below (T.setTop { g with pc := g.pc + 1, stack := .int (f j) :: rest }) target → Steps p.tables e below (T.setTop g) target := by
  obtain ⟨cl, Ar, Sz, Hn, Hf⟩ := A
  exact fun t k => X.iaload hx (j := j) (v := .int (f j)) (by rw [eT]; exact Ar.1) (State.isArrayOf_alike hZ.alike Ar.2.1) Ar.2.2 (inb_of Sz ⟨h0, h1⟩) (Hf j h0 h1) hg hs hd t k
theorem own_ldB (X : Stand p l e R s m args below meth c T locs cells slots) (hx : p.tables.exec = Jvm.exec) (hZ : Z.Warmed39 s.vm) (eT : T.heap = h) {a : Addr} {n : Int32} {f : Int32 → Int32} (A : own_A Z h a .byte n f) {j : Int32} (h0 : ¬ j < 0) (h1 : j < n) {g : JFrame} (hg : g.method = m) {rest : List Value} (hs : g.stack = .int j :: .ref a :: rest) (hd : decode c.code g.pc = .ok (.baload, 1)) :
    ∀ target, Steps p.tables e below (T.setTop { g with pc := g.pc + 1, stack := .int (f j) :: rest }) target → Steps p.tables e below (T.setTop g) target := by
  obtain ⟨cl, Ar, Sz, Hn, Hf⟩ := A
  exact fun t k => X.baloadBytes hx (j := j) (v := .int (f j)) (by rw [eT]; exact Ar.1) (State.isArrayOf_alike hZ.alike Ar.2.1) Ar.2.2 (inb_of Sz ⟨h0, h1⟩) (Hf j h0 h1) hg hs hd t k
theorem own_len (X : Stand p l e R s m args below meth c T locs cells slots) (hx : p.tables.exec = Jvm.exec) (hZ : Z.Warmed39 s.vm) (eT : T.heap = h) {a : Addr} {ty : FieldType} {n : Int32} {f : Int32 → Int32} (A : own_A Z h a ty n f) {g : JFrame} (hg : g.method = m) {rest : List Value} (hs : g.stack = .ref a :: rest) (hd : decode c.code g.pc = .ok (.arraylength, 1)) :
    ∀ target, Steps p.tables e below (T.setTop { g with pc := g.pc + 1, stack := .int n :: rest }) target → Steps p.tables e below (T.setTop g) target := by
  obtain ⟨cl, Ar, Sz, Hn, Hf⟩ := A
  intro t k
  refine X.arraylength hx (by rw [eT]; exact Ar.1) (State.isArrayOf_alike hZ.alike Ar.2.1) hg hs hd t ?_
  rw [len_of Sz Hn]
  exact k
end OwnA

theorem own_m31 (x : Int32) : 0 ≤ (x &&& (2147483647 : Int32)).toInt := by
  have h : (x &&& (2147483647 : Int32)).toBitVec.msb = false := by
    rw [Int32.toBitVec_and, BitVec.msb_and, show (2147483647 : Int32).toBitVec.msb = false from rfl, Bool.and_false]
  rw [← Int32.toInt_toBitVec, BitVec.toInt_eq_msb_cond, h]
  simp
theorem own_rem_i {x y : Int32} (hx : 0 ≤ x.toInt) (hy : 0 < y.toInt) : (own_rem x y).toInt = x.toInt % y.toInt := by
  have lx := Int32.toInt_lt x
  have ly := Int32.toInt_lt y
  have e1 : (x / y).toInt = x.toInt / y.toInt := by
    rw [Int32.toInt_div, Int.tdiv_eq_ediv_of_nonneg hx]
    have a1 : 0 ≤ x.toInt / y.toInt := Int.ediv_nonneg hx (Int.le_of_lt hy)
    have a2 : x.toInt / y.toInt ≤ x.toInt := Int.ediv_le_self _ hx
    rw [Int.bmod_eq_of_le] <;> omega
  have b0 : 0 ≤ x.toInt / y.toInt := Int.ediv_nonneg hx (Int.le_of_lt hy)
  have b1 : x.toInt / y.toInt * y.toInt ≤ x.toInt := Int.ediv_mul_le _ (by omega)
  have b2 : 0 ≤ x.toInt / y.toInt * y.toInt := Int.mul_nonneg b0 (Int.le_of_lt hy)
  have e2 : (x / y * y).toInt = x.toInt / y.toInt * y.toInt := by
    rw [Int32.toInt_mul, e1, Int.bmod_eq_of_le] <;> omega
  have b3 : x.toInt % y.toInt = x.toInt - x.toInt / y.toInt * y.toInt := by
    have := Int.mul_ediv_add_emod x.toInt y.toInt
    rw [Int.mul_comm] at this
    omega
  rw [own_rem, Int32.toInt_sub, e2, Int.bmod_eq_of_le] <;> omega
theorem own_add_i {x y : Int32} (h1 : -2147483648 ≤ x.toInt + y.toInt) (h2 : x.toInt + y.toInt < 2147483648) : (x + y).toInt = x.toInt + y.toInt := by
  rw [Int32.toInt_add, Int.bmod_eq_of_le] <;> omega
theorem own_sub_i {x y : Int32} (h1 : -2147483648 ≤ x.toInt - y.toInt) (h2 : x.toInt - y.toInt < 2147483648) : (x - y).toInt = x.toInt - y.toInt := by
  rw [Int32.toInt_sub, Int.bmod_eq_of_le] <;> omega
theorem own_ne0 {y : Int32} (hy : 0 < y.toInt) : y ≠ 0 := fun h => by rw [h] at hy; exact absurd hy (by decide)
theorem own_mask (x m : Int32) (hm : 0 ≤ m.toInt) : 0 ≤ (x &&& m).toInt ∧ (x &&& m).toInt ≤ m.toInt := by
  have hm' : m.toBitVec.msb = false := by
    rw [← Int32.toInt_toBitVec] at hm
    exact BitVec.msb_eq_false_iff_two_mul_lt.mpr (by have := BitVec.toInt_eq_toNat_cond m.toBitVec; split at this <;> omega)
  have h1 : (x &&& m).toBitVec.msb = false := by rw [Int32.toBitVec_and, BitVec.msb_and, hm', Bool.and_false]
  have e1 : (x &&& m).toInt = ((x &&& m).toBitVec.toNat : Int) := by rw [← Int32.toInt_toBitVec, BitVec.toInt_eq_msb_cond, h1]; simp
  have e2 : m.toInt = (m.toBitVec.toNat : Int) := by rw [← Int32.toInt_toBitVec, BitVec.toInt_eq_msb_cond, hm']; simp
  have h2 : (x &&& m).toBitVec.toNat ≤ m.toBitVec.toNat := by rw [Int32.toBitVec_and, BitVec.toNat_and]; exact Nat.and_le_right
  omega
theorem own_lt {x y : Int32} : x < y ↔ x.toInt < y.toInt := Int32.lt_iff_toInt_lt
theorem own_inc {i n : Int32} (h : i < n) : (i + 1).toInt = i.toInt + 1 := by
  rw [own_lt] at h
  have a := Int32.toInt_lt n
  have b := Int32.le_toInt i
  have e : (1 : Int32).toInt = 1 := rfl
  rw [own_add_i (by omega) (by omega), e]
theorem own_of_i {x y : Int32} (h : x.toInt = y.toInt) : x = y := Int32.toInt_inj.mp h

theorem d1_0 : decode method_3_code 0 = .ok (.iload_n 0, 1) := by decide +kernel
theorem d1_1 : decode method_3_code 1 = .ok (.ldc 32, 2) := by decide +kernel
theorem d1_3 : decode method_3_code 3 = .ok (.iand, 1) := by decide +kernel
theorem d1_4 : decode method_3_code 4 = .ok (.ifCond .eq 11, 3) := by decide +kernel
theorem d1_7 : decode method_3_code 7 = .ok (.iload_n 0, 1) := by decide +kernel
theorem d1_8 : decode method_3_code 8 = .ok (.bipush 63, 2) := by decide +kernel
theorem d1_10 : decode method_3_code 10 = .ok (.iand, 1) := by decide +kernel
theorem d1_11 : decode method_3_code 11 = .ok (.i2c, 1) := by decide +kernel
theorem d1_12 : decode method_3_code 12 = .ok (.goto 5, 3) := by decide +kernel
theorem d1_15 : decode method_3_code 15 = .ok (.iload_n 0, 1) := by decide +kernel
theorem d1_16 : decode method_3_code 16 = .ok (.i2c, 1) := by decide +kernel
theorem d1_17 : decode method_3_code 17 = .ok (.ireturn, 1) := by decide +kernel
def own_v1_17 (q : Int32) (j17_S0 : Int32) : Int32 := (nar .char j17_S0)
def own_v1_0 (q : Int32) : Int32 := (if (q &&& (65536 : Int32)) = (0 : Int32) then (own_v1_17 q (own_c q)) else (own_v1_17 q (own_c (q &&& (63 : Int32)))))
theorem pn_1 : plainName "com/example/buccleuch/buccleuch/LexerPlainValueEndPinLaw" = true := by first | (simp [plainName, overriddenIn]; done) | decide +kernel
theorem ef_1 (m : MethodId) (q : Int32) : entryFrame m #[(.int q)] 1 = mkF m 0 #[.val (.int q)] [] := by first | (simp [entryFrame, mkF, argsToLocals, Value.category]; done) | rfl
set_option maxRecDepth 65536 in
set_option maxHeartbeats 40000000 in
theorem rm1 (l : Launch) (Z : State) (a0 : Array Value) (hw : ∀ d ∈ tables_1, d.before a0 Z = true) (ws : List Jvm.Cond) (q : Int32) (h0 : Heap)  :
    MetFree l (⟨"com/example/buccleuch/buccleuch/LexerPlainValueEndPinLaw", "ch", "(I)C"⟩ : MethodName) (head1 (Jvm.Cond.code (⟨"com/example/buccleuch/buccleuch/LexerPlainValueEndPinLaw", "ch", "(I)C"⟩ : MethodName) method_3_code 1 (some .char) :: ws) ({ frames := 0, cells := 0, slots := 0, locals := 0 } : Room)) (fun aa U => aa = #[(.int q)] ∧ Z.Warmed39 U.vm ∧ U.heap = h0) (fun _ _ _ _ _ => True) (fun _ U o U' => ∃ v L, o = .returned v ∧ own_Q (some (.int (own_v1_0 q))) h0 v U'.heap L ∧ FrameEnd U o U' L ({ frames := 0, cells := 0, slots := 0, locals := 0 } : Room).cells ({ frames := 0, cells := 0, slots := 0, locals := 0 } : Room).slots) := by
  refine MetFree.of_bodySF (plainFor_of_name pn_1) hisR ?_
  intro p e s m args below meth c s₁ Bd hml0 hP hK
  obtain ⟨rfl, hZ, hh⟩ := hP
  have hx := Bd.exec
  have hby := Bd.bytes
  have hml : c.maxLocals = 1 := hml0
  have hlk : meth.locks = false := Bd.notSynchronized
  have hown : s.vm.findClass "com/example/buccleuch/buccleuch/LexerPlainValueEndPinLaw" = some m.cls := findClass_of_methodNamed Bd.named
  have X0 : Stand p l e ({ frames := 0, cells := 0, slots := 0, locals := 0 } : Room) s m #[(.int q)] below meth c s₁ [] 0 0 := Stand.of_body Bd
  have e0 : s₁.heap = h0 := by rw [← hh, Bd.state]; rfl
  have b17 : ∀ (T : State), Stand p l e ({ frames := 0, cells := 0, slots := 0, locals := 0 } : Room) s m #[(.int q)] below meth c T [] 0 0 → T.heap = h0 → ∀ (j17_S0 : Int32), own_G p e below s (own_Q (some (.int (own_v1_17 q j17_S0))) h0) ({ frames := 0, cells := 0, slots := 0, locals := 0 } : Room).cells ({ frames := 0, cells := 0, slots := 0, locals := 0 } : Room).slots (T.setTop (mkF m 17 #[.val (.int q)] [(.int j17_S0)])) := by
    intro T X eT j17_S0
    show own_G p e below s (own_Q (some (.int (nar .char j17_S0))) h0) ({ frames := 0, cells := 0, slots := 0, locals := 0 } : Room).cells ({ frames := 0, cells := 0, slots := 0, locals := 0 } : Room).slots (T.setTop (mkF m 17 #[.val (.int q)] [(.int j17_S0)]))
    exact own_retN X hx hlk (t := .char) Bd.returns (by simp) (hb hby d1_17) (by decide) (by decide) ⟨rfl, rfl, eT⟩
  refine own_G0 (own_go (fun _ k => castTop (ef_1 m q) k) ?_)
  show own_G p e below s (own_Q (some (.int (if (q &&& (65536 : Int32)) = (0 : Int32) then (own_v1_17 q (own_c q)) else (own_v1_17 q (own_c (q &&& (63 : Int32))))))) h0) ({ frames := 0, cells := 0, slots := 0, locals := 0 } : Room).cells ({ frames := 0, cells := 0, slots := 0, locals := 0 } : Room).slots (s₁.setTop (mkF m 0 #[.val (.int q)] []))
  refine own_go (fun _ => XS.iloadN X0.here hx rfl (hb hby d1_0) rfl) ?_
  show own_G p e below s _ _ _ (s₁.setTop (mkF m 1 #[.val (.int q)] [(.int q)]))
  refine own_go (fun _ => X0.ldcInt hx hown (mvT hZ (hw _ (List.mem_of_getElem? (i := 5) rfl))) (g := (mkF m 1 #[.val (.int q)] [(.int q)])) rfl (hb hby d1_1) _) ?_
  show own_G p e below s _ _ _ (s₁.setTop (mkF m 3 #[.val (.int q)] [(.int (65536 : Int32)), (.int q)]))
  refine own_go (fun _ => XS.iand X0.here hx rfl (hb hby d1_3) rfl) ?_
  show own_G p e below s _ _ _ (s₁.setTop (mkF m 4 #[.val (.int q)] [(.int (q &&& (65536 : Int32)))]))
  by_cases hc4 : (q &&& (65536 : Int32)) = (0 : Int32)
  · refine own_eq (if_pos hc4) ?_
    refine own_go (fun _ => XS.ifYes X0.here hx rfl (pc0 := 4) (pc' := 15) rfl (hb hby d1_4) rfl ((if0 _ _).trans (teq hc4).1) (by decide) (by decide)) ?_
    show own_G p e below s _ _ _ (s₁.setTop (mkF m 15 #[.val (.int q)] []))
    refine own_go (fun _ => XS.iloadN X0.here hx rfl (hb hby d1_15) rfl) ?_
    show own_G p e below s _ _ _ (s₁.setTop (mkF m 16 #[.val (.int q)] [(.int q)]))
    refine own_go (fun _ => XS.i2c X0.here hx rfl (hb hby d1_16) rfl) ?_
    exact b17 s₁ X0 e0 (own_c q)
  · refine own_eq (if_neg hc4) ?_
    refine own_go (fun _ => XS.ifNo X0.here hx rfl (hb hby d1_4) rfl ((if0 _ _).trans (feq hc4).1)) ?_
    show own_G p e below s _ _ _ (s₁.setTop (mkF m 7 #[.val (.int q)] []))
    refine own_go (fun _ => XS.iloadN X0.here hx rfl (hb hby d1_7) rfl) ?_
    show own_G p e below s _ _ _ (s₁.setTop (mkF m 8 #[.val (.int q)] [(.int q)]))
    refine own_go (fun _ => XS.bipush X0.here hx rfl (hb hby d1_8)) ?_
    show own_G p e below s _ _ _ (s₁.setTop (mkF m 10 #[.val (.int q)] [(.int (63 : Int32)), (.int q)]))
    refine own_go (fun _ => XS.iand X0.here hx rfl (hb hby d1_10) rfl) ?_
    show own_G p e below s _ _ _ (s₁.setTop (mkF m 11 #[.val (.int q)] [(.int (q &&& (63 : Int32)))]))
    refine own_go (fun _ => XS.i2c X0.here hx rfl (hb hby d1_11) rfl) ?_
    show own_G p e below s _ _ _ (s₁.setTop (mkF m 12 #[.val (.int q)] [(.int (own_c (q &&& (63 : Int32))))]))
    refine own_go (fun _ => XS.goto X0.here hx rfl (pc0 := 12) (pc' := 17) rfl (hb hby d1_12) (by decide) (by decide)) ?_
    exact b17 s₁ X0 e0 (own_c (q &&& (63 : Int32)))
theorem d2_0 : decode jdk_29_method_69_code 0 = .ok (.iload_n 0, 1) := by decide +kernel
theorem d2_1 : decode jdk_29_method_69_code 1 = .ok (.iload_n 1, 1) := by decide +kernel
theorem d2_2 : decode jdk_29_method_69_code 2 = .ok (.if_icmp .gt 7, 3) := by decide +kernel
theorem d2_5 : decode jdk_29_method_69_code 5 = .ok (.iload_n 0, 1) := by decide +kernel
theorem d2_6 : decode jdk_29_method_69_code 6 = .ok (.goto 4, 3) := by decide +kernel
theorem d2_9 : decode jdk_29_method_69_code 9 = .ok (.iload_n 1, 1) := by decide +kernel
theorem d2_10 : decode jdk_29_method_69_code 10 = .ok (.ireturn, 1) := by decide +kernel
def own_v2_10 (q : Int32) (r : Int32) (j10_S0 : Int32) : Int32 := j10_S0
def own_v2_0 (q : Int32) (r : Int32) : Int32 := (if r < q then (own_v2_10 q r r) else (own_v2_10 q r q))
theorem ef_2 (m : MethodId) (q : Int32) (r : Int32) : entryFrame m #[(.int q), (.int r)] 2 = mkF m 0 #[.val (.int q), .val (.int r)] [] := by first | (simp [entryFrame, mkF, argsToLocals, Value.category]; done) | rfl
set_option maxRecDepth 65536 in
set_option maxHeartbeats 40000000 in
theorem rm2 (l : Launch) (Z : State) (a0 : Array Value) (hw : ∀ d ∈ tables_1, d.before a0 Z = true) (ws : List Jvm.Cond) (q : Int32) (r : Int32) (h0 : Heap)  :
    MetFree l (⟨"java/lang/Math", "min", "(II)I"⟩ : MethodName) (head1 (Jvm.Cond.code (⟨"java/lang/Math", "min", "(II)I"⟩ : MethodName) jdk_29_method_69_code 2 (some .int) :: ws) ({ frames := 0, cells := 0, slots := 0, locals := 0 } : Room)) (fun aa U => aa = #[(.int q), (.int r)] ∧ Z.Warmed39 U.vm ∧ U.heap = h0) (fun _ _ _ _ _ => True) (fun _ U o U' => ∃ v L, o = .returned v ∧ own_Q (some (.int (own_v2_0 q r))) h0 v U'.heap L ∧ FrameEnd U o U' L ({ frames := 0, cells := 0, slots := 0, locals := 0 } : Room).cells ({ frames := 0, cells := 0, slots := 0, locals := 0 } : Room).slots) := by
  refine MetFree.of_bodySF (Jvm.Free.JP.mathPlain rfl (by decide +kernel)) hisR ?_
  intro p e s m args below meth c s₁ Bd hml0 hP hK
  obtain ⟨rfl, hZ, hh⟩ := hP
  have hx := Bd.exec
  have hby := Bd.bytes
  have hml : c.maxLocals = 2 := hml0
  have hlk : meth.locks = false := Bd.notSynchronized
  have hown : s.vm.findClass "java/lang/Math" = some m.cls := findClass_of_methodNamed Bd.named
  have X0 : Stand p l e ({ frames := 0, cells := 0, slots := 0, locals := 0 } : Room) s m #[(.int q), (.int r)] below meth c s₁ [] 0 0 := Stand.of_body Bd
  have e0 : s₁.heap = h0 := by rw [← hh, Bd.state]; rfl
  have b10 : ∀ (T : State), Stand p l e ({ frames := 0, cells := 0, slots := 0, locals := 0 } : Room) s m #[(.int q), (.int r)] below meth c T [] 0 0 → T.heap = h0 → ∀ (j10_S0 : Int32), own_G p e below s (own_Q (some (.int (own_v2_10 q r j10_S0))) h0) ({ frames := 0, cells := 0, slots := 0, locals := 0 } : Room).cells ({ frames := 0, cells := 0, slots := 0, locals := 0 } : Room).slots (T.setTop (mkF m 10 #[.val (.int q), .val (.int r)] [(.int j10_S0)])) := by
    intro T X eT j10_S0
    show own_G p e below s (own_Q (some (.int j10_S0)) h0) ({ frames := 0, cells := 0, slots := 0, locals := 0 } : Room).cells ({ frames := 0, cells := 0, slots := 0, locals := 0 } : Room).slots (T.setTop (mkF m 10 #[.val (.int q), .val (.int r)] [(.int j10_S0)]))
    exact own_retI X hx hlk Bd.returns (hb hby d2_10) (by decide) (by decide) ⟨rfl, rfl, eT⟩
  refine own_G0 (own_go (fun _ k => castTop (ef_2 m q r) k) ?_)
  show own_G p e below s (own_Q (some (.int (if r < q then (own_v2_10 q r r) else (own_v2_10 q r q)))) h0) ({ frames := 0, cells := 0, slots := 0, locals := 0 } : Room).cells ({ frames := 0, cells := 0, slots := 0, locals := 0 } : Room).slots (s₁.setTop (mkF m 0 #[.val (.int q), .val (.int r)] []))
  refine own_go (fun _ => XS.iloadN X0.here hx rfl (hb hby d2_0) rfl) ?_
  show own_G p e below s _ _ _ (s₁.setTop (mkF m 1 #[.val (.int q), .val (.int r)] [(.int q)]))
  refine own_go (fun _ => XS.iloadN X0.here hx rfl (hb hby d2_1) rfl) ?_
  show own_G p e below s _ _ _ (s₁.setTop (mkF m 2 #[.val (.int q), .val (.int r)] [(.int r), (.int q)]))
  by_cases hc2 : r < q
  · refine own_eq (if_pos hc2) ?_
    refine own_go (fun _ => XS.icmpYes X0.here hx rfl (pc0 := 2) (pc' := 9) rfl (hb hby d2_2) rfl (tlt hc2).2.2.1 (by decide) (by decide)) ?_
    show own_G p e below s _ _ _ (s₁.setTop (mkF m 9 #[.val (.int q), .val (.int r)] []))
    refine own_go (fun _ => XS.iloadN X0.here hx rfl (hb hby d2_9) rfl) ?_
    exact b10 s₁ X0 e0 r
  · refine own_eq (if_neg hc2) ?_
    refine own_go (fun _ => XS.icmpNo X0.here hx rfl (hb hby d2_2) rfl (flt hc2).2.2.1) ?_
    show own_G p e below s _ _ _ (s₁.setTop (mkF m 5 #[.val (.int q), .val (.int r)] []))
    refine own_go (fun _ => XS.iloadN X0.here hx rfl (hb hby d2_5) rfl) ?_
    show own_G p e below s _ _ _ (s₁.setTop (mkF m 6 #[.val (.int q), .val (.int r)] [(.int q)]))
    refine own_go (fun _ => XS.goto X0.here hx rfl (pc0 := 6) (pc' := 10) rfl (hb hby d2_6) (by decide) (by decide)) ?_
    exact b10 s₁ X0 e0 q
theorem d3_0 : decode jdk_29_method_65_code 0 = .ok (.iload_n 0, 1) := by decide +kernel
theorem d3_1 : decode jdk_29_method_65_code 1 = .ok (.iload_n 1, 1) := by decide +kernel
theorem d3_2 : decode jdk_29_method_65_code 2 = .ok (.if_icmp .lt 7, 3) := by decide +kernel
theorem d3_5 : decode jdk_29_method_65_code 5 = .ok (.iload_n 0, 1) := by decide +kernel
theorem d3_6 : decode jdk_29_method_65_code 6 = .ok (.goto 4, 3) := by decide +kernel
theorem d3_9 : decode jdk_29_method_65_code 9 = .ok (.iload_n 1, 1) := by decide +kernel
theorem d3_10 : decode jdk_29_method_65_code 10 = .ok (.ireturn, 1) := by decide +kernel
def own_v3_10 (q : Int32) (r : Int32) (j10_S0 : Int32) : Int32 := j10_S0
def own_v3_0 (q : Int32) (r : Int32) : Int32 := (if q < r then (own_v3_10 q r r) else (own_v3_10 q r q))
theorem ef_3 (m : MethodId) (q : Int32) (r : Int32) : entryFrame m #[(.int q), (.int r)] 2 = mkF m 0 #[.val (.int q), .val (.int r)] [] := by first | (simp [entryFrame, mkF, argsToLocals, Value.category]; done) | rfl
set_option maxRecDepth 65536 in
set_option maxHeartbeats 40000000 in
theorem rm3 (l : Launch) (Z : State) (a0 : Array Value) (hw : ∀ d ∈ tables_1, d.before a0 Z = true) (ws : List Jvm.Cond) (q : Int32) (r : Int32) (h0 : Heap)  :
    MetFree l (⟨"java/lang/Math", "max", "(II)I"⟩ : MethodName) (head1 (Jvm.Cond.code (⟨"java/lang/Math", "max", "(II)I"⟩ : MethodName) jdk_29_method_65_code 2 (some .int) :: ws) ({ frames := 0, cells := 0, slots := 0, locals := 0 } : Room)) (fun aa U => aa = #[(.int q), (.int r)] ∧ Z.Warmed39 U.vm ∧ U.heap = h0) (fun _ _ _ _ _ => True) (fun _ U o U' => ∃ v L, o = .returned v ∧ own_Q (some (.int (own_v3_0 q r))) h0 v U'.heap L ∧ FrameEnd U o U' L ({ frames := 0, cells := 0, slots := 0, locals := 0 } : Room).cells ({ frames := 0, cells := 0, slots := 0, locals := 0 } : Room).slots) := by
  refine MetFree.of_bodySF (Jvm.Free.JP.mathPlain rfl (by decide +kernel)) hisR ?_
  intro p e s m args below meth c s₁ Bd hml0 hP hK
  obtain ⟨rfl, hZ, hh⟩ := hP
  have hx := Bd.exec
  have hby := Bd.bytes
  have hml : c.maxLocals = 2 := hml0
  have hlk : meth.locks = false := Bd.notSynchronized
  have hown : s.vm.findClass "java/lang/Math" = some m.cls := findClass_of_methodNamed Bd.named
  have X0 : Stand p l e ({ frames := 0, cells := 0, slots := 0, locals := 0 } : Room) s m #[(.int q), (.int r)] below meth c s₁ [] 0 0 := Stand.of_body Bd
  have e0 : s₁.heap = h0 := by rw [← hh, Bd.state]; rfl
  have b10 : ∀ (T : State), Stand p l e ({ frames := 0, cells := 0, slots := 0, locals := 0 } : Room) s m #[(.int q), (.int r)] below meth c T [] 0 0 → T.heap = h0 → ∀ (j10_S0 : Int32), own_G p e below s (own_Q (some (.int (own_v3_10 q r j10_S0))) h0) ({ frames := 0, cells := 0, slots := 0, locals := 0 } : Room).cells ({ frames := 0, cells := 0, slots := 0, locals := 0 } : Room).slots (T.setTop (mkF m 10 #[.val (.int q), .val (.int r)] [(.int j10_S0)])) := by
    intro T X eT j10_S0
    show own_G p e below s (own_Q (some (.int j10_S0)) h0) ({ frames := 0, cells := 0, slots := 0, locals := 0 } : Room).cells ({ frames := 0, cells := 0, slots := 0, locals := 0 } : Room).slots (T.setTop (mkF m 10 #[.val (.int q), .val (.int r)] [(.int j10_S0)]))
    exact own_retI X hx hlk Bd.returns (hb hby d3_10) (by decide) (by decide) ⟨rfl, rfl, eT⟩
  refine own_G0 (own_go (fun _ k => castTop (ef_3 m q r) k) ?_)
  show own_G p e below s (own_Q (some (.int (if q < r then (own_v3_10 q r r) else (own_v3_10 q r q)))) h0) ({ frames := 0, cells := 0, slots := 0, locals := 0 } : Room).cells ({ frames := 0, cells := 0, slots := 0, locals := 0 } : Room).slots (s₁.setTop (mkF m 0 #[.val (.int q), .val (.int r)] []))
  refine own_go (fun _ => XS.iloadN X0.here hx rfl (hb hby d3_0) rfl) ?_
  show own_G p e below s _ _ _ (s₁.setTop (mkF m 1 #[.val (.int q), .val (.int r)] [(.int q)]))
  refine own_go (fun _ => XS.iloadN X0.here hx rfl (hb hby d3_1) rfl) ?_
  show own_G p e below s _ _ _ (s₁.setTop (mkF m 2 #[.val (.int q), .val (.int r)] [(.int r), (.int q)]))
  by_cases hc2 : q < r
  · refine own_eq (if_pos hc2) ?_
    refine own_go (fun _ => XS.icmpYes X0.here hx rfl (pc0 := 2) (pc' := 9) rfl (hb hby d3_2) rfl (tlt hc2).1 (by decide) (by decide)) ?_
    show own_G p e below s _ _ _ (s₁.setTop (mkF m 9 #[.val (.int q), .val (.int r)] []))
    refine own_go (fun _ => XS.iloadN X0.here hx rfl (hb hby d3_9) rfl) ?_
    exact b10 s₁ X0 e0 r
  · refine own_eq (if_neg hc2) ?_
    refine own_go (fun _ => XS.icmpNo X0.here hx rfl (hb hby d3_2) rfl (flt hc2).1) ?_
    show own_G p e below s _ _ _ (s₁.setTop (mkF m 5 #[.val (.int q), .val (.int r)] []))
    refine own_go (fun _ => XS.iloadN X0.here hx rfl (hb hby d3_5) rfl) ?_
    show own_G p e below s _ _ _ (s₁.setTop (mkF m 6 #[.val (.int q), .val (.int r)] [(.int q)]))
    refine own_go (fun _ => XS.goto X0.here hx rfl (pc0 := 6) (pc' := 10) rfl (hb hby d3_6) (by decide) (by decide)) ?_
    exact b10 s₁ X0 e0 q
theorem d6_0 : decode method_4_code 0 = .ok (.iload_n 0, 1) := by decide +kernel
theorem d6_1 : decode method_4_code 1 = .ok (.bipush 32, 2) := by decide +kernel
theorem d6_3 : decode method_4_code 3 = .ok (.if_icmp .lt 24, 3) := by decide +kernel
theorem d6_6 : decode method_4_code 6 = .ok (.iload_n 0, 1) := by decide +kernel
theorem d6_7 : decode method_4_code 7 = .ok (.iload_n 1, 1) := by decide +kernel
theorem d6_8 : decode method_4_code 8 = .ok (.if_icmp .eq 19, 3) := by decide +kernel
theorem d6_11 : decode method_4_code 11 = .ok (.iload_n 0, 1) := by decide +kernel
theorem d6_12 : decode method_4_code 12 = .ok (.bipush 38, 2) := by decide +kernel
theorem d6_14 : decode method_4_code 14 = .ok (.if_icmp .eq 13, 3) := by decide +kernel
theorem d6_17 : decode method_4_code 17 = .ok (.iload_n 0, 1) := by decide +kernel
theorem d6_18 : decode method_4_code 18 = .ok (.bipush 60, 2) := by decide +kernel
theorem d6_20 : decode method_4_code 20 = .ok (.if_icmp .eq 7, 3) := by decide +kernel
theorem d6_23 : decode method_4_code 23 = .ok (.iconst 1, 1) := by decide +kernel
theorem d6_24 : decode method_4_code 24 = .ok (.goto 4, 3) := by decide +kernel
theorem d6_27 : decode method_4_code 27 = .ok (.iconst 0, 1) := by decide +kernel
theorem d6_28 : decode method_4_code 28 = .ok (.ireturn, 1) := by decide +kernel
def own_v6_28 (q : Int32) (r : Int32) (j28_S0 : Int32) : Int32 := (nar .boolean j28_S0)
def own_v6_27 (q : Int32) (r : Int32) : Int32 := (own_v6_28 q r (0 : Int32))
def own_v6_0 (q : Int32) (r : Int32) : Int32 := (if q < (32 : Int32) then (own_v6_27 q r) else (if q = r then (own_v6_27 q r) else (if q = (38 : Int32) then (own_v6_27 q r) else (if q = (60 : Int32) then (own_v6_27 q r) else (own_v6_28 q r (1 : Int32))))))
theorem pn_6 : plainName "com/example/buccleuch/buccleuch/LexerPlainValueEndPinLaw" = true := by first | (simp [plainName, overriddenIn]; done) | decide +kernel
theorem ef_6 (m : MethodId) (q : Int32) (r : Int32) : entryFrame m #[(.int q), (.int r)] 2 = mkF m 0 #[.val (.int q), .val (.int r)] [] := by first | (simp [entryFrame, mkF, argsToLocals, Value.category]; done) | rfl
set_option maxRecDepth 65536 in
set_option maxHeartbeats 40000000 in
theorem rm6 (l : Launch) (Z : State) (a0 : Array Value) (hw : ∀ d ∈ tables_1, d.before a0 Z = true) (ws : List Jvm.Cond) (q : Int32) (r : Int32) (h0 : Heap)  :
    MetFree l (⟨"com/example/buccleuch/buccleuch/LexerPlainValueEndPinLaw", "plain", "(CC)Z"⟩ : MethodName) (head1 (Jvm.Cond.code (⟨"com/example/buccleuch/buccleuch/LexerPlainValueEndPinLaw", "plain", "(CC)Z"⟩ : MethodName) method_4_code 2 (some .boolean) :: ws) ({ frames := 0, cells := 0, slots := 0, locals := 0 } : Room)) (fun aa U => aa = #[(.int q), (.int r)] ∧ Z.Warmed39 U.vm ∧ U.heap = h0) (fun _ _ _ _ _ => True) (fun _ U o U' => ∃ v L, o = .returned v ∧ own_Q (some (.int (own_v6_0 q r))) h0 v U'.heap L ∧ FrameEnd U o U' L ({ frames := 0, cells := 0, slots := 0, locals := 0 } : Room).cells ({ frames := 0, cells := 0, slots := 0, locals := 0 } : Room).slots) := by
  refine MetFree.of_bodySF (plainFor_of_name pn_6) hisR ?_
  intro p e s m args below meth c s₁ Bd hml0 hP hK
  obtain ⟨rfl, hZ, hh⟩ := hP
  have hx := Bd.exec
  have hby := Bd.bytes
  have hml : c.maxLocals = 2 := hml0
  have hlk : meth.locks = false := Bd.notSynchronized
  have hown : s.vm.findClass "com/example/buccleuch/buccleuch/LexerPlainValueEndPinLaw" = some m.cls := findClass_of_methodNamed Bd.named
  have X0 : Stand p l e ({ frames := 0, cells := 0, slots := 0, locals := 0 } : Room) s m #[(.int q), (.int r)] below meth c s₁ [] 0 0 := Stand.of_body Bd
  have e0 : s₁.heap = h0 := by rw [← hh, Bd.state]; rfl
  have b28 : ∀ (T : State), Stand p l e ({ frames := 0, cells := 0, slots := 0, locals := 0 } : Room) s m #[(.int q), (.int r)] below meth c T [] 0 0 → T.heap = h0 → ∀ (j28_S0 : Int32), own_G p e below s (own_Q (some (.int (own_v6_28 q r j28_S0))) h0) ({ frames := 0, cells := 0, slots := 0, locals := 0 } : Room).cells ({ frames := 0, cells := 0, slots := 0, locals := 0 } : Room).slots (T.setTop (mkF m 28 #[.val (.int q), .val (.int r)] [(.int j28_S0)])) := by
    intro T X eT j28_S0
    show own_G p e below s (own_Q (some (.int (nar .boolean j28_S0))) h0) ({ frames := 0, cells := 0, slots := 0, locals := 0 } : Room).cells ({ frames := 0, cells := 0, slots := 0, locals := 0 } : Room).slots (T.setTop (mkF m 28 #[.val (.int q), .val (.int r)] [(.int j28_S0)]))
    exact own_retN X hx hlk (t := .boolean) Bd.returns (by simp) (hb hby d6_28) (by decide) (by decide) ⟨rfl, rfl, eT⟩
  have b27 : ∀ (T : State), Stand p l e ({ frames := 0, cells := 0, slots := 0, locals := 0 } : Room) s m #[(.int q), (.int r)] below meth c T [] 0 0 → T.heap = h0 → own_G p e below s (own_Q (some (.int (own_v6_27 q r))) h0) ({ frames := 0, cells := 0, slots := 0, locals := 0 } : Room).cells ({ frames := 0, cells := 0, slots := 0, locals := 0 } : Room).slots (T.setTop (mkF m 27 #[.val (.int q), .val (.int r)] [])) := by
    intro T X eT
    show own_G p e below s (own_Q (some (.int (own_v6_28 q r (0 : Int32)))) h0) ({ frames := 0, cells := 0, slots := 0, locals := 0 } : Room).cells ({ frames := 0, cells := 0, slots := 0, locals := 0 } : Room).slots (T.setTop (mkF m 27 #[.val (.int q), .val (.int r)] []))
    refine own_go (fun _ => XS.iconst X.here hx rfl (hb hby d6_27)) ?_
    exact b28 T X eT (0 : Int32)
  refine own_G0 (own_go (fun _ k => castTop (ef_6 m q r) k) ?_)
  show own_G p e below s (own_Q (some (.int (if q < (32 : Int32) then (own_v6_27 q r) else (if q = r then (own_v6_27 q r) else (if q = (38 : Int32) then (own_v6_27 q r) else (if q = (60 : Int32) then (own_v6_27 q r) else (own_v6_28 q r (1 : Int32)))))))) h0) ({ frames := 0, cells := 0, slots := 0, locals := 0 } : Room).cells ({ frames := 0, cells := 0, slots := 0, locals := 0 } : Room).slots (s₁.setTop (mkF m 0 #[.val (.int q), .val (.int r)] []))
  refine own_go (fun _ => XS.iloadN X0.here hx rfl (hb hby d6_0) rfl) ?_
  show own_G p e below s _ _ _ (s₁.setTop (mkF m 1 #[.val (.int q), .val (.int r)] [(.int q)]))
  refine own_go (fun _ => XS.bipush X0.here hx rfl (hb hby d6_1)) ?_
  show own_G p e below s _ _ _ (s₁.setTop (mkF m 3 #[.val (.int q), .val (.int r)] [(.int (32 : Int32)), (.int q)]))
  by_cases hc3 : q < (32 : Int32)
  · refine own_eq (if_pos hc3) ?_
    refine own_go (fun _ => XS.icmpYes X0.here hx rfl (pc0 := 3) (pc' := 27) rfl (hb hby d6_3) rfl (tlt hc3).1 (by decide) (by decide)) ?_
    exact b27 s₁ X0 e0
  · refine own_eq (if_neg hc3) ?_
    refine own_go (fun _ => XS.icmpNo X0.here hx rfl (hb hby d6_3) rfl (flt hc3).1) ?_
    show own_G p e below s _ _ _ (s₁.setTop (mkF m 6 #[.val (.int q), .val (.int r)] []))
    refine own_go (fun _ => XS.iloadN X0.here hx rfl (hb hby d6_6) rfl) ?_
    show own_G p e below s _ _ _ (s₁.setTop (mkF m 7 #[.val (.int q), .val (.int r)] [(.int q)]))
    refine own_go (fun _ => XS.iloadN X0.here hx rfl (hb hby d6_7) rfl) ?_
    show own_G p e below s _ _ _ (s₁.setTop (mkF m 8 #[.val (.int q), .val (.int r)] [(.int r), (.int q)]))
    by_cases hc8 : q = r
    · refine own_eq (if_pos hc8) ?_
      refine own_go (fun _ => XS.icmpYes X0.here hx rfl (pc0 := 8) (pc' := 27) rfl (hb hby d6_8) rfl (teq hc8).1 (by decide) (by decide)) ?_
      exact b27 s₁ X0 e0
    · refine own_eq (if_neg hc8) ?_
      refine own_go (fun _ => XS.icmpNo X0.here hx rfl (hb hby d6_8) rfl (feq hc8).1) ?_
      show own_G p e below s _ _ _ (s₁.setTop (mkF m 11 #[.val (.int q), .val (.int r)] []))
      refine own_go (fun _ => XS.iloadN X0.here hx rfl (hb hby d6_11) rfl) ?_
      show own_G p e below s _ _ _ (s₁.setTop (mkF m 12 #[.val (.int q), .val (.int r)] [(.int q)]))
      refine own_go (fun _ => XS.bipush X0.here hx rfl (hb hby d6_12)) ?_
      show own_G p e below s _ _ _ (s₁.setTop (mkF m 14 #[.val (.int q), .val (.int r)] [(.int (38 : Int32)), (.int q)]))
      by_cases hc14 : q = (38 : Int32)
      · refine own_eq (if_pos hc14) ?_
        refine own_go (fun _ => XS.icmpYes X0.here hx rfl (pc0 := 14) (pc' := 27) rfl (hb hby d6_14) rfl (teq hc14).1 (by decide) (by decide)) ?_
        exact b27 s₁ X0 e0
      · refine own_eq (if_neg hc14) ?_
        refine own_go (fun _ => XS.icmpNo X0.here hx rfl (hb hby d6_14) rfl (feq hc14).1) ?_
        show own_G p e below s _ _ _ (s₁.setTop (mkF m 17 #[.val (.int q), .val (.int r)] []))
        refine own_go (fun _ => XS.iloadN X0.here hx rfl (hb hby d6_17) rfl) ?_
        show own_G p e below s _ _ _ (s₁.setTop (mkF m 18 #[.val (.int q), .val (.int r)] [(.int q)]))
        refine own_go (fun _ => XS.bipush X0.here hx rfl (hb hby d6_18)) ?_
        show own_G p e below s _ _ _ (s₁.setTop (mkF m 20 #[.val (.int q), .val (.int r)] [(.int (60 : Int32)), (.int q)]))
        by_cases hc20 : q = (60 : Int32)
        · refine own_eq (if_pos hc20) ?_
          refine own_go (fun _ => XS.icmpYes X0.here hx rfl (pc0 := 20) (pc' := 27) rfl (hb hby d6_20) rfl (teq hc20).1 (by decide) (by decide)) ?_
          exact b27 s₁ X0 e0
        · refine own_eq (if_neg hc20) ?_
          refine own_go (fun _ => XS.icmpNo X0.here hx rfl (hb hby d6_20) rfl (feq hc20).1) ?_
          show own_G p e below s _ _ _ (s₁.setTop (mkF m 23 #[.val (.int q), .val (.int r)] []))
          refine own_go (fun _ => XS.iconst X0.here hx rfl (hb hby d6_23)) ?_
          show own_G p e below s _ _ _ (s₁.setTop (mkF m 24 #[.val (.int q), .val (.int r)] [(.int (1 : Int32))]))
          refine own_go (fun _ => XS.goto X0.here hx rfl (pc0 := 24) (pc' := 28) rfl (hb hby d6_24) (by decide) (by decide)) ?_
          exact b28 s₁ X0 e0 (1 : Int32)
theorem d4_0 : decode method_5_code 0 = .ok (.iload_n 2, 1) := by decide +kernel
theorem d4_1 : decode method_5_code 1 = .ok (.iload_n 1, 1) := by decide +kernel
theorem d4_2 : decode method_5_code 2 = .ok (.if_icmp .gt 23, 3) := by decide +kernel
theorem d4_5 : decode method_5_code 5 = .ok (.iload_n 1, 1) := by decide +kernel
theorem d4_6 : decode method_5_code 6 = .ok (.iload_n 3, 1) := by decide +kernel
theorem d4_7 : decode method_5_code 7 = .ok (.if_icmp .ge 18, 3) := by decide +kernel
theorem d4_10 : decode method_5_code 10 = .ok (.aload_n 0, 1) := by decide +kernel
theorem d4_11 : decode method_5_code 11 = .ok (.iload_n 1, 1) := by decide +kernel
theorem d4_12 : decode method_5_code 12 = .ok (.caload, 1) := by decide +kernel
theorem d4_13 : decode method_5_code 13 = .ok (.iload 4, 2) := by decide +kernel
theorem d4_15 : decode method_5_code 15 = .ok (.invokestatic 33, 3) := by decide +kernel
theorem d4_18 : decode method_5_code 18 = .ok (.ifCond .ne 7, 3) := by decide +kernel
theorem d4_21 : decode method_5_code 21 = .ok (.iconst 1, 1) := by decide +kernel
theorem d4_22 : decode method_5_code 22 = .ok (.goto 4, 3) := by decide +kernel
theorem d4_25 : decode method_5_code 25 = .ok (.iconst 0, 1) := by decide +kernel
theorem d4_26 : decode method_5_code 26 = .ok (.ireturn, 1) := by decide +kernel
def own_v4_26 (f : Int32 → Int32) (i : Int32) (t : Int32) (n : Int32) (q : Int32) (j26_S0 : Int32) : Int32 := (nar .boolean j26_S0)
def own_v4_25 (f : Int32 → Int32) (i : Int32) (t : Int32) (n : Int32) (q : Int32) : Int32 := (own_v4_26 f i t n q (0 : Int32))
def own_v4_0 (f : Int32 → Int32) (i : Int32) (t : Int32) (n : Int32) (q : Int32) : Int32 := (if i < t then (own_v4_25 f i t n q) else (if i < n then (if (own_v6_0 (f i) q) = (0 : Int32) then (own_v4_26 f i t n q (1 : Int32)) else (own_v4_25 f i t n q)) else (own_v4_25 f i t n q)))
theorem pn_4 : plainName "com/example/buccleuch/buccleuch/LexerPlainValueEndPinLaw" = true := by first | (simp [plainName, overriddenIn]; done) | decide +kernel
theorem ef_4 (m : MethodId) (a : Addr) (i : Int32) (t : Int32) (n : Int32) (q : Int32) : entryFrame m #[(.ref a), (.int i), (.int t), (.int n), (.int q)] 5 = mkF m 0 #[.val (.ref a), .val (.int i), .val (.int t), .val (.int n), .val (.int q)] [] := by first | (simp [entryFrame, mkF, argsToLocals, Value.category]; done) | rfl
set_option maxRecDepth 65536 in
set_option maxHeartbeats 40000000 in
theorem rm4 (l : Launch) (Z : State) (a0 : Array Value) (hw : ∀ d ∈ tables_1, d.before a0 Z = true) (ws : List Jvm.Cond) (a : Addr) (i : Int32) (t : Int32) (n : Int32) (q : Int32) (h0 : Heap) (f : Int32 → Int32) (A : own_A Z h0 a .char (4 : Int32) f) (hi : ¬ i < 0) (hi4 : i < (4 : Int32)) :
    MetFree l (⟨"com/example/buccleuch/buccleuch/LexerPlainValueEndPinLaw", "stopsAt", "([CIIIC)Z"⟩ : MethodName) (head1 (Jvm.Cond.code (⟨"com/example/buccleuch/buccleuch/LexerPlainValueEndPinLaw", "stopsAt", "([CIIIC)Z"⟩ : MethodName) method_5_code 5 (some .boolean) :: ws) ({ frames := 1, cells := 0, slots := 0, locals := 13 } : Room)) (fun aa U => aa = #[(.ref a), (.int i), (.int t), (.int n), (.int q)] ∧ Z.Warmed39 U.vm ∧ U.heap = h0) (fun _ _ _ _ _ => True) (fun _ U o U' => ∃ v L, o = .returned v ∧ own_Q (some (.int (own_v4_0 f i t n q))) h0 v U'.heap L ∧ FrameEnd U o U' L ({ frames := 1, cells := 0, slots := 0, locals := 13 } : Room).cells ({ frames := 1, cells := 0, slots := 0, locals := 13 } : Room).slots) := by
  refine MetFree.of_bodySF (plainFor_of_name pn_4) hisR ?_
  intro p e s m args below meth c s₁ Bd hml0 hP hK
  obtain ⟨rfl, hZ, hh⟩ := hP
  have hx := Bd.exec
  have hby := Bd.bytes
  have hml : c.maxLocals = 5 := hml0
  have hlk : meth.locks = false := Bd.notSynchronized
  have hown : s.vm.findClass "com/example/buccleuch/buccleuch/LexerPlainValueEndPinLaw" = some m.cls := findClass_of_methodNamed Bd.named
  have X0 : Stand p l e ({ frames := 1, cells := 0, slots := 0, locals := 13 } : Room) s m #[(.ref a), (.int i), (.int t), (.int n), (.int q)] below meth c s₁ [] 0 0 := Stand.of_body Bd
  have e0 : s₁.heap = h0 := by rw [← hh, Bd.state]; rfl
  have b26 : ∀ (T : State), Stand p l e ({ frames := 1, cells := 0, slots := 0, locals := 13 } : Room) s m #[(.ref a), (.int i), (.int t), (.int n), (.int q)] below meth c T [] 0 0 → T.heap = h0 → ∀ (j26_S0 : Int32), own_G p e below s (own_Q (some (.int (own_v4_26 f i t n q j26_S0))) h0) ({ frames := 1, cells := 0, slots := 0, locals := 13 } : Room).cells ({ frames := 1, cells := 0, slots := 0, locals := 13 } : Room).slots (T.setTop (mkF m 26 #[.val (.ref a), .val (.int i), .val (.int t), .val (.int n), .val (.int q)] [(.int j26_S0)])) := by
    intro T X eT j26_S0
    show own_G p e below s (own_Q (some (.int (nar .boolean j26_S0))) h0) ({ frames := 1, cells := 0, slots := 0, locals := 13 } : Room).cells ({ frames := 1, cells := 0, slots := 0, locals := 13 } : Room).slots (T.setTop (mkF m 26 #[.val (.ref a), .val (.int i), .val (.int t), .val (.int n), .val (.int q)] [(.int j26_S0)]))
    exact own_retN X hx hlk (t := .boolean) Bd.returns (by simp) (hb hby d4_26) (by decide) (by decide) ⟨rfl, rfl, eT⟩
  have b25 : ∀ (T : State), Stand p l e ({ frames := 1, cells := 0, slots := 0, locals := 13 } : Room) s m #[(.ref a), (.int i), (.int t), (.int n), (.int q)] below meth c T [] 0 0 → T.heap = h0 → own_G p e below s (own_Q (some (.int (own_v4_25 f i t n q))) h0) ({ frames := 1, cells := 0, slots := 0, locals := 13 } : Room).cells ({ frames := 1, cells := 0, slots := 0, locals := 13 } : Room).slots (T.setTop (mkF m 25 #[.val (.ref a), .val (.int i), .val (.int t), .val (.int n), .val (.int q)] [])) := by
    intro T X eT
    show own_G p e below s (own_Q (some (.int (own_v4_26 f i t n q (0 : Int32)))) h0) ({ frames := 1, cells := 0, slots := 0, locals := 13 } : Room).cells ({ frames := 1, cells := 0, slots := 0, locals := 13 } : Room).slots (T.setTop (mkF m 25 #[.val (.ref a), .val (.int i), .val (.int t), .val (.int n), .val (.int q)] []))
    refine own_go (fun _ => XS.iconst X.here hx rfl (hb hby d4_25)) ?_
    exact b26 T X eT (0 : Int32)
  refine own_G0 (own_go (fun _ k => castTop (ef_4 m a i t n q) k) ?_)
  show own_G p e below s (own_Q (some (.int (if i < t then (own_v4_25 f i t n q) else (if i < n then (if (own_v6_0 (f i) q) = (0 : Int32) then (own_v4_26 f i t n q (1 : Int32)) else (own_v4_25 f i t n q)) else (own_v4_25 f i t n q))))) h0) ({ frames := 1, cells := 0, slots := 0, locals := 13 } : Room).cells ({ frames := 1, cells := 0, slots := 0, locals := 13 } : Room).slots (s₁.setTop (mkF m 0 #[.val (.ref a), .val (.int i), .val (.int t), .val (.int n), .val (.int q)] []))
  refine own_go (fun _ => XS.iloadN X0.here hx rfl (hb hby d4_0) rfl) ?_
  show own_G p e below s _ _ _ (s₁.setTop (mkF m 1 #[.val (.ref a), .val (.int i), .val (.int t), .val (.int n), .val (.int q)] [(.int t)]))
  refine own_go (fun _ => XS.iloadN X0.here hx rfl (hb hby d4_1) rfl) ?_
  show own_G p e below s _ _ _ (s₁.setTop (mkF m 2 #[.val (.ref a), .val (.int i), .val (.int t), .val (.int n), .val (.int q)] [(.int i), (.int t)]))
  by_cases hc2 : i < t
  · refine own_eq (if_pos hc2) ?_
    refine own_go (fun _ => XS.icmpYes X0.here hx rfl (pc0 := 2) (pc' := 25) rfl (hb hby d4_2) rfl (tlt hc2).2.2.1 (by decide) (by decide)) ?_
    exact b25 s₁ X0 e0
  · refine own_eq (if_neg hc2) ?_
    refine own_go (fun _ => XS.icmpNo X0.here hx rfl (hb hby d4_2) rfl (flt hc2).2.2.1) ?_
    show own_G p e below s _ _ _ (s₁.setTop (mkF m 5 #[.val (.ref a), .val (.int i), .val (.int t), .val (.int n), .val (.int q)] []))
    refine own_go (fun _ => XS.iloadN X0.here hx rfl (hb hby d4_5) rfl) ?_
    show own_G p e below s _ _ _ (s₁.setTop (mkF m 6 #[.val (.ref a), .val (.int i), .val (.int t), .val (.int n), .val (.int q)] [(.int i)]))
    refine own_go (fun _ => XS.iloadN X0.here hx rfl (hb hby d4_6) rfl) ?_
    show own_G p e below s _ _ _ (s₁.setTop (mkF m 7 #[.val (.ref a), .val (.int i), .val (.int t), .val (.int n), .val (.int q)] [(.int n), (.int i)]))
    by_cases hc7 : i < n
    · refine own_eq (if_pos hc7) ?_
      refine own_go (fun _ => XS.icmpNo X0.here hx rfl (hb hby d4_7) rfl (tlt hc7).2.1) ?_
      show own_G p e below s _ _ _ (s₁.setTop (mkF m 10 #[.val (.ref a), .val (.int i), .val (.int t), .val (.int n), .val (.int q)] []))
      refine own_go (fun _ => XS.aloadN X0.here hx rfl (hb hby d4_10) rfl rfl) ?_
      show own_G p e below s _ _ _ (s₁.setTop (mkF m 11 #[.val (.ref a), .val (.int i), .val (.int t), .val (.int n), .val (.int q)] [(.ref a)]))
      refine own_go (fun _ => XS.iloadN X0.here hx rfl (hb hby d4_11) rfl) ?_
      show own_G p e below s _ _ _ (s₁.setTop (mkF m 12 #[.val (.ref a), .val (.int i), .val (.int t), .val (.int n), .val (.int q)] [(.int i), (.ref a)]))
      refine own_go (fun _ => own_ldC X0 hx hZ e0 A hi hi4 (g := (mkF m 12 #[.val (.ref a), .val (.int i), .val (.int t), .val (.int n), .val (.int q)] [(.int i), (.ref a)])) rfl rfl (hb hby d4_12) _) ?_
      show own_G p e below s _ _ _ (s₁.setTop (mkF m 13 #[.val (.ref a), .val (.int i), .val (.int t), .val (.int n), .val (.int q)] [(.int (f i))]))
      refine own_go (fun _ => XS.iload X0.here hx rfl (hb hby d4_13) rfl) ?_
      show own_G p e below s _ _ _ (s₁.setTop (mkF m 15 #[.val (.ref a), .val (.int i), .val (.int t), .val (.int n), .val (.int q)] [(.int q), (.int (f i))]))
      obtain ⟨T1, X1, e1, st1⟩ := own_call X0 hx hZ hown (hw _ (List.mem_of_getElem? (i := 20) rfl)) (hw _ (List.mem_of_getElem? (i := 21) rfl)) (hw _ (List.mem_of_getElem? (i := 3) rfl)) (hw _ (List.mem_of_getElem? (i := 22) rfl)) (by decide) (rm6 l Z a0 hw [] (f i) q h0) rfl rfl e0 (W := 0) (by decide) (by decide) (by decide) (by decide) (g := (mkF m 15 #[.val (.ref a), .val (.int i), .val (.int t), .val (.int n), .val (.int q)] [(.int q), (.int (f i))])) rfl (by rw [hml]; rfl) (argsL := [(.int (f i)), (.int q)]) (rest := []) (lenOf (by decide +kernel : parseMethodDescriptor "(CC)Z" = some ⟨[.char, .char], some .boolean⟩) rfl) rfl rfl (by show 2 * 0 + _ ≤ _; exact Nat.le_of_eq rfl) (hb hby d4_15)
      refine own_go (fun _ => st1 _) ?_
      show own_G p e below s _ _ _ (T1.setTop (mkF m 18 #[.val (.ref a), .val (.int i), .val (.int t), .val (.int n), .val (.int q)] [(.int (own_v6_0 (f i) q))]))
      by_cases hc18 : (own_v6_0 (f i) q) = (0 : Int32)
      · refine own_eq (if_pos hc18) ?_
        refine own_go (fun _ => XS.ifNo X1.here hx rfl (hb hby d4_18) rfl ((if0 _ _).trans (teq hc18).2)) ?_
        show own_G p e below s _ _ _ (T1.setTop (mkF m 21 #[.val (.ref a), .val (.int i), .val (.int t), .val (.int n), .val (.int q)] []))
        refine own_go (fun _ => XS.iconst X1.here hx rfl (hb hby d4_21)) ?_
        show own_G p e below s _ _ _ (T1.setTop (mkF m 22 #[.val (.ref a), .val (.int i), .val (.int t), .val (.int n), .val (.int q)] [(.int (1 : Int32))]))
        refine own_go (fun _ => XS.goto X1.here hx rfl (pc0 := 22) (pc' := 26) rfl (hb hby d4_22) (by decide) (by decide)) ?_
        exact b26 T1 X1 e1 (1 : Int32)
      · refine own_eq (if_neg hc18) ?_
        refine own_go (fun _ => XS.ifYes X1.here hx rfl (pc0 := 18) (pc' := 25) rfl (hb hby d4_18) rfl ((if0 _ _).trans (feq hc18).2) (by decide) (by decide)) ?_
        exact b25 T1 X1 e1
    · refine own_eq (if_neg hc7) ?_
      refine own_go (fun _ => XS.icmpYes X0.here hx rfl (pc0 := 7) (pc' := 25) rfl (hb hby d4_7) rfl (flt hc7).2.1 (by decide) (by decide)) ?_
      exact b25 s₁ X0 e0
theorem own_lt4 {i n : Int32} (h : i < n) (hn : ¬ (4 : Int32) < n) : i < 4 := by
  rw [own_lt] at h hn ⊢
  omega
theorem own_up {i n : Int32} (hi : ¬ i < 0) (h : i < n) : ¬ (i + 1) < 0 := by
  have e := own_inc h
  rw [own_lt] at hi ⊢
  have z : (0 : Int32).toInt = 0 := rfl
  omega
theorem own_k {i n : Int32} {k : Nat} (h : i < n) (hk : n.toInt ≤ i.toInt + ((k + 1 : Nat) : Int)) : n.toInt ≤ (i + 1).toInt + (k : Int) := by
  have e := own_inc h
  omega
theorem own_k0 {i n : Int32} (hk : n.toInt ≤ i.toInt + ((0 : Nat) : Int)) : ¬ i < n := by
  rw [own_lt]
  omega
def own_end (f : Int32 → Int32) (n q i : Int32) : Int32 := if i < n then (if f i = q then i else (-1 : Int32)) else (-1 : Int32)
def own_pl (f : Int32 → Int32) (n q : Int32) : Nat → Int32 → Int32
  | 0, i => own_end f n q i
  | k + 1, i => if i < n then (if (60 : Int32) < f i then own_pl f n q k (i + (1 : Int32)) else (if f i < (32 : Int32) then own_end f n q i else (if f i = q then own_end f n q i else (if f i = (38 : Int32) then own_end f n q i else (if f i = (60 : Int32) then own_end f n q i else own_pl f n q k (i + (1 : Int32))))))) else own_end f n q i
theorem d5_0 : decode prog_34_method_20_code 0 = .ok (.iload_n 1, 1) := by decide +kernel
theorem d5_1 : decode prog_34_method_20_code 1 = .ok (.istore 4, 2) := by decide +kernel
theorem d5_3 : decode prog_34_method_20_code 3 = .ok (.iload 4, 2) := by decide +kernel
theorem d5_5 : decode prog_34_method_20_code 5 = .ok (.iload_n 2, 1) := by decide +kernel
theorem d5_6 : decode prog_34_method_20_code 6 = .ok (.if_icmp .ge 53, 3) := by decide +kernel
theorem d5_9 : decode prog_34_method_20_code 9 = .ok (.aload_n 0, 1) := by decide +kernel
theorem d5_10 : decode prog_34_method_20_code 10 = .ok (.iload 4, 2) := by decide +kernel
theorem d5_12 : decode prog_34_method_20_code 12 = .ok (.caload, 1) := by decide +kernel
theorem d5_13 : decode prog_34_method_20_code 13 = .ok (.bipush 60, 2) := by decide +kernel
theorem d5_15 : decode prog_34_method_20_code 15 = .ok (.if_icmp .gt 38, 3) := by decide +kernel
theorem d5_18 : decode prog_34_method_20_code 18 = .ok (.aload_n 0, 1) := by decide +kernel
theorem d5_19 : decode prog_34_method_20_code 19 = .ok (.iload 4, 2) := by decide +kernel
theorem d5_21 : decode prog_34_method_20_code 21 = .ok (.caload, 1) := by decide +kernel
theorem d5_22 : decode prog_34_method_20_code 22 = .ok (.bipush 32, 2) := by decide +kernel
theorem d5_24 : decode prog_34_method_20_code 24 = .ok (.if_icmp .lt 35, 3) := by decide +kernel
theorem d5_27 : decode prog_34_method_20_code 27 = .ok (.aload_n 0, 1) := by decide +kernel
theorem d5_28 : decode prog_34_method_20_code 28 = .ok (.iload 4, 2) := by decide +kernel
theorem d5_30 : decode prog_34_method_20_code 30 = .ok (.caload, 1) := by decide +kernel
theorem d5_31 : decode prog_34_method_20_code 31 = .ok (.iload_n 3, 1) := by decide +kernel
theorem d5_32 : decode prog_34_method_20_code 32 = .ok (.if_icmp .eq 27, 3) := by decide +kernel
theorem d5_35 : decode prog_34_method_20_code 35 = .ok (.aload_n 0, 1) := by decide +kernel
theorem d5_36 : decode prog_34_method_20_code 36 = .ok (.iload 4, 2) := by decide +kernel
theorem d5_38 : decode prog_34_method_20_code 38 = .ok (.caload, 1) := by decide +kernel
theorem d5_39 : decode prog_34_method_20_code 39 = .ok (.bipush 38, 2) := by decide +kernel
theorem d5_41 : decode prog_34_method_20_code 41 = .ok (.if_icmp .eq 18, 3) := by decide +kernel
theorem d5_44 : decode prog_34_method_20_code 44 = .ok (.aload_n 0, 1) := by decide +kernel
theorem d5_45 : decode prog_34_method_20_code 45 = .ok (.iload 4, 2) := by decide +kernel
theorem d5_47 : decode prog_34_method_20_code 47 = .ok (.caload, 1) := by decide +kernel
theorem d5_48 : decode prog_34_method_20_code 48 = .ok (.bipush 60, 2) := by decide +kernel
theorem d5_50 : decode prog_34_method_20_code 50 = .ok (.if_icmp .eq 9, 3) := by decide +kernel
theorem d5_53 : decode prog_34_method_20_code 53 = .ok (.iinc 4 1, 3) := by decide +kernel
theorem d5_56 : decode prog_34_method_20_code 56 = .ok (.goto (-53), 3) := by decide +kernel
theorem d5_59 : decode prog_34_method_20_code 59 = .ok (.iload 4, 2) := by decide +kernel
theorem d5_61 : decode prog_34_method_20_code 61 = .ok (.iload_n 2, 1) := by decide +kernel
theorem d5_62 : decode prog_34_method_20_code 62 = .ok (.if_icmp .ge 16, 3) := by decide +kernel
theorem d5_65 : decode prog_34_method_20_code 65 = .ok (.aload_n 0, 1) := by decide +kernel
theorem d5_66 : decode prog_34_method_20_code 66 = .ok (.iload 4, 2) := by decide +kernel
theorem d5_68 : decode prog_34_method_20_code 68 = .ok (.caload, 1) := by decide +kernel
theorem d5_69 : decode prog_34_method_20_code 69 = .ok (.iload_n 3, 1) := by decide +kernel
theorem d5_70 : decode prog_34_method_20_code 70 = .ok (.if_icmp .ne 8, 3) := by decide +kernel
theorem d5_73 : decode prog_34_method_20_code 73 = .ok (.iload 4, 2) := by decide +kernel
theorem d5_75 : decode prog_34_method_20_code 75 = .ok (.goto 4, 3) := by decide +kernel
theorem d5_78 : decode prog_34_method_20_code 78 = .ok (.iconst (-1), 1) := by decide +kernel
theorem d5_79 : decode prog_34_method_20_code 79 = .ok (.ireturn, 1) := by decide +kernel
theorem pn_5 : plainName "com/example/buccleuch/buccleuch/Lexer" = true := by first | (simp [plainName, overriddenIn]; done) | decide +kernel
theorem ef_5 (m : MethodId) (a : Addr) (t : Int32) (n : Int32) (q : Int32) : entryFrame m #[(.ref a), (.int t), (.int n), (.int q)] 5 = mkF m 0 #[.val (.ref a), .val (.int t), .val (.int n), .val (.int q), .unset] [] := by first | (simp [entryFrame, mkF, argsToLocals, Value.category]; done) | rfl
set_option maxRecDepth 65536 in
set_option maxHeartbeats 40000000 in
theorem rm5 (l : Launch) (Z : State) (a0 : Array Value) (hw : ∀ d ∈ tables_1, d.before a0 Z = true) (ws : List Jvm.Cond) (a : Addr) (t : Int32) (n : Int32) (q : Int32) (h0 : Heap) (f : Int32 → Int32) (A : own_A Z h0 a .char (4 : Int32) f) (hs0 : ¬ t < 0) (hn : ¬ (4 : Int32) < n) (hk : n.toInt ≤ t.toInt + 4) :
    MetFree l (⟨"com/example/buccleuch/buccleuch/Lexer", "plainValueEnd", "([CIIC)I"⟩ : MethodName) (head1 (Jvm.Cond.code (⟨"com/example/buccleuch/buccleuch/Lexer", "plainValueEnd", "([CIIC)I"⟩ : MethodName) prog_34_method_20_code 5 (some .int) :: ws) ({ frames := 0, cells := 0, slots := 0, locals := 0 } : Room)) (fun aa U => aa = #[(.ref a), (.int t), (.int n), (.int q)] ∧ Z.Warmed39 U.vm ∧ U.heap = h0) (fun _ _ _ _ _ => True) (fun _ U o U' => ∃ v L, o = .returned v ∧ own_Q (some (.int (own_pl f n q 4 t))) h0 v U'.heap L ∧ FrameEnd U o U' L ({ frames := 0, cells := 0, slots := 0, locals := 0 } : Room).cells ({ frames := 0, cells := 0, slots := 0, locals := 0 } : Room).slots) := by
  refine MetFree.of_bodySF (plainFor_of_name pn_5) hisR ?_
  intro p e s m args below meth c s₁ Bd hml0 hP hK
  obtain ⟨rfl, hZ, hh⟩ := hP
  have hx := Bd.exec
  have hby := Bd.bytes
  have hml : c.maxLocals = 5 := hml0
  have hlk : meth.locks = false := Bd.notSynchronized
  have hown : s.vm.findClass "com/example/buccleuch/buccleuch/Lexer" = some m.cls := findClass_of_methodNamed Bd.named
  have X0 : Stand p l e ({ frames := 0, cells := 0, slots := 0, locals := 0 } : Room) s m #[(.ref a), (.int t), (.int n), (.int q)] below meth c s₁ [] 0 0 := Stand.of_body Bd
  have e0 : s₁.heap = h0 := by rw [← hh, Bd.state]; rfl
  have b79 : ∀ (T : State) (i w : Int32), Stand p l e ({ frames := 0, cells := 0, slots := 0, locals := 0 } : Room) s m #[(.ref a), (.int t), (.int n), (.int q)] below meth c T [] 0 0 → T.heap = h0 → own_G p e below s (own_Q (some (.int w)) h0) ({ frames := 0, cells := 0, slots := 0, locals := 0 } : Room).cells ({ frames := 0, cells := 0, slots := 0, locals := 0 } : Room).slots (T.setTop (mkF m 79 #[.val (.ref a), .val (.int t), .val (.int n), .val (.int q), .val (.int i)] [(.int w)])) := by
    intro T i w X eT
    exact own_retI X hx hlk Bd.returns (hb hby d5_79) (by decide) (by decide) ⟨rfl, rfl, eT⟩
  have b78 : ∀ (T : State) (i : Int32), Stand p l e ({ frames := 0, cells := 0, slots := 0, locals := 0 } : Room) s m #[(.ref a), (.int t), (.int n), (.int q)] below meth c T [] 0 0 → T.heap = h0 → own_G p e below s (own_Q (some (.int (-1 : Int32))) h0) ({ frames := 0, cells := 0, slots := 0, locals := 0 } : Room).cells ({ frames := 0, cells := 0, slots := 0, locals := 0 } : Room).slots (T.setTop (mkF m 78 #[.val (.ref a), .val (.int t), .val (.int n), .val (.int q), .val (.int i)] [])) := by
    intro T i X eT
    refine own_go (fun _ => XS.iconst X.here hx rfl (hb hby d5_78)) ?_
    exact b79 T i (-1 : Int32) X eT
  have b59 : ∀ (T : State) (i : Int32), Stand p l e ({ frames := 0, cells := 0, slots := 0, locals := 0 } : Room) s m #[(.ref a), (.int t), (.int n), (.int q)] below meth c T [] 0 0 → T.heap = h0 → ¬ i < 0 → own_G p e below s (own_Q (some (.int (own_end f n q i))) h0) ({ frames := 0, cells := 0, slots := 0, locals := 0 } : Room).cells ({ frames := 0, cells := 0, slots := 0, locals := 0 } : Room).slots (T.setTop (mkF m 59 #[.val (.ref a), .val (.int t), .val (.int n), .val (.int q), .val (.int i)] [])) := by
    intro T i X eT hi
    show own_G p e below s (own_Q (some (.int (if i < n then (if (f i) = q then i else (-1 : Int32)) else (-1 : Int32)))) h0) ({ frames := 0, cells := 0, slots := 0, locals := 0 } : Room).cells ({ frames := 0, cells := 0, slots := 0, locals := 0 } : Room).slots (T.setTop (mkF m 59 #[.val (.ref a), .val (.int t), .val (.int n), .val (.int q), .val (.int i)] []))
    refine own_go (fun _ => XS.iload X.here hx rfl (hb hby d5_59) rfl) ?_
    show own_G p e below s _ _ _ (T.setTop (mkF m 61 #[.val (.ref a), .val (.int t), .val (.int n), .val (.int q), .val (.int i)] [(.int i)]))
    refine own_go (fun _ => XS.iloadN X.here hx rfl (hb hby d5_61) rfl) ?_
    show own_G p e below s _ _ _ (T.setTop (mkF m 62 #[.val (.ref a), .val (.int t), .val (.int n), .val (.int q), .val (.int i)] [(.int n), (.int i)]))
    by_cases hc62 : i < n
    · refine own_eq (if_pos hc62) ?_
      refine own_go (fun _ => XS.icmpNo X.here hx rfl (hb hby d5_62) rfl (tlt hc62).2.1) ?_
      show own_G p e below s _ _ _ (T.setTop (mkF m 65 #[.val (.ref a), .val (.int t), .val (.int n), .val (.int q), .val (.int i)] []))
      refine own_go (fun _ => XS.aloadN X.here hx rfl (hb hby d5_65) rfl rfl) ?_
      show own_G p e below s _ _ _ (T.setTop (mkF m 66 #[.val (.ref a), .val (.int t), .val (.int n), .val (.int q), .val (.int i)] [(.ref a)]))
      refine own_go (fun _ => XS.iload X.here hx rfl (hb hby d5_66) rfl) ?_
      show own_G p e below s _ _ _ (T.setTop (mkF m 68 #[.val (.ref a), .val (.int t), .val (.int n), .val (.int q), .val (.int i)] [(.int i), (.ref a)]))
      refine own_go (fun _ => own_ldC X hx hZ eT A hi (own_lt4 hc62 hn) (g := (mkF m 68 #[.val (.ref a), .val (.int t), .val (.int n), .val (.int q), .val (.int i)] [(.int i), (.ref a)])) rfl rfl (hb hby d5_68) _) ?_
      show own_G p e below s _ _ _ (T.setTop (mkF m 69 #[.val (.ref a), .val (.int t), .val (.int n), .val (.int q), .val (.int i)] [(.int (f i))]))
      refine own_go (fun _ => XS.iloadN X.here hx rfl (hb hby d5_69) rfl) ?_
      show own_G p e below s _ _ _ (T.setTop (mkF m 70 #[.val (.ref a), .val (.int t), .val (.int n), .val (.int q), .val (.int i)] [(.int q), (.int (f i))]))
      by_cases hc70 : (f i) = q
      · refine own_eq (if_pos hc70) ?_
        refine own_go (fun _ => XS.icmpNo X.here hx rfl (hb hby d5_70) rfl (teq hc70).2) ?_
        show own_G p e below s _ _ _ (T.setTop (mkF m 73 #[.val (.ref a), .val (.int t), .val (.int n), .val (.int q), .val (.int i)] []))
        refine own_go (fun _ => XS.iload X.here hx rfl (hb hby d5_73) rfl) ?_
        show own_G p e below s _ _ _ (T.setTop (mkF m 75 #[.val (.ref a), .val (.int t), .val (.int n), .val (.int q), .val (.int i)] [(.int i)]))
        refine own_go (fun _ => XS.goto X.here hx rfl (pc0 := 75) (pc' := 79) rfl (hb hby d5_75) (by decide) (by decide)) ?_
        exact b79 T i i X eT
      · refine own_eq (if_neg hc70) ?_
        refine own_go (fun _ => XS.icmpYes X.here hx rfl (pc0 := 70) (pc' := 78) rfl (hb hby d5_70) rfl (feq hc70).2 (by decide) (by decide)) ?_
        exact b78 T i X eT
    · refine own_eq (if_neg hc62) ?_
      refine own_go (fun _ => XS.icmpYes X.here hx rfl (pc0 := 62) (pc' := 78) rfl (hb hby d5_62) rfl (flt hc62).2.1 (by decide) (by decide)) ?_
      exact b78 T i X eT
  have b3 : ∀ (k : Nat) (T : State) (i : Int32), Stand p l e ({ frames := 0, cells := 0, slots := 0, locals := 0 } : Room) s m #[(.ref a), (.int t), (.int n), (.int q)] below meth c T [] 0 0 → T.heap = h0 → ¬ i < 0 → n.toInt ≤ i.toInt + (k : Int) → own_G p e below s (own_Q (some (.int (own_pl f n q k i))) h0) ({ frames := 0, cells := 0, slots := 0, locals := 0 } : Room).cells ({ frames := 0, cells := 0, slots := 0, locals := 0 } : Room).slots (T.setTop (mkF m 3 #[.val (.ref a), .val (.int t), .val (.int n), .val (.int q), .val (.int i)] [])) := by
    intro k
    induction k with
    | zero =>
      intro T i X eT hi hk
      show own_G p e below s (own_Q (some (.int (own_end f n q i))) h0) ({ frames := 0, cells := 0, slots := 0, locals := 0 } : Room).cells ({ frames := 0, cells := 0, slots := 0, locals := 0 } : Room).slots (T.setTop (mkF m 3 #[.val (.ref a), .val (.int t), .val (.int n), .val (.int q), .val (.int i)] []))
      refine own_go (fun _ => XS.iload X.here hx rfl (hb hby d5_3) rfl) ?_
      show own_G p e below s _ _ _ (T.setTop (mkF m 5 #[.val (.ref a), .val (.int t), .val (.int n), .val (.int q), .val (.int i)] [(.int i)]))
      refine own_go (fun _ => XS.iloadN X.here hx rfl (hb hby d5_5) rfl) ?_
      show own_G p e below s _ _ _ (T.setTop (mkF m 6 #[.val (.ref a), .val (.int t), .val (.int n), .val (.int q), .val (.int i)] [(.int n), (.int i)]))
      refine own_go (fun _ => XS.icmpYes X.here hx rfl (pc0 := 6) (pc' := 59) rfl (hb hby d5_6) rfl (flt (own_k0 hk)).2.1 (by decide) (by decide)) ?_
      exact b59 T i X eT hi
    | succ k ih =>
      intro T i X eT hi hk
      show own_G p e below s (own_Q (some (.int (if i < n then (if (60 : Int32) < (f i) then (own_pl f n q k (i + (1 : Int32))) else (if (f i) < (32 : Int32) then (own_end f n q i) else (if (f i) = q then (own_end f n q i) else (if (f i) = (38 : Int32) then (own_end f n q i) else (if (f i) = (60 : Int32) then (own_end f n q i) else (own_pl f n q k (i + (1 : Int32)))))))) else (own_end f n q i)))) h0) ({ frames := 0, cells := 0, slots := 0, locals := 0 } : Room).cells ({ frames := 0, cells := 0, slots := 0, locals := 0 } : Room).slots (T.setTop (mkF m 3 #[.val (.ref a), .val (.int t), .val (.int n), .val (.int q), .val (.int i)] []))
      refine own_go (fun _ => XS.iload X.here hx rfl (hb hby d5_3) rfl) ?_
      show own_G p e below s _ _ _ (T.setTop (mkF m 5 #[.val (.ref a), .val (.int t), .val (.int n), .val (.int q), .val (.int i)] [(.int i)]))
      refine own_go (fun _ => XS.iloadN X.here hx rfl (hb hby d5_5) rfl) ?_
      show own_G p e below s _ _ _ (T.setTop (mkF m 6 #[.val (.ref a), .val (.int t), .val (.int n), .val (.int q), .val (.int i)] [(.int n), (.int i)]))
      by_cases hc6 : i < n
      · refine own_eq (if_pos hc6) ?_
        refine own_go (fun _ => XS.icmpNo X.here hx rfl (hb hby d5_6) rfl (tlt hc6).2.1) ?_
        show own_G p e below s _ _ _ (T.setTop (mkF m 9 #[.val (.ref a), .val (.int t), .val (.int n), .val (.int q), .val (.int i)] []))
        refine own_go (fun _ => XS.aloadN X.here hx rfl (hb hby d5_9) rfl rfl) ?_
        show own_G p e below s _ _ _ (T.setTop (mkF m 10 #[.val (.ref a), .val (.int t), .val (.int n), .val (.int q), .val (.int i)] [(.ref a)]))
        refine own_go (fun _ => XS.iload X.here hx rfl (hb hby d5_10) rfl) ?_
        show own_G p e below s _ _ _ (T.setTop (mkF m 12 #[.val (.ref a), .val (.int t), .val (.int n), .val (.int q), .val (.int i)] [(.int i), (.ref a)]))
        refine own_go (fun _ => own_ldC X hx hZ eT A hi (own_lt4 hc6 hn) (g := (mkF m 12 #[.val (.ref a), .val (.int t), .val (.int n), .val (.int q), .val (.int i)] [(.int i), (.ref a)])) rfl rfl (hb hby d5_12) _) ?_
        show own_G p e below s _ _ _ (T.setTop (mkF m 13 #[.val (.ref a), .val (.int t), .val (.int n), .val (.int q), .val (.int i)] [(.int (f i))]))
        refine own_go (fun _ => XS.bipush X.here hx rfl (hb hby d5_13)) ?_
        show own_G p e below s _ _ _ (T.setTop (mkF m 15 #[.val (.ref a), .val (.int t), .val (.int n), .val (.int q), .val (.int i)] [(.int (60 : Int32)), (.int (f i))]))
        by_cases hc15 : (60 : Int32) < (f i)
        · refine own_eq (if_pos hc15) ?_
          refine own_go (fun _ => XS.icmpYes X.here hx rfl (pc0 := 15) (pc' := 53) rfl (hb hby d5_15) rfl (tlt hc15).2.2.1 (by decide) (by decide)) ?_
          show own_G p e below s _ _ _ (T.setTop (mkF m 53 #[.val (.ref a), .val (.int t), .val (.int n), .val (.int q), .val (.int i)] []))
          refine own_go (fun _ => XS.iinc X.here hx rfl (hb hby d5_53) rfl (l' := #[.val (.ref a), .val (.int t), .val (.int n), .val (.int q), .val (.int (i + (1 : Int32)))]) rfl) ?_
          show own_G p e below s _ _ _ (T.setTop (mkF m 56 #[.val (.ref a), .val (.int t), .val (.int n), .val (.int q), .val (.int (i + (1 : Int32)))] []))
          refine own_go (fun _ => XS.goto X.here hx rfl (pc0 := 56) (pc' := 3) rfl (hb hby d5_56) (by decide) (by decide)) ?_
          exact ih T (i + (1 : Int32)) X eT (own_up hi hc6) (own_k hc6 hk)
        · refine own_eq (if_neg hc15) ?_
          refine own_go (fun _ => XS.icmpNo X.here hx rfl (hb hby d5_15) rfl (flt hc15).2.2.1) ?_
          show own_G p e below s _ _ _ (T.setTop (mkF m 18 #[.val (.ref a), .val (.int t), .val (.int n), .val (.int q), .val (.int i)] []))
          refine own_go (fun _ => XS.aloadN X.here hx rfl (hb hby d5_18) rfl rfl) ?_
          show own_G p e below s _ _ _ (T.setTop (mkF m 19 #[.val (.ref a), .val (.int t), .val (.int n), .val (.int q), .val (.int i)] [(.ref a)]))
          refine own_go (fun _ => XS.iload X.here hx rfl (hb hby d5_19) rfl) ?_
          show own_G p e below s _ _ _ (T.setTop (mkF m 21 #[.val (.ref a), .val (.int t), .val (.int n), .val (.int q), .val (.int i)] [(.int i), (.ref a)]))
          refine own_go (fun _ => own_ldC X hx hZ eT A hi (own_lt4 hc6 hn) (g := (mkF m 21 #[.val (.ref a), .val (.int t), .val (.int n), .val (.int q), .val (.int i)] [(.int i), (.ref a)])) rfl rfl (hb hby d5_21) _) ?_
          show own_G p e below s _ _ _ (T.setTop (mkF m 22 #[.val (.ref a), .val (.int t), .val (.int n), .val (.int q), .val (.int i)] [(.int (f i))]))
          refine own_go (fun _ => XS.bipush X.here hx rfl (hb hby d5_22)) ?_
          show own_G p e below s _ _ _ (T.setTop (mkF m 24 #[.val (.ref a), .val (.int t), .val (.int n), .val (.int q), .val (.int i)] [(.int (32 : Int32)), (.int (f i))]))
          by_cases hc24 : (f i) < (32 : Int32)
          · refine own_eq (if_pos hc24) ?_
            refine own_go (fun _ => XS.icmpYes X.here hx rfl (pc0 := 24) (pc' := 59) rfl (hb hby d5_24) rfl (tlt hc24).1 (by decide) (by decide)) ?_
            exact b59 T i X eT hi
          · refine own_eq (if_neg hc24) ?_
            refine own_go (fun _ => XS.icmpNo X.here hx rfl (hb hby d5_24) rfl (flt hc24).1) ?_
            show own_G p e below s _ _ _ (T.setTop (mkF m 27 #[.val (.ref a), .val (.int t), .val (.int n), .val (.int q), .val (.int i)] []))
            refine own_go (fun _ => XS.aloadN X.here hx rfl (hb hby d5_27) rfl rfl) ?_
            show own_G p e below s _ _ _ (T.setTop (mkF m 28 #[.val (.ref a), .val (.int t), .val (.int n), .val (.int q), .val (.int i)] [(.ref a)]))
            refine own_go (fun _ => XS.iload X.here hx rfl (hb hby d5_28) rfl) ?_
            show own_G p e below s _ _ _ (T.setTop (mkF m 30 #[.val (.ref a), .val (.int t), .val (.int n), .val (.int q), .val (.int i)] [(.int i), (.ref a)]))
            refine own_go (fun _ => own_ldC X hx hZ eT A hi (own_lt4 hc6 hn) (g := (mkF m 30 #[.val (.ref a), .val (.int t), .val (.int n), .val (.int q), .val (.int i)] [(.int i), (.ref a)])) rfl rfl (hb hby d5_30) _) ?_
            show own_G p e below s _ _ _ (T.setTop (mkF m 31 #[.val (.ref a), .val (.int t), .val (.int n), .val (.int q), .val (.int i)] [(.int (f i))]))
            refine own_go (fun _ => XS.iloadN X.here hx rfl (hb hby d5_31) rfl) ?_
            show own_G p e below s _ _ _ (T.setTop (mkF m 32 #[.val (.ref a), .val (.int t), .val (.int n), .val (.int q), .val (.int i)] [(.int q), (.int (f i))]))
            by_cases hc32 : (f i) = q
            · refine own_eq (if_pos hc32) ?_
              refine own_go (fun _ => XS.icmpYes X.here hx rfl (pc0 := 32) (pc' := 59) rfl (hb hby d5_32) rfl (teq hc32).1 (by decide) (by decide)) ?_
              exact b59 T i X eT hi
            · refine own_eq (if_neg hc32) ?_
              refine own_go (fun _ => XS.icmpNo X.here hx rfl (hb hby d5_32) rfl (feq hc32).1) ?_
              show own_G p e below s _ _ _ (T.setTop (mkF m 35 #[.val (.ref a), .val (.int t), .val (.int n), .val (.int q), .val (.int i)] []))
              refine own_go (fun _ => XS.aloadN X.here hx rfl (hb hby d5_35) rfl rfl) ?_
              show own_G p e below s _ _ _ (T.setTop (mkF m 36 #[.val (.ref a), .val (.int t), .val (.int n), .val (.int q), .val (.int i)] [(.ref a)]))
              refine own_go (fun _ => XS.iload X.here hx rfl (hb hby d5_36) rfl) ?_
              show own_G p e below s _ _ _ (T.setTop (mkF m 38 #[.val (.ref a), .val (.int t), .val (.int n), .val (.int q), .val (.int i)] [(.int i), (.ref a)]))
              refine own_go (fun _ => own_ldC X hx hZ eT A hi (own_lt4 hc6 hn) (g := (mkF m 38 #[.val (.ref a), .val (.int t), .val (.int n), .val (.int q), .val (.int i)] [(.int i), (.ref a)])) rfl rfl (hb hby d5_38) _) ?_
              show own_G p e below s _ _ _ (T.setTop (mkF m 39 #[.val (.ref a), .val (.int t), .val (.int n), .val (.int q), .val (.int i)] [(.int (f i))]))
              refine own_go (fun _ => XS.bipush X.here hx rfl (hb hby d5_39)) ?_
              show own_G p e below s _ _ _ (T.setTop (mkF m 41 #[.val (.ref a), .val (.int t), .val (.int n), .val (.int q), .val (.int i)] [(.int (38 : Int32)), (.int (f i))]))
              by_cases hc41 : (f i) = (38 : Int32)
              · refine own_eq (if_pos hc41) ?_
                refine own_go (fun _ => XS.icmpYes X.here hx rfl (pc0 := 41) (pc' := 59) rfl (hb hby d5_41) rfl (teq hc41).1 (by decide) (by decide)) ?_
                exact b59 T i X eT hi
              · refine own_eq (if_neg hc41) ?_
                refine own_go (fun _ => XS.icmpNo X.here hx rfl (hb hby d5_41) rfl (feq hc41).1) ?_
                show own_G p e below s _ _ _ (T.setTop (mkF m 44 #[.val (.ref a), .val (.int t), .val (.int n), .val (.int q), .val (.int i)] []))
                refine own_go (fun _ => XS.aloadN X.here hx rfl (hb hby d5_44) rfl rfl) ?_
                show own_G p e below s _ _ _ (T.setTop (mkF m 45 #[.val (.ref a), .val (.int t), .val (.int n), .val (.int q), .val (.int i)] [(.ref a)]))
                refine own_go (fun _ => XS.iload X.here hx rfl (hb hby d5_45) rfl) ?_
                show own_G p e below s _ _ _ (T.setTop (mkF m 47 #[.val (.ref a), .val (.int t), .val (.int n), .val (.int q), .val (.int i)] [(.int i), (.ref a)]))
                refine own_go (fun _ => own_ldC X hx hZ eT A hi (own_lt4 hc6 hn) (g := (mkF m 47 #[.val (.ref a), .val (.int t), .val (.int n), .val (.int q), .val (.int i)] [(.int i), (.ref a)])) rfl rfl (hb hby d5_47) _) ?_
                show own_G p e below s _ _ _ (T.setTop (mkF m 48 #[.val (.ref a), .val (.int t), .val (.int n), .val (.int q), .val (.int i)] [(.int (f i))]))
                refine own_go (fun _ => XS.bipush X.here hx rfl (hb hby d5_48)) ?_
                show own_G p e below s _ _ _ (T.setTop (mkF m 50 #[.val (.ref a), .val (.int t), .val (.int n), .val (.int q), .val (.int i)] [(.int (60 : Int32)), (.int (f i))]))
                by_cases hc50 : (f i) = (60 : Int32)
                · refine own_eq (if_pos hc50) ?_
                  refine own_go (fun _ => XS.icmpYes X.here hx rfl (pc0 := 50) (pc' := 59) rfl (hb hby d5_50) rfl (teq hc50).1 (by decide) (by decide)) ?_
                  exact b59 T i X eT hi
                · refine own_eq (if_neg hc50) ?_
                  refine own_go (fun _ => XS.icmpNo X.here hx rfl (hb hby d5_50) rfl (feq hc50).1) ?_
                  show own_G p e below s _ _ _ (T.setTop (mkF m 53 #[.val (.ref a), .val (.int t), .val (.int n), .val (.int q), .val (.int i)] []))
                  refine own_go (fun _ => XS.iinc X.here hx rfl (hb hby d5_53) rfl (l' := #[.val (.ref a), .val (.int t), .val (.int n), .val (.int q), .val (.int (i + (1 : Int32)))]) rfl) ?_
                  show own_G p e below s _ _ _ (T.setTop (mkF m 56 #[.val (.ref a), .val (.int t), .val (.int n), .val (.int q), .val (.int (i + (1 : Int32)))] []))
                  refine own_go (fun _ => XS.goto X.here hx rfl (pc0 := 56) (pc' := 3) rfl (hb hby d5_56) (by decide) (by decide)) ?_
                  exact ih T (i + (1 : Int32)) X eT (own_up hi hc6) (own_k hc6 hk)
      · refine own_eq (if_neg hc6) ?_
        refine own_go (fun _ => XS.icmpYes X.here hx rfl (pc0 := 6) (pc' := 59) rfl (hb hby d5_6) rfl (flt hc6).2.1 (by decide) (by decide)) ?_
        exact b59 T i X eT hi
  refine own_G0 (own_go (fun _ k => castTop (ef_5 m a t n q) k) ?_)
  show own_G p e below s _ _ _ (s₁.setTop (mkF m 0 #[.val (.ref a), .val (.int t), .val (.int n), .val (.int q), .unset] []))
  refine own_go (fun _ => XS.iloadN X0.here hx rfl (hb hby d5_0) rfl) ?_
  show own_G p e below s _ _ _ (s₁.setTop (mkF m 1 #[.val (.ref a), .val (.int t), .val (.int n), .val (.int q), .unset] [(.int t)]))
  refine own_go (fun _ => XS.istore X0.here hx rfl (hb hby d5_1) rfl (l' := #[.val (.ref a), .val (.int t), .val (.int n), .val (.int q), .val (.int t)]) rfl) ?_
  exact b3 4 s₁ t X0 e0 hs0 hk
def own_n0_f (q0 q1 q2 q3 : Int32) : Int32 → Int32 := (own_set (own_set (own_set (own_set (fun _ => 0) (0 : Int32) (nar .char (own_v1_0 q0))) (1 : Int32) (nar .char (own_v1_0 q1))) (2 : Int32) (nar .char (own_v1_0 q2))) (3 : Int32) (nar .char (own_v1_0 q3)))
def own_n0_44 (q4 : Int32) : Int32 := (own_rem (q4 &&& (7 : Int32)) (5 : Int32))
def own_n0_55 (q4 : Int32) : Int32 := (own_rem ((own_us q4 (3 : Int32)) &&& (7 : Int32)) (5 : Int32))
def own_n0_64 (q4 : Int32) : Int32 := (own_v2_0 (own_n0_44 q4) (own_n0_55 q4))
def own_n0_73 (q4 : Int32) : Int32 := (own_v3_0 (own_n0_44 q4) (own_n0_55 q4))
def own_v0_213 (f_a1 : Int32 → Int32) (q0 : Int32) (q1 : Int32) (q2 : Int32) (q3 : Int32) (q4 : Int32) (j92_S0 : Int32) (j169_L11 : Int32) (j190_S0 : Int32) (j213_S0 : Int32) : Int32 := (nar .boolean j213_S0)
def own_v0_190 (f_a1 : Int32 → Int32) (q0 : Int32) (q1 : Int32) (q2 : Int32) (q3 : Int32) (q4 : Int32) (j92_S0 : Int32) (j169_L11 : Int32) (j190_S0 : Int32) : Int32 := (if (own_pl f_a1 (own_n0_73 q4) j92_S0 4 (own_n0_64 q4)) = j190_S0 then (own_v0_213 f_a1 q0 q1 q2 q3 q4 j92_S0 j169_L11 j190_S0 (1 : Int32)) else (own_v0_213 f_a1 q0 q1 q2 q3 q4 j92_S0 j169_L11 j190_S0 (0 : Int32)))
def own_v0_189 (f_a1 : Int32 → Int32) (q0 : Int32) (q1 : Int32) (q2 : Int32) (q3 : Int32) (q4 : Int32) (j92_S0 : Int32) (j169_L11 : Int32) : Int32 := (own_v0_190 f_a1 q0 q1 q2 q3 q4 j92_S0 j169_L11 (-1 : Int32))
def own_v0_169 (f_a1 : Int32 → Int32) (q0 : Int32) (q1 : Int32) (q2 : Int32) (q3 : Int32) (q4 : Int32) (j92_S0 : Int32) (j169_L11 : Int32) : Int32 := (if j169_L11 < (0 : Int32) then (own_v0_189 f_a1 q0 q1 q2 q3 q4 j92_S0 j169_L11) else (if (f_a1 j169_L11) = j92_S0 then (own_v0_190 f_a1 q0 q1 q2 q3 q4 j92_S0 j169_L11 j169_L11) else (own_v0_189 f_a1 q0 q1 q2 q3 q4 j92_S0 j169_L11)))
def own_v0_151 (f_a1 : Int32 → Int32) (q0 : Int32) (q1 : Int32) (q2 : Int32) (q3 : Int32) (q4 : Int32) (j92_S0 : Int32) (j151_L11 : Int32) : Int32 := (if (own_v4_0 f_a1 (0 : Int32) (own_n0_64 q4) (own_n0_73 q4) j92_S0) = (0 : Int32) then (own_v0_169 f_a1 q0 q1 q2 q3 q4 j92_S0 j151_L11) else (own_v0_169 f_a1 q0 q1 q2 q3 q4 j92_S0 (0 : Int32)))
def own_v0_133 (f_a1 : Int32 → Int32) (q0 : Int32) (q1 : Int32) (q2 : Int32) (q3 : Int32) (q4 : Int32) (j92_S0 : Int32) (j133_L11 : Int32) : Int32 := (if (own_v4_0 f_a1 (1 : Int32) (own_n0_64 q4) (own_n0_73 q4) j92_S0) = (0 : Int32) then (own_v0_151 f_a1 q0 q1 q2 q3 q4 j92_S0 j133_L11) else (own_v0_151 f_a1 q0 q1 q2 q3 q4 j92_S0 (1 : Int32)))
def own_v0_115 (f_a1 : Int32 → Int32) (q0 : Int32) (q1 : Int32) (q2 : Int32) (q3 : Int32) (q4 : Int32) (j92_S0 : Int32) (j115_L11 : Int32) : Int32 := (if (own_v4_0 f_a1 (2 : Int32) (own_n0_64 q4) (own_n0_73 q4) j92_S0) = (0 : Int32) then (own_v0_133 f_a1 q0 q1 q2 q3 q4 j92_S0 j115_L11) else (own_v0_133 f_a1 q0 q1 q2 q3 q4 j92_S0 (2 : Int32)))
def own_v0_92 (f_a1 : Int32 → Int32) (q0 : Int32) (q1 : Int32) (q2 : Int32) (q3 : Int32) (q4 : Int32) (j92_S0 : Int32) : Int32 := (if (own_v4_0 f_a1 (3 : Int32) (own_n0_64 q4) (own_n0_73 q4) j92_S0) = (0 : Int32) then (own_v0_115 f_a1 q0 q1 q2 q3 q4 j92_S0 (-1 : Int32)) else (own_v0_115 f_a1 q0 q1 q2 q3 q4 j92_S0 (3 : Int32)))
def own_v0_75 (q0 : Int32) (q1 : Int32) (q2 : Int32) (q3 : Int32) (q4 : Int32) : Int32 := (if ((own_us q4 (6 : Int32)) &&& (1 : Int32)) = (0 : Int32) then (own_v0_92 (own_n0_f q0 q1 q2 q3) q0 q1 q2 q3 q4 (39 : Int32)) else (own_v0_92 (own_n0_f q0 q1 q2 q3) q0 q1 q2 q3 q4 (34 : Int32)))
theorem own_f_i (q : Int32) : 0 ≤ (own_n0_44 q).toInt ∧ (own_n0_44 q).toInt ≤ 4 := by
  have h := own_mask q 7 (by decide)
  have e := own_rem_i (y := (5 : Int32)) h.1 (by decide)
  have e5 : (5 : Int32).toInt = 5 := rfl
  rw [own_n0_44, e, e5]
  omega
theorem own_l_i (q : Int32) : 0 ≤ (own_n0_55 q).toInt ∧ (own_n0_55 q).toInt ≤ 4 := by
  have h := own_mask (own_us q (3 : Int32)) 7 (by decide)
  have e := own_rem_i (y := (5 : Int32)) h.1 (by decide)
  have e5 : (5 : Int32).toInt = 5 := rfl
  rw [own_n0_55, e, e5]
  omega
theorem own_fl_i (q : Int32) : 0 ≤ (own_n0_64 q).toInt ∧ (own_n0_64 q).toInt ≤ (own_n0_73 q).toInt ∧ (own_n0_73 q).toInt ≤ 4 := by
  have h1 := own_f_i q
  have h2 := own_l_i q
  rw [own_n0_64, own_n0_73, own_v2_0, own_v3_0]
  simp only [own_v2_10, own_v3_10, own_lt]
  split <;> split <;> omega
theorem own_from0 (q : Int32) : ¬ own_n0_64 q < 0 := by
  have := own_fl_i q
  have e : (0 : Int32).toInt = 0 := rfl
  rw [own_lt]
  omega
theorem own_lim4 (q : Int32) : ¬ (4 : Int32) < own_n0_73 q := by
  have := own_fl_i q
  have e : (4 : Int32).toInt = 4 := rfl
  rw [own_lt]
  omega
theorem own_fk (q : Int32) : (own_n0_73 q).toInt ≤ (own_n0_64 q).toInt + 4 := by
  have := own_fl_i q
  omega
theorem own_five {x : Int32} (h0 : 0 ≤ x.toInt) (h4 : x.toInt ≤ 4) : x = 0 ∨ x = 1 ∨ x = 2 ∨ x = 3 ∨ x = 4 := by
  have e0 : (0 : Int32).toInt = 0 := rfl
  have e1 : (1 : Int32).toInt = 1 := rfl
  have e2 : (2 : Int32).toInt = 2 := rfl
  have e3 : (3 : Int32).toInt = 3 := rfl
  have e4 : (4 : Int32).toInt = 4 := rfl
  simp only [← Int32.toInt_inj, e0, e1, e2, e3, e4]
  omega
/-- a place that isn't plain -/
def own_b (f : Int32 → Int32) (q : Int32) (i : Int32) : Bool := decide (f i < 32) || decide (f i = q) || decide (f i = 38) || decide (f i = 60)
theorem own_plain (f : Int32 → Int32) (q i : Int32) : own_v6_0 (f i) q = bif own_b f q i then 0 else 1 := by
  have m1 : nar .boolean (1 : Int32) = 1 := rfl
  have m0 : nar .boolean (0 : Int32) = 0 := rfl
  simp only [own_v6_0, own_v6_27, own_v6_28, m1, m0, own_b]
  by_cases h1 : f i < 32
  · simp [h1]
  · by_cases h2 : f i = q
    · simp [h1, h2]
    · by_cases h3 : f i = 38
      · simp [h1, h2, h3]
      · by_cases h4 : f i = 60
        · simp [h1, h2, h3, h4]
        · simp [h1, h2, h3, h4]
def own_scb (b : Int32 → Bool) (n : Int32) : Nat → Int32 → Int32
  | 0, i => i
  | k + 1, i => if i < n then (bif b i then i else own_scb b n k (i + (1 : Int32))) else i
theorem own_pl_b (f : Int32 → Int32) (n q : Int32) (hq : q = 39 ∨ q = 34) (k : Nat) (i : Int32) : own_pl f n q k i = own_end f n q (own_scb (own_b f q) n k i) := by
  induction k generalizing i with
  | zero => rfl
  | succ k ih =>
    rw [own_pl, own_scb, ih]
    by_cases h : i < n
    · rw [if_pos h, if_pos h]
      by_cases g : (60 : Int32) < f i
      · rw [if_pos g]
        have e : own_b f q i = false := by
          have e32 : (32 : Int32).toInt = 32 := rfl
          have e38 : (38 : Int32).toInt = 38 := rfl
          have e60 : (60 : Int32).toInt = 60 := rfl
          have e39 : (39 : Int32).toInt = 39 := rfl
          have e34 : (34 : Int32).toInt = 34 := rfl
          rw [own_lt, e60] at g
          have a1 : ¬ f i < 32 := by rw [own_lt, e32]; omega
          have a2 : ¬ f i = q := fun w => by
            rw [w] at g
            rcases hq with rfl | rfl
            · rw [e39] at g; omega
            · rw [e34] at g; omega
          have a3 : ¬ f i = 38 := fun w => by rw [w, e38] at g; omega
          have a4 : ¬ f i = 60 := fun w => by rw [w, e60] at g; omega
          simp [own_b, a1, a2, a3, a4]
        rw [e]
        rfl
      · rw [if_neg g]
        by_cases h1 : f i < 32
        · simp [own_b, h1]
        · by_cases h2 : f i = q
          · simp [own_b, h1, h2]
          · by_cases h3 : f i = 38
            · simp [own_b, h1, h2, h3]
            · by_cases h4 : f i = 60
              · simp [own_b, h1, h2, h3, h4]
              · simp [own_b, h1, h2, h3, h4]
    · rw [if_neg h, if_neg h]
def own_e (n t : Int32) (b : Int32 → Bool) (i e : Int32) : Int32 := if i < t then e else if i < n then (bif b i then i else e) else e
theorem own_seg {V : Int32 → Int32} {n t e i q : Int32} {f : Int32 → Int32} : (if own_v4_0 f i t n q = 0 then V e else V i) = V (own_e n t (own_b f q) i e) := by
  have m1 : nar .boolean (1 : Int32) = 1 := rfl
  have m0 : nar .boolean (0 : Int32) = 0 := rfl
  have t1 : ¬ (1 : Int32) = 0 := by decide
  simp only [own_v4_0, own_v4_25, own_v4_26, m1, m0, own_plain, own_e]
  by_cases h : i < t
  · simp [h]
  · by_cases h' : i < n
    · cases own_b f q i
      · simp [h, h']
      · simp [h, h']
    · simp [h, h']
theorem own_chk {n t : Int32} (b : Int32 → Bool) (hn : n = 0 ∨ n = 1 ∨ n = 2 ∨ n = 3 ∨ n = 4) (ht : t = 0 ∨ t = 1 ∨ t = 2 ∨ t = 3 ∨ t = 4) (h : t.toInt ≤ n.toInt) :
    (own_scb b n 4 t < n ∧ ¬ own_scb b n 4 t < 0 ∧ own_e n t b 0 (own_e n t b 1 (own_e n t b 2 (own_e n t b 3 (-1)))) = own_scb b n 4 t) ∨ (¬ own_scb b n 4 t < n ∧ own_e n t b 0 (own_e n t b 1 (own_e n t b 2 (own_e n t b 3 (-1)))) = -1) := by
  rcases hn with rfl | rfl | rfl | rfl | rfl <;> rcases ht with rfl | rfl | rfl | rfl | rfl <;> first
    | (exfalso; revert h; decide)
    | (simp only [own_scb, own_e, ↓reduceIte, Int32.reduceLT, Int32.reduceAdd]
       generalize b 0 = x0
       generalize b 1 = x1
       generalize b 2 = x2
       generalize b 3 = x3
       cases x0 <;> cases x1 <;> cases x2 <;> cases x3 <;> decide)
theorem own_law2 (f : Int32 → Int32) (q0 q1 q2 q3 q4 q : Int32) (hq : q = 39 ∨ q = 34) : own_v0_92 f q0 q1 q2 q3 q4 q = 1 := by
  have hb := own_fl_i q4
  have h := own_chk (own_b f q) (own_five (by omega) hb.2.2) (own_five hb.1 (by omega)) hb.2.1
  have hp := own_pl_b f (own_n0_73 q4) q hq 4 (own_n0_64 q4)
  have s3 : own_v0_92 f q0 q1 q2 q3 q4 q = own_v0_115 f q0 q1 q2 q3 q4 q (own_e (own_n0_73 q4) (own_n0_64 q4) (own_b f q) 3 (-1)) := own_seg
  have s2 : ∀ e, own_v0_115 f q0 q1 q2 q3 q4 q e = own_v0_133 f q0 q1 q2 q3 q4 q (own_e (own_n0_73 q4) (own_n0_64 q4) (own_b f q) 2 e) := fun e => own_seg
  have s1 : ∀ e, own_v0_133 f q0 q1 q2 q3 q4 q e = own_v0_151 f q0 q1 q2 q3 q4 q (own_e (own_n0_73 q4) (own_n0_64 q4) (own_b f q) 1 e) := fun e => own_seg
  have s0 : ∀ e, own_v0_151 f q0 q1 q2 q3 q4 q e = own_v0_169 f q0 q1 q2 q3 q4 q (own_e (own_n0_73 q4) (own_n0_64 q4) (own_b f q) 0 e) := fun e => own_seg
  rw [s3, s2, s1, s0]
  rcases h with ⟨c1, c2, c3⟩ | ⟨c1, c3⟩
  · rw [c3, own_v0_169, if_neg c2]
    by_cases g : f (own_scb (own_b f q) (own_n0_73 q4) 4 (own_n0_64 q4)) = q
    · rw [if_pos g, own_v0_190, if_pos (by rw [hp, own_end, if_pos c1, if_pos g])]
      rfl
    · rw [if_neg g, own_v0_189, own_v0_190, if_pos (by rw [hp, own_end, if_pos c1, if_neg g])]
      rfl
  · rw [c3, own_v0_169, if_pos (by decide), own_v0_189, own_v0_190, if_pos (by rw [hp, own_end, if_neg c1])]
    rfl
theorem own_law (q0 q1 q2 q3 q4 : Int32) : own_v0_75 q0 q1 q2 q3 q4 = 1 := by
  rw [own_v0_75]
  split
  · exact own_law2 _ q0 q1 q2 q3 q4 39 (Or.inl rfl)
  · exact own_law2 _ q0 q1 q2 q3 q4 34 (Or.inr rfl)

theorem pn_0 : plainName "com/example/buccleuch/buccleuch/LexerPlainValueEndPinLaw" = true := by first | (simp [plainName, overriddenIn]; done) | decide +kernel
theorem ef_0 (m : MethodId) (q0 : Int32) (q1 : Int32) (q2 : Int32) (q3 : Int32) (q4 : Int32) : entryFrame m #[(.int q0), (.int q1), (.int q2), (.int q3), (.int q4)] maxLocals = mkF m 0 #[.val (.int q0), .val (.int q1), .val (.int q2), .val (.int q3), .val (.int q4), .unset, .unset, .unset, .unset, .unset, .unset, .unset, .unset] [] := by first | (simp [entryFrame, mkF, argsToLocals, Value.category, maxLocals]; done) | rfl
set_option maxRecDepth 65536 in
set_option maxHeartbeats 40000000 in
theorem rm0 (l : Launch) (Z : State) (a0 : Array Value) (hw : ∀ d ∈ tables_1, d.before a0 Z = true) (ws : List Jvm.Cond) (q0 : Int32) (q1 : Int32) (q2 : Int32) (q3 : Int32) (q4 : Int32) (h0 : Heap) (n0 : Nat) (Z0 : n0 ≤ h0.size)  :
    MetFree l x (head1 (Jvm.Cond.code x code maxLocals ret :: ws) room_1) (fun aa U => aa = #[(.int q0), (.int q1), (.int q2), (.int q3), (.int q4)] ∧ Z.Warmed39 U.vm ∧ U.heap = h0) (fun _ _ _ _ _ => True) (fun _ U o U' => ∃ v L, o = .returned v ∧ own_QF (some (.int (own_v0_75 q0 q1 q2 q3 q4))) n0 v U'.heap L ∧ FrameEnd U o U' L room_1.cells room_1.slots) := by
  refine MetFree.of_bodySF (plainFor_of_name pn_0) hisR ?_
  intro p e s m args below meth c s₁ Bd hml0 hP hK
  obtain ⟨rfl, hZ, hh⟩ := hP
  have hx := Bd.exec
  have hby := Bd.bytes
  have hml : c.maxLocals = 13 := hml0
  have hlk : meth.locks = false := Bd.notSynchronized
  have hown : s.vm.findClass "com/example/buccleuch/buccleuch/LexerPlainValueEndPinLaw" = some m.cls := findClass_of_methodNamed Bd.named
  have X0 : Stand p l e room_1 s m #[(.int q0), (.int q1), (.int q2), (.int q3), (.int q4)] below meth c s₁ [] 0 0 := Stand.of_body Bd
  have e0 : s₁.heap = h0 := by rw [← hh, Bd.state]; rfl
  refine own_G0 (own_go (fun _ k => castTop (ef_0 m q0 q1 q2 q3 q4) k) ?_)
  show own_G p e below s _ _ _ (s₁.setTop (mkF m 0 #[.val (.int q0), .val (.int q1), .val (.int q2), .val (.int q3), .val (.int q4), .unset, .unset, .unset, .unset, .unset, .unset, .unset, .unset] []))
  refine own_go (fun _ => XS.iconst X0.here hx rfl (hb hby at_0)) ?_
  show own_G p e below s _ _ _ (s₁.setTop (mkF m 1 #[.val (.int q0), .val (.int q1), .val (.int q2), .val (.int q3), .val (.int q4), .unset, .unset, .unset, .unset, .unset, .unset, .unset, .unset] [(.int (4 : Int32))]))
  obtain ⟨T1, h1, a1, X1, e1, E1, ga1, g1, A1, st1⟩ := own_new X0 hx hZ (hw _ (List.mem_of_getElem? (i := 0) rfl)) e0 Z0 rfl (g := (mkF m 1 #[.val (.int q0), .val (.int q1), .val (.int q2), .val (.int q3), .val (.int q4), .unset, .unset, .unset, .unset, .unset, .unset, .unset, .unset] [(.int (4 : Int32))])) rfl (hb hby at_1) rfl (by decide) (cap := 4) (by decide) (by decide) (by decide) (by decide)
  refine own_go (fun _ => st1 _) ?_
  show own_G p e below s _ _ _ (T1.setTop (mkF m 3 #[.val (.int q0), .val (.int q1), .val (.int q2), .val (.int q3), .val (.int q4), .unset, .unset, .unset, .unset, .unset, .unset, .unset, .unset] [(.ref a1)]))
  refine own_go (fun _ => XS.astore X1.here hx rfl (hb hby at_3) rfl rfl (l' := #[.val (.int q0), .val (.int q1), .val (.int q2), .val (.int q3), .val (.int q4), .val (.ref a1), .unset, .unset, .unset, .unset, .unset, .unset, .unset]) rfl) ?_
  show own_G p e below s _ _ _ (T1.setTop (mkF m 5 #[.val (.int q0), .val (.int q1), .val (.int q2), .val (.int q3), .val (.int q4), .val (.ref a1), .unset, .unset, .unset, .unset, .unset, .unset, .unset] []))
  refine own_go (fun _ => XS.aload X1.here hx rfl (hb hby at_5) rfl rfl) ?_
  show own_G p e below s _ _ _ (T1.setTop (mkF m 7 #[.val (.int q0), .val (.int q1), .val (.int q2), .val (.int q3), .val (.int q4), .val (.ref a1), .unset, .unset, .unset, .unset, .unset, .unset, .unset] [(.ref a1)]))
  refine own_go (fun _ => XS.iconst X1.here hx rfl (hb hby at_7)) ?_
  show own_G p e below s _ _ _ (T1.setTop (mkF m 8 #[.val (.int q0), .val (.int q1), .val (.int q2), .val (.int q3), .val (.int q4), .val (.ref a1), .unset, .unset, .unset, .unset, .unset, .unset, .unset] [(.int (0 : Int32)), (.ref a1)]))
  refine own_go (fun _ => XS.iloadN X1.here hx rfl (hb hby at_8) rfl) ?_
  show own_G p e below s _ _ _ (T1.setTop (mkF m 9 #[.val (.int q0), .val (.int q1), .val (.int q2), .val (.int q3), .val (.int q4), .val (.ref a1), .unset, .unset, .unset, .unset, .unset, .unset, .unset] [(.int q0), (.int (0 : Int32)), (.ref a1)]))
  obtain ⟨T2, X2, e2, st2⟩ := own_call X1 hx hZ hown (hw _ (List.mem_of_getElem? (i := 1) rfl)) (hw _ (List.mem_of_getElem? (i := 2) rfl)) (hw _ (List.mem_of_getElem? (i := 3) rfl)) (hw _ (List.mem_of_getElem? (i := 4) rfl)) (by decide) (rm1 l Z a0 hw [] q0 h1) rfl rfl e1 (W := 2) (by decide) (by decide) (by decide) (by decide) (g := (mkF m 9 #[.val (.int q0), .val (.int q1), .val (.int q2), .val (.int q3), .val (.int q4), .val (.ref a1), .unset, .unset, .unset, .unset, .unset, .unset, .unset] [(.int q0), (.int (0 : Int32)), (.ref a1)])) rfl (by rw [hml]; rfl) (argsL := [(.int q0)]) (rest := [(.int (0 : Int32)), (.ref a1)]) (lenOf (by decide +kernel : parseMethodDescriptor "(I)C" = some ⟨[.int], some .char⟩) rfl) rfl rfl (by show 2 * 0 + _ ≤ _; exact Nat.le_of_eq rfl) (hb hby at_9)
  refine own_go (fun _ => st2 _) ?_
  show own_G p e below s _ _ _ (T2.setTop (mkF m 12 #[.val (.int q0), .val (.int q1), .val (.int q2), .val (.int q3), .val (.int q4), .val (.ref a1), .unset, .unset, .unset, .unset, .unset, .unset, .unset] [(.int (own_v1_0 q0)), (.int (0 : Int32)), (.ref a1)]))
  obtain ⟨T3, h3, L3, X3, e3, N3, A3, W3, st3⟩ := own_stC X2 hx hZ e2 A1 (Fr.nil n0) g1 (by decide) (by decide) (g := (mkF m 12 #[.val (.int q0), .val (.int q1), .val (.int q2), .val (.int q3), .val (.int q4), .val (.ref a1), .unset, .unset, .unset, .unset, .unset, .unset, .unset] [(.int (own_v1_0 q0)), (.int (0 : Int32)), (.ref a1)])) rfl rfl (hb hby at_12)
  refine own_go (fun _ => st3 _) ?_
  show own_G p e below s _ _ _ (T3.setTop (mkF m 13 #[.val (.int q0), .val (.int q1), .val (.int q2), .val (.int q3), .val (.int q4), .val (.ref a1), .unset, .unset, .unset, .unset, .unset, .unset, .unset] []))
  refine own_go (fun _ => XS.aload X3.here hx rfl (hb hby at_13) rfl rfl) ?_
  show own_G p e below s _ _ _ (T3.setTop (mkF m 15 #[.val (.int q0), .val (.int q1), .val (.int q2), .val (.int q3), .val (.int q4), .val (.ref a1), .unset, .unset, .unset, .unset, .unset, .unset, .unset] [(.ref a1)]))
  refine own_go (fun _ => XS.iconst X3.here hx rfl (hb hby at_15)) ?_
  show own_G p e below s _ _ _ (T3.setTop (mkF m 16 #[.val (.int q0), .val (.int q1), .val (.int q2), .val (.int q3), .val (.int q4), .val (.ref a1), .unset, .unset, .unset, .unset, .unset, .unset, .unset] [(.int (1 : Int32)), (.ref a1)]))
  refine own_go (fun _ => XS.iloadN X3.here hx rfl (hb hby at_16) rfl) ?_
  show own_G p e below s _ _ _ (T3.setTop (mkF m 17 #[.val (.int q0), .val (.int q1), .val (.int q2), .val (.int q3), .val (.int q4), .val (.ref a1), .unset, .unset, .unset, .unset, .unset, .unset, .unset] [(.int q1), (.int (1 : Int32)), (.ref a1)]))
  obtain ⟨T4, X4, e4, st4⟩ := own_call X3 hx hZ hown (hw _ (List.mem_of_getElem? (i := 1) rfl)) (hw _ (List.mem_of_getElem? (i := 2) rfl)) (hw _ (List.mem_of_getElem? (i := 3) rfl)) (hw _ (List.mem_of_getElem? (i := 4) rfl)) (by decide) (rm1 l Z a0 hw [] q1 h3) rfl rfl e3 (W := 2) (by decide) (by decide) (by decide) (by decide) (g := (mkF m 17 #[.val (.int q0), .val (.int q1), .val (.int q2), .val (.int q3), .val (.int q4), .val (.ref a1), .unset, .unset, .unset, .unset, .unset, .unset, .unset] [(.int q1), (.int (1 : Int32)), (.ref a1)])) rfl (by rw [hml]; rfl) (argsL := [(.int q1)]) (rest := [(.int (1 : Int32)), (.ref a1)]) (lenOf (by decide +kernel : parseMethodDescriptor "(I)C" = some ⟨[.int], some .char⟩) rfl) rfl rfl (by show 2 * 0 + _ ≤ _; exact Nat.le_of_eq rfl) (hb hby at_17)
  refine own_go (fun _ => st4 _) ?_
  show own_G p e below s _ _ _ (T4.setTop (mkF m 20 #[.val (.int q0), .val (.int q1), .val (.int q2), .val (.int q3), .val (.int q4), .val (.ref a1), .unset, .unset, .unset, .unset, .unset, .unset, .unset] [(.int (own_v1_0 q1)), (.int (1 : Int32)), (.ref a1)]))
  obtain ⟨T5, h5, L5, X5, e5, N5, A5, W5, st5⟩ := own_stC X4 hx hZ e4 A3 N3 g1 (by decide) (by decide) (g := (mkF m 20 #[.val (.int q0), .val (.int q1), .val (.int q2), .val (.int q3), .val (.int q4), .val (.ref a1), .unset, .unset, .unset, .unset, .unset, .unset, .unset] [(.int (own_v1_0 q1)), (.int (1 : Int32)), (.ref a1)])) rfl rfl (hb hby at_20)
  refine own_go (fun _ => st5 _) ?_
  show own_G p e below s _ _ _ (T5.setTop (mkF m 21 #[.val (.int q0), .val (.int q1), .val (.int q2), .val (.int q3), .val (.int q4), .val (.ref a1), .unset, .unset, .unset, .unset, .unset, .unset, .unset] []))
  refine own_go (fun _ => XS.aload X5.here hx rfl (hb hby at_21) rfl rfl) ?_
  show own_G p e below s _ _ _ (T5.setTop (mkF m 23 #[.val (.int q0), .val (.int q1), .val (.int q2), .val (.int q3), .val (.int q4), .val (.ref a1), .unset, .unset, .unset, .unset, .unset, .unset, .unset] [(.ref a1)]))
  refine own_go (fun _ => XS.iconst X5.here hx rfl (hb hby at_23)) ?_
  show own_G p e below s _ _ _ (T5.setTop (mkF m 24 #[.val (.int q0), .val (.int q1), .val (.int q2), .val (.int q3), .val (.int q4), .val (.ref a1), .unset, .unset, .unset, .unset, .unset, .unset, .unset] [(.int (2 : Int32)), (.ref a1)]))
  refine own_go (fun _ => XS.iloadN X5.here hx rfl (hb hby at_24) rfl) ?_
  show own_G p e below s _ _ _ (T5.setTop (mkF m 25 #[.val (.int q0), .val (.int q1), .val (.int q2), .val (.int q3), .val (.int q4), .val (.ref a1), .unset, .unset, .unset, .unset, .unset, .unset, .unset] [(.int q2), (.int (2 : Int32)), (.ref a1)]))
  obtain ⟨T6, X6, e6, st6⟩ := own_call X5 hx hZ hown (hw _ (List.mem_of_getElem? (i := 1) rfl)) (hw _ (List.mem_of_getElem? (i := 2) rfl)) (hw _ (List.mem_of_getElem? (i := 3) rfl)) (hw _ (List.mem_of_getElem? (i := 4) rfl)) (by decide) (rm1 l Z a0 hw [] q2 h5) rfl rfl e5 (W := 2) (by decide) (by decide) (by decide) (by decide) (g := (mkF m 25 #[.val (.int q0), .val (.int q1), .val (.int q2), .val (.int q3), .val (.int q4), .val (.ref a1), .unset, .unset, .unset, .unset, .unset, .unset, .unset] [(.int q2), (.int (2 : Int32)), (.ref a1)])) rfl (by rw [hml]; rfl) (argsL := [(.int q2)]) (rest := [(.int (2 : Int32)), (.ref a1)]) (lenOf (by decide +kernel : parseMethodDescriptor "(I)C" = some ⟨[.int], some .char⟩) rfl) rfl rfl (by show 2 * 0 + _ ≤ _; exact Nat.le_of_eq rfl) (hb hby at_25)
  refine own_go (fun _ => st6 _) ?_
  show own_G p e below s _ _ _ (T6.setTop (mkF m 28 #[.val (.int q0), .val (.int q1), .val (.int q2), .val (.int q3), .val (.int q4), .val (.ref a1), .unset, .unset, .unset, .unset, .unset, .unset, .unset] [(.int (own_v1_0 q2)), (.int (2 : Int32)), (.ref a1)]))
  obtain ⟨T7, h7, L7, X7, e7, N7, A7, W7, st7⟩ := own_stC X6 hx hZ e6 A5 N5 g1 (by decide) (by decide) (g := (mkF m 28 #[.val (.int q0), .val (.int q1), .val (.int q2), .val (.int q3), .val (.int q4), .val (.ref a1), .unset, .unset, .unset, .unset, .unset, .unset, .unset] [(.int (own_v1_0 q2)), (.int (2 : Int32)), (.ref a1)])) rfl rfl (hb hby at_28)
  refine own_go (fun _ => st7 _) ?_
  show own_G p e below s _ _ _ (T7.setTop (mkF m 29 #[.val (.int q0), .val (.int q1), .val (.int q2), .val (.int q3), .val (.int q4), .val (.ref a1), .unset, .unset, .unset, .unset, .unset, .unset, .unset] []))
  refine own_go (fun _ => XS.aload X7.here hx rfl (hb hby at_29) rfl rfl) ?_
  show own_G p e below s _ _ _ (T7.setTop (mkF m 31 #[.val (.int q0), .val (.int q1), .val (.int q2), .val (.int q3), .val (.int q4), .val (.ref a1), .unset, .unset, .unset, .unset, .unset, .unset, .unset] [(.ref a1)]))
  refine own_go (fun _ => XS.iconst X7.here hx rfl (hb hby at_31)) ?_
  show own_G p e below s _ _ _ (T7.setTop (mkF m 32 #[.val (.int q0), .val (.int q1), .val (.int q2), .val (.int q3), .val (.int q4), .val (.ref a1), .unset, .unset, .unset, .unset, .unset, .unset, .unset] [(.int (3 : Int32)), (.ref a1)]))
  refine own_go (fun _ => XS.iloadN X7.here hx rfl (hb hby at_32) rfl) ?_
  show own_G p e below s _ _ _ (T7.setTop (mkF m 33 #[.val (.int q0), .val (.int q1), .val (.int q2), .val (.int q3), .val (.int q4), .val (.ref a1), .unset, .unset, .unset, .unset, .unset, .unset, .unset] [(.int q3), (.int (3 : Int32)), (.ref a1)]))
  obtain ⟨T8, X8, e8, st8⟩ := own_call X7 hx hZ hown (hw _ (List.mem_of_getElem? (i := 1) rfl)) (hw _ (List.mem_of_getElem? (i := 2) rfl)) (hw _ (List.mem_of_getElem? (i := 3) rfl)) (hw _ (List.mem_of_getElem? (i := 4) rfl)) (by decide) (rm1 l Z a0 hw [] q3 h7) rfl rfl e7 (W := 2) (by decide) (by decide) (by decide) (by decide) (g := (mkF m 33 #[.val (.int q0), .val (.int q1), .val (.int q2), .val (.int q3), .val (.int q4), .val (.ref a1), .unset, .unset, .unset, .unset, .unset, .unset, .unset] [(.int q3), (.int (3 : Int32)), (.ref a1)])) rfl (by rw [hml]; rfl) (argsL := [(.int q3)]) (rest := [(.int (3 : Int32)), (.ref a1)]) (lenOf (by decide +kernel : parseMethodDescriptor "(I)C" = some ⟨[.int], some .char⟩) rfl) rfl rfl (by show 2 * 0 + _ ≤ _; exact Nat.le_of_eq rfl) (hb hby at_33)
  refine own_go (fun _ => st8 _) ?_
  show own_G p e below s _ _ _ (T8.setTop (mkF m 36 #[.val (.int q0), .val (.int q1), .val (.int q2), .val (.int q3), .val (.int q4), .val (.ref a1), .unset, .unset, .unset, .unset, .unset, .unset, .unset] [(.int (own_v1_0 q3)), (.int (3 : Int32)), (.ref a1)]))
  obtain ⟨T9, h9, L9, X9, e9, N9, A9, W9, st9⟩ := own_stC X8 hx hZ e8 A7 N7 g1 (by decide) (by decide) (g := (mkF m 36 #[.val (.int q0), .val (.int q1), .val (.int q2), .val (.int q3), .val (.int q4), .val (.ref a1), .unset, .unset, .unset, .unset, .unset, .unset, .unset] [(.int (own_v1_0 q3)), (.int (3 : Int32)), (.ref a1)])) rfl rfl (hb hby at_36)
  have A9 : own_A Z h9 a1 .char (4 : Int32) (own_n0_f q0 q1 q2 q3) := A9
  refine own_go (fun _ => st9 _) ?_
  show own_G p e below s _ _ _ (T9.setTop (mkF m 37 #[.val (.int q0), .val (.int q1), .val (.int q2), .val (.int q3), .val (.int q4), .val (.ref a1), .unset, .unset, .unset, .unset, .unset, .unset, .unset] []))
  refine own_go (fun _ => XS.iload X9.here hx rfl (hb hby at_37) rfl) ?_
  show own_G p e below s _ _ _ (T9.setTop (mkF m 39 #[.val (.int q0), .val (.int q1), .val (.int q2), .val (.int q3), .val (.int q4), .val (.ref a1), .unset, .unset, .unset, .unset, .unset, .unset, .unset] [(.int q4)]))
  refine own_go (fun _ => XS.bipush X9.here hx rfl (hb hby at_39)) ?_
  show own_G p e below s _ _ _ (T9.setTop (mkF m 41 #[.val (.int q0), .val (.int q1), .val (.int q2), .val (.int q3), .val (.int q4), .val (.ref a1), .unset, .unset, .unset, .unset, .unset, .unset, .unset] [(.int (7 : Int32)), (.int q4)]))
  refine own_go (fun _ => XS.iand X9.here hx rfl (hb hby at_41) rfl) ?_
  show own_G p e below s _ _ _ (T9.setTop (mkF m 42 #[.val (.int q0), .val (.int q1), .val (.int q2), .val (.int q3), .val (.int q4), .val (.ref a1), .unset, .unset, .unset, .unset, .unset, .unset, .unset] [(.int (q4 &&& (7 : Int32)))]))
  refine own_go (fun _ => XS.iconst X9.here hx rfl (hb hby at_42)) ?_
  show own_G p e below s _ _ _ (T9.setTop (mkF m 43 #[.val (.int q0), .val (.int q1), .val (.int q2), .val (.int q3), .val (.int q4), .val (.ref a1), .unset, .unset, .unset, .unset, .unset, .unset, .unset] [(.int (5 : Int32)), (.int (q4 &&& (7 : Int32)))]))
  refine own_go (fun _ => XS.irem X9.here hx rfl (hb hby at_43) rfl (by decide)) ?_
  show own_G p e below s _ _ _ (T9.setTop (mkF m 44 #[.val (.int q0), .val (.int q1), .val (.int q2), .val (.int q3), .val (.int q4), .val (.ref a1), .unset, .unset, .unset, .unset, .unset, .unset, .unset] [(.int (own_rem (q4 &&& (7 : Int32)) (5 : Int32)))]))
  refine own_go (fun _ => XS.istore X9.here hx rfl (hb hby at_44) rfl (l' := #[.val (.int q0), .val (.int q1), .val (.int q2), .val (.int q3), .val (.int q4), .val (.ref a1), .val (.int (own_n0_44 q4)), .unset, .unset, .unset, .unset, .unset, .unset]) rfl) ?_
  show own_G p e below s _ _ _ (T9.setTop (mkF m 46 #[.val (.int q0), .val (.int q1), .val (.int q2), .val (.int q3), .val (.int q4), .val (.ref a1), .val (.int (own_n0_44 q4)), .unset, .unset, .unset, .unset, .unset, .unset] []))
  refine own_go (fun _ => XS.iload X9.here hx rfl (hb hby at_46) rfl) ?_
  show own_G p e below s _ _ _ (T9.setTop (mkF m 48 #[.val (.int q0), .val (.int q1), .val (.int q2), .val (.int q3), .val (.int q4), .val (.ref a1), .val (.int (own_n0_44 q4)), .unset, .unset, .unset, .unset, .unset, .unset] [(.int q4)]))
  refine own_go (fun _ => XS.iconst X9.here hx rfl (hb hby at_48)) ?_
  show own_G p e below s _ _ _ (T9.setTop (mkF m 49 #[.val (.int q0), .val (.int q1), .val (.int q2), .val (.int q3), .val (.int q4), .val (.ref a1), .val (.int (own_n0_44 q4)), .unset, .unset, .unset, .unset, .unset, .unset] [(.int (3 : Int32)), (.int q4)]))
  refine own_go (fun _ => XS.iushr X9.here hx rfl (hb hby at_49) rfl) ?_
  show own_G p e below s _ _ _ (T9.setTop (mkF m 50 #[.val (.int q0), .val (.int q1), .val (.int q2), .val (.int q3), .val (.int q4), .val (.ref a1), .val (.int (own_n0_44 q4)), .unset, .unset, .unset, .unset, .unset, .unset] [(.int (own_us q4 (3 : Int32)))]))
  refine own_go (fun _ => XS.bipush X9.here hx rfl (hb hby at_50)) ?_
  show own_G p e below s _ _ _ (T9.setTop (mkF m 52 #[.val (.int q0), .val (.int q1), .val (.int q2), .val (.int q3), .val (.int q4), .val (.ref a1), .val (.int (own_n0_44 q4)), .unset, .unset, .unset, .unset, .unset, .unset] [(.int (7 : Int32)), (.int (own_us q4 (3 : Int32)))]))
  refine own_go (fun _ => XS.iand X9.here hx rfl (hb hby at_52) rfl) ?_
  show own_G p e below s _ _ _ (T9.setTop (mkF m 53 #[.val (.int q0), .val (.int q1), .val (.int q2), .val (.int q3), .val (.int q4), .val (.ref a1), .val (.int (own_n0_44 q4)), .unset, .unset, .unset, .unset, .unset, .unset] [(.int ((own_us q4 (3 : Int32)) &&& (7 : Int32)))]))
  refine own_go (fun _ => XS.iconst X9.here hx rfl (hb hby at_53)) ?_
  show own_G p e below s _ _ _ (T9.setTop (mkF m 54 #[.val (.int q0), .val (.int q1), .val (.int q2), .val (.int q3), .val (.int q4), .val (.ref a1), .val (.int (own_n0_44 q4)), .unset, .unset, .unset, .unset, .unset, .unset] [(.int (5 : Int32)), (.int ((own_us q4 (3 : Int32)) &&& (7 : Int32)))]))
  refine own_go (fun _ => XS.irem X9.here hx rfl (hb hby at_54) rfl (by decide)) ?_
  show own_G p e below s _ _ _ (T9.setTop (mkF m 55 #[.val (.int q0), .val (.int q1), .val (.int q2), .val (.int q3), .val (.int q4), .val (.ref a1), .val (.int (own_n0_44 q4)), .unset, .unset, .unset, .unset, .unset, .unset] [(.int (own_rem ((own_us q4 (3 : Int32)) &&& (7 : Int32)) (5 : Int32)))]))
  refine own_go (fun _ => XS.istore X9.here hx rfl (hb hby at_55) rfl (l' := #[.val (.int q0), .val (.int q1), .val (.int q2), .val (.int q3), .val (.int q4), .val (.ref a1), .val (.int (own_n0_44 q4)), .val (.int (own_n0_55 q4)), .unset, .unset, .unset, .unset, .unset]) rfl) ?_
  show own_G p e below s _ _ _ (T9.setTop (mkF m 57 #[.val (.int q0), .val (.int q1), .val (.int q2), .val (.int q3), .val (.int q4), .val (.ref a1), .val (.int (own_n0_44 q4)), .val (.int (own_n0_55 q4)), .unset, .unset, .unset, .unset, .unset] []))
  refine own_go (fun _ => XS.iload X9.here hx rfl (hb hby at_57) rfl) ?_
  show own_G p e below s _ _ _ (T9.setTop (mkF m 59 #[.val (.int q0), .val (.int q1), .val (.int q2), .val (.int q3), .val (.int q4), .val (.ref a1), .val (.int (own_n0_44 q4)), .val (.int (own_n0_55 q4)), .unset, .unset, .unset, .unset, .unset] [(.int (own_n0_44 q4))]))
  refine own_go (fun _ => XS.iload X9.here hx rfl (hb hby at_59) rfl) ?_
  show own_G p e below s _ _ _ (T9.setTop (mkF m 61 #[.val (.int q0), .val (.int q1), .val (.int q2), .val (.int q3), .val (.int q4), .val (.ref a1), .val (.int (own_n0_44 q4)), .val (.int (own_n0_55 q4)), .unset, .unset, .unset, .unset, .unset] [(.int (own_n0_55 q4)), (.int (own_n0_44 q4))]))
  obtain ⟨T10, X10, e10, st10⟩ := own_call X9 hx hZ hown (hw _ (List.mem_of_getElem? (i := 6) rfl)) (hw _ (List.mem_of_getElem? (i := 7) rfl)) (hw _ (List.mem_of_getElem? (i := 8) rfl)) (hw _ (List.mem_of_getElem? (i := 9) rfl)) (by decide) (rm2 l Z a0 hw [] (own_n0_44 q4) (own_n0_55 q4) h9) rfl rfl e9 (W := 0) (by decide) (by decide) (by decide) (by decide) (g := (mkF m 61 #[.val (.int q0), .val (.int q1), .val (.int q2), .val (.int q3), .val (.int q4), .val (.ref a1), .val (.int (own_n0_44 q4)), .val (.int (own_n0_55 q4)), .unset, .unset, .unset, .unset, .unset] [(.int (own_n0_55 q4)), (.int (own_n0_44 q4))])) rfl (by rw [hml]; rfl) (argsL := [(.int (own_n0_44 q4)), (.int (own_n0_55 q4))]) (rest := []) (lenOf (by decide +kernel : parseMethodDescriptor "(II)I" = some ⟨[.int, .int], some .int⟩) rfl) rfl rfl (by show 2 * 0 + _ ≤ _; exact Nat.le_of_eq rfl) (hb hby at_61)
  refine own_go (fun _ => st10 _) ?_
  show own_G p e below s _ _ _ (T10.setTop (mkF m 64 #[.val (.int q0), .val (.int q1), .val (.int q2), .val (.int q3), .val (.int q4), .val (.ref a1), .val (.int (own_n0_44 q4)), .val (.int (own_n0_55 q4)), .unset, .unset, .unset, .unset, .unset] [(.int (own_v2_0 (own_n0_44 q4) (own_n0_55 q4)))]))
  refine own_go (fun _ => XS.istore X10.here hx rfl (hb hby at_64) rfl (l' := #[.val (.int q0), .val (.int q1), .val (.int q2), .val (.int q3), .val (.int q4), .val (.ref a1), .val (.int (own_n0_44 q4)), .val (.int (own_n0_55 q4)), .val (.int (own_n0_64 q4)), .unset, .unset, .unset, .unset]) rfl) ?_
  show own_G p e below s _ _ _ (T10.setTop (mkF m 66 #[.val (.int q0), .val (.int q1), .val (.int q2), .val (.int q3), .val (.int q4), .val (.ref a1), .val (.int (own_n0_44 q4)), .val (.int (own_n0_55 q4)), .val (.int (own_n0_64 q4)), .unset, .unset, .unset, .unset] []))
  refine own_go (fun _ => XS.iload X10.here hx rfl (hb hby at_66) rfl) ?_
  show own_G p e below s _ _ _ (T10.setTop (mkF m 68 #[.val (.int q0), .val (.int q1), .val (.int q2), .val (.int q3), .val (.int q4), .val (.ref a1), .val (.int (own_n0_44 q4)), .val (.int (own_n0_55 q4)), .val (.int (own_n0_64 q4)), .unset, .unset, .unset, .unset] [(.int (own_n0_44 q4))]))
  refine own_go (fun _ => XS.iload X10.here hx rfl (hb hby at_68) rfl) ?_
  show own_G p e below s _ _ _ (T10.setTop (mkF m 70 #[.val (.int q0), .val (.int q1), .val (.int q2), .val (.int q3), .val (.int q4), .val (.ref a1), .val (.int (own_n0_44 q4)), .val (.int (own_n0_55 q4)), .val (.int (own_n0_64 q4)), .unset, .unset, .unset, .unset] [(.int (own_n0_55 q4)), (.int (own_n0_44 q4))]))
  obtain ⟨T11, X11, e11, st11⟩ := own_call X10 hx hZ hown (hw _ (List.mem_of_getElem? (i := 10) rfl)) (hw _ (List.mem_of_getElem? (i := 11) rfl)) (hw _ (List.mem_of_getElem? (i := 8) rfl)) (hw _ (List.mem_of_getElem? (i := 12) rfl)) (by decide) (rm3 l Z a0 hw [] (own_n0_44 q4) (own_n0_55 q4) h9) rfl rfl e10 (W := 0) (by decide) (by decide) (by decide) (by decide) (g := (mkF m 70 #[.val (.int q0), .val (.int q1), .val (.int q2), .val (.int q3), .val (.int q4), .val (.ref a1), .val (.int (own_n0_44 q4)), .val (.int (own_n0_55 q4)), .val (.int (own_n0_64 q4)), .unset, .unset, .unset, .unset] [(.int (own_n0_55 q4)), (.int (own_n0_44 q4))])) rfl (by rw [hml]; rfl) (argsL := [(.int (own_n0_44 q4)), (.int (own_n0_55 q4))]) (rest := []) (lenOf (by decide +kernel : parseMethodDescriptor "(II)I" = some ⟨[.int, .int], some .int⟩) rfl) rfl rfl (by show 2 * 0 + _ ≤ _; exact Nat.le_of_eq rfl) (hb hby at_70)
  refine own_go (fun _ => st11 _) ?_
  show own_G p e below s _ _ _ (T11.setTop (mkF m 73 #[.val (.int q0), .val (.int q1), .val (.int q2), .val (.int q3), .val (.int q4), .val (.ref a1), .val (.int (own_n0_44 q4)), .val (.int (own_n0_55 q4)), .val (.int (own_n0_64 q4)), .unset, .unset, .unset, .unset] [(.int (own_v3_0 (own_n0_44 q4) (own_n0_55 q4)))]))
  refine own_go (fun _ => XS.istore X11.here hx rfl (hb hby at_73) rfl (l' := #[.val (.int q0), .val (.int q1), .val (.int q2), .val (.int q3), .val (.int q4), .val (.ref a1), .val (.int (own_n0_44 q4)), .val (.int (own_n0_55 q4)), .val (.int (own_n0_64 q4)), .val (.int (own_n0_73 q4)), .unset, .unset, .unset]) rfl) ?_
  have b213 : ∀ (T : State) (h : Heap) (Lc : List Loc), Stand p l e room_1 s m #[(.int q0), (.int q1), (.int q2), (.int q3), (.int q4)] below meth c T Lc (0 + 1) (0 + 4) → T.heap = h → Fr n0 Lc → ∀ (f_a1 : Int32 → Int32), own_A Z h a1 .char (4 : Int32) f_a1 → ∀ (j92_S0 : Int32) (j169_L11 : Int32) (j190_S0 : Int32) (j213_S0 : Int32), own_G p e below s (own_QF (some (.int (own_v0_213 f_a1 q0 q1 q2 q3 q4 j92_S0 j169_L11 j190_S0 j213_S0))) n0) room_1.cells room_1.slots (T.setTop (mkF m 213 #[.val (.int q0), .val (.int q1), .val (.int q2), .val (.int q3), .val (.int q4), .val (.ref a1), .val (.int (own_n0_44 q4)), .val (.int (own_n0_55 q4)), .val (.int (own_n0_64 q4)), .val (.int (own_n0_73 q4)), .val (.int j92_S0), .val (.int j169_L11), .val (.int j190_S0)] [(.int j213_S0)])) := by
    intro T h Lc X eT N f_a1 A_a1 j92_S0 j169_L11 j190_S0 j213_S0
    show own_G p e below s (own_QF (some (.int (nar .boolean j213_S0))) n0) room_1.cells room_1.slots (T.setTop (mkF m 213 #[.val (.int q0), .val (.int q1), .val (.int q2), .val (.int q3), .val (.int q4), .val (.ref a1), .val (.int (own_n0_44 q4)), .val (.int (own_n0_55 q4)), .val (.int (own_n0_64 q4)), .val (.int (own_n0_73 q4)), .val (.int j92_S0), .val (.int j169_L11), .val (.int j190_S0)] [(.int j213_S0)]))
    exact own_retN X hx hlk (t := .boolean) Bd.returns (by simp) (hb hby at_213) (by decide) (by decide) ⟨rfl, N⟩
  have b190 : ∀ (T : State) (h : Heap) (Lc : List Loc), Stand p l e room_1 s m #[(.int q0), (.int q1), (.int q2), (.int q3), (.int q4)] below meth c T Lc (0 + 1) (0 + 4) → T.heap = h → Fr n0 Lc → ∀ (f_a1 : Int32 → Int32), own_A Z h a1 .char (4 : Int32) f_a1 → ∀ (j92_S0 : Int32) (j169_L11 : Int32) (j190_S0 : Int32), own_G p e below s (own_QF (some (.int (own_v0_190 f_a1 q0 q1 q2 q3 q4 j92_S0 j169_L11 j190_S0))) n0) room_1.cells room_1.slots (T.setTop (mkF m 190 #[.val (.int q0), .val (.int q1), .val (.int q2), .val (.int q3), .val (.int q4), .val (.ref a1), .val (.int (own_n0_44 q4)), .val (.int (own_n0_55 q4)), .val (.int (own_n0_64 q4)), .val (.int (own_n0_73 q4)), .val (.int j92_S0), .val (.int j169_L11), .unset] [(.int j190_S0)])) := by
    intro T h Lc X eT N f_a1 A_a1 j92_S0 j169_L11 j190_S0
    show own_G p e below s (own_QF (some (.int (if (own_pl f_a1 (own_n0_73 q4) j92_S0 4 (own_n0_64 q4)) = j190_S0 then (own_v0_213 f_a1 q0 q1 q2 q3 q4 j92_S0 j169_L11 j190_S0 (1 : Int32)) else (own_v0_213 f_a1 q0 q1 q2 q3 q4 j92_S0 j169_L11 j190_S0 (0 : Int32))))) n0) room_1.cells room_1.slots (T.setTop (mkF m 190 #[.val (.int q0), .val (.int q1), .val (.int q2), .val (.int q3), .val (.int q4), .val (.ref a1), .val (.int (own_n0_44 q4)), .val (.int (own_n0_55 q4)), .val (.int (own_n0_64 q4)), .val (.int (own_n0_73 q4)), .val (.int j92_S0), .val (.int j169_L11), .unset] [(.int j190_S0)]))
    refine own_go (fun _ => XS.istore X.here hx rfl (hb hby at_190) rfl (l' := #[.val (.int q0), .val (.int q1), .val (.int q2), .val (.int q3), .val (.int q4), .val (.ref a1), .val (.int (own_n0_44 q4)), .val (.int (own_n0_55 q4)), .val (.int (own_n0_64 q4)), .val (.int (own_n0_73 q4)), .val (.int j92_S0), .val (.int j169_L11), .val (.int j190_S0)]) rfl) ?_
    show own_G p e below s _ _ _ (T.setTop (mkF m 192 #[.val (.int q0), .val (.int q1), .val (.int q2), .val (.int q3), .val (.int q4), .val (.ref a1), .val (.int (own_n0_44 q4)), .val (.int (own_n0_55 q4)), .val (.int (own_n0_64 q4)), .val (.int (own_n0_73 q4)), .val (.int j92_S0), .val (.int j169_L11), .val (.int j190_S0)] []))
    refine own_go (fun _ => XS.aload X.here hx rfl (hb hby at_192) rfl rfl) ?_
    show own_G p e below s _ _ _ (T.setTop (mkF m 194 #[.val (.int q0), .val (.int q1), .val (.int q2), .val (.int q3), .val (.int q4), .val (.ref a1), .val (.int (own_n0_44 q4)), .val (.int (own_n0_55 q4)), .val (.int (own_n0_64 q4)), .val (.int (own_n0_73 q4)), .val (.int j92_S0), .val (.int j169_L11), .val (.int j190_S0)] [(.ref a1)]))
    refine own_go (fun _ => XS.iload X.here hx rfl (hb hby at_194) rfl) ?_
    show own_G p e below s _ _ _ (T.setTop (mkF m 196 #[.val (.int q0), .val (.int q1), .val (.int q2), .val (.int q3), .val (.int q4), .val (.ref a1), .val (.int (own_n0_44 q4)), .val (.int (own_n0_55 q4)), .val (.int (own_n0_64 q4)), .val (.int (own_n0_73 q4)), .val (.int j92_S0), .val (.int j169_L11), .val (.int j190_S0)] [(.int (own_n0_64 q4)), (.ref a1)]))
    refine own_go (fun _ => XS.iload X.here hx rfl (hb hby at_196) rfl) ?_
    show own_G p e below s _ _ _ (T.setTop (mkF m 198 #[.val (.int q0), .val (.int q1), .val (.int q2), .val (.int q3), .val (.int q4), .val (.ref a1), .val (.int (own_n0_44 q4)), .val (.int (own_n0_55 q4)), .val (.int (own_n0_64 q4)), .val (.int (own_n0_73 q4)), .val (.int j92_S0), .val (.int j169_L11), .val (.int j190_S0)] [(.int (own_n0_73 q4)), (.int (own_n0_64 q4)), (.ref a1)]))
    refine own_go (fun _ => XS.iload X.here hx rfl (hb hby at_198) rfl) ?_
    show own_G p e below s _ _ _ (T.setTop (mkF m 200 #[.val (.int q0), .val (.int q1), .val (.int q2), .val (.int q3), .val (.int q4), .val (.ref a1), .val (.int (own_n0_44 q4)), .val (.int (own_n0_55 q4)), .val (.int (own_n0_64 q4)), .val (.int (own_n0_73 q4)), .val (.int j92_S0), .val (.int j169_L11), .val (.int j190_S0)] [(.int j92_S0), (.int (own_n0_73 q4)), (.int (own_n0_64 q4)), (.ref a1)]))
    obtain ⟨T12, X12, e12, st12⟩ := own_call X hx hZ hown (hw _ (List.mem_of_getElem? (i := 16) rfl)) (hw _ (List.mem_of_getElem? (i := 17) rfl)) (hw _ (List.mem_of_getElem? (i := 18) rfl)) (hw _ (List.mem_of_getElem? (i := 19) rfl)) (by decide) (rm5 l Z a0 hw [] a1 (own_n0_64 q4) (own_n0_73 q4) j92_S0 h _ A_a1 (own_from0 q4) (own_lim4 q4) (own_fk q4)) rfl rfl eT (W := 0) (by decide) (by decide) (by decide) (by decide) (g := (mkF m 200 #[.val (.int q0), .val (.int q1), .val (.int q2), .val (.int q3), .val (.int q4), .val (.ref a1), .val (.int (own_n0_44 q4)), .val (.int (own_n0_55 q4)), .val (.int (own_n0_64 q4)), .val (.int (own_n0_73 q4)), .val (.int j92_S0), .val (.int j169_L11), .val (.int j190_S0)] [(.int j92_S0), (.int (own_n0_73 q4)), (.int (own_n0_64 q4)), (.ref a1)])) rfl (by rw [hml]; rfl) (argsL := [(.ref a1), (.int (own_n0_64 q4)), (.int (own_n0_73 q4)), (.int j92_S0)]) (rest := []) (lenOf (by decide +kernel : parseMethodDescriptor "([CIIC)I" = some ⟨[(.array .char), .int, .int, .char], some .int⟩) rfl) rfl rfl (by show 2 * 0 + _ ≤ _; exact Nat.le_of_eq rfl) (hb hby at_200)
    refine own_go (fun _ => st12 _) ?_
    show own_G p e below s _ _ _ (T12.setTop (mkF m 203 #[.val (.int q0), .val (.int q1), .val (.int q2), .val (.int q3), .val (.int q4), .val (.ref a1), .val (.int (own_n0_44 q4)), .val (.int (own_n0_55 q4)), .val (.int (own_n0_64 q4)), .val (.int (own_n0_73 q4)), .val (.int j92_S0), .val (.int j169_L11), .val (.int j190_S0)] [(.int (own_pl f_a1 (own_n0_73 q4) j92_S0 4 (own_n0_64 q4)))]))
    refine own_go (fun _ => XS.iload X12.here hx rfl (hb hby at_203) rfl) ?_
    show own_G p e below s _ _ _ (T12.setTop (mkF m 205 #[.val (.int q0), .val (.int q1), .val (.int q2), .val (.int q3), .val (.int q4), .val (.ref a1), .val (.int (own_n0_44 q4)), .val (.int (own_n0_55 q4)), .val (.int (own_n0_64 q4)), .val (.int (own_n0_73 q4)), .val (.int j92_S0), .val (.int j169_L11), .val (.int j190_S0)] [(.int j190_S0), (.int (own_pl f_a1 (own_n0_73 q4) j92_S0 4 (own_n0_64 q4)))]))
    by_cases hc205 : (own_pl f_a1 (own_n0_73 q4) j92_S0 4 (own_n0_64 q4)) = j190_S0
    · refine own_eqF (if_pos hc205) ?_
      refine own_go (fun _ => XS.icmpNo X12.here hx rfl (hb hby at_205) rfl (teq hc205).2) ?_
      show own_G p e below s _ _ _ (T12.setTop (mkF m 208 #[.val (.int q0), .val (.int q1), .val (.int q2), .val (.int q3), .val (.int q4), .val (.ref a1), .val (.int (own_n0_44 q4)), .val (.int (own_n0_55 q4)), .val (.int (own_n0_64 q4)), .val (.int (own_n0_73 q4)), .val (.int j92_S0), .val (.int j169_L11), .val (.int j190_S0)] []))
      refine own_go (fun _ => XS.iconst X12.here hx rfl (hb hby at_208)) ?_
      show own_G p e below s _ _ _ (T12.setTop (mkF m 209 #[.val (.int q0), .val (.int q1), .val (.int q2), .val (.int q3), .val (.int q4), .val (.ref a1), .val (.int (own_n0_44 q4)), .val (.int (own_n0_55 q4)), .val (.int (own_n0_64 q4)), .val (.int (own_n0_73 q4)), .val (.int j92_S0), .val (.int j169_L11), .val (.int j190_S0)] [(.int (1 : Int32))]))
      refine own_go (fun _ => XS.goto X12.here hx rfl (pc0 := 209) (pc' := 213) rfl (hb hby at_209) (by decide) (by decide)) ?_
      exact b213 T12 h Lc X12 e12 N f_a1 A_a1 j92_S0 j169_L11 j190_S0 (1 : Int32)
    · refine own_eqF (if_neg hc205) ?_
      refine own_go (fun _ => XS.icmpYes X12.here hx rfl (pc0 := 205) (pc' := 212) rfl (hb hby at_205) rfl (feq hc205).2 (by decide) (by decide)) ?_
      show own_G p e below s _ _ _ (T12.setTop (mkF m 212 #[.val (.int q0), .val (.int q1), .val (.int q2), .val (.int q3), .val (.int q4), .val (.ref a1), .val (.int (own_n0_44 q4)), .val (.int (own_n0_55 q4)), .val (.int (own_n0_64 q4)), .val (.int (own_n0_73 q4)), .val (.int j92_S0), .val (.int j169_L11), .val (.int j190_S0)] []))
      refine own_go (fun _ => XS.iconst X12.here hx rfl (hb hby at_212)) ?_
      exact b213 T12 h Lc X12 e12 N f_a1 A_a1 j92_S0 j169_L11 j190_S0 (0 : Int32)
  have b189 : ∀ (T : State) (h : Heap) (Lc : List Loc), Stand p l e room_1 s m #[(.int q0), (.int q1), (.int q2), (.int q3), (.int q4)] below meth c T Lc (0 + 1) (0 + 4) → T.heap = h → Fr n0 Lc → ∀ (f_a1 : Int32 → Int32), own_A Z h a1 .char (4 : Int32) f_a1 → ∀ (j92_S0 : Int32) (j169_L11 : Int32), own_G p e below s (own_QF (some (.int (own_v0_189 f_a1 q0 q1 q2 q3 q4 j92_S0 j169_L11))) n0) room_1.cells room_1.slots (T.setTop (mkF m 189 #[.val (.int q0), .val (.int q1), .val (.int q2), .val (.int q3), .val (.int q4), .val (.ref a1), .val (.int (own_n0_44 q4)), .val (.int (own_n0_55 q4)), .val (.int (own_n0_64 q4)), .val (.int (own_n0_73 q4)), .val (.int j92_S0), .val (.int j169_L11), .unset] [])) := by
    intro T h Lc X eT N f_a1 A_a1 j92_S0 j169_L11
    show own_G p e below s (own_QF (some (.int (own_v0_190 f_a1 q0 q1 q2 q3 q4 j92_S0 j169_L11 (-1 : Int32)))) n0) room_1.cells room_1.slots (T.setTop (mkF m 189 #[.val (.int q0), .val (.int q1), .val (.int q2), .val (.int q3), .val (.int q4), .val (.ref a1), .val (.int (own_n0_44 q4)), .val (.int (own_n0_55 q4)), .val (.int (own_n0_64 q4)), .val (.int (own_n0_73 q4)), .val (.int j92_S0), .val (.int j169_L11), .unset] []))
    refine own_go (fun _ => XS.iconst X.here hx rfl (hb hby at_189)) ?_
    exact b190 T h Lc X eT N f_a1 A_a1 j92_S0 j169_L11 (-1 : Int32)
  have b169 : ∀ (T : State) (h : Heap) (Lc : List Loc), Stand p l e room_1 s m #[(.int q0), (.int q1), (.int q2), (.int q3), (.int q4)] below meth c T Lc (0 + 1) (0 + 4) → T.heap = h → Fr n0 Lc → ∀ (f_a1 : Int32 → Int32), own_A Z h a1 .char (4 : Int32) f_a1 → ∀ (j92_S0 : Int32) (j169_L11 : Int32), j169_L11 < (4 : Int32) → own_G p e below s (own_QF (some (.int (own_v0_169 f_a1 q0 q1 q2 q3 q4 j92_S0 j169_L11))) n0) room_1.cells room_1.slots (T.setTop (mkF m 169 #[.val (.int q0), .val (.int q1), .val (.int q2), .val (.int q3), .val (.int q4), .val (.ref a1), .val (.int (own_n0_44 q4)), .val (.int (own_n0_55 q4)), .val (.int (own_n0_64 q4)), .val (.int (own_n0_73 q4)), .val (.int j92_S0), .val (.int j169_L11), .unset] [])) := by
    intro T h Lc X eT N f_a1 A_a1 j92_S0 j169_L11 h169
    show own_G p e below s (own_QF (some (.int (if j169_L11 < (0 : Int32) then (own_v0_189 f_a1 q0 q1 q2 q3 q4 j92_S0 j169_L11) else (if (f_a1 j169_L11) = j92_S0 then (own_v0_190 f_a1 q0 q1 q2 q3 q4 j92_S0 j169_L11 j169_L11) else (own_v0_189 f_a1 q0 q1 q2 q3 q4 j92_S0 j169_L11))))) n0) room_1.cells room_1.slots (T.setTop (mkF m 169 #[.val (.int q0), .val (.int q1), .val (.int q2), .val (.int q3), .val (.int q4), .val (.ref a1), .val (.int (own_n0_44 q4)), .val (.int (own_n0_55 q4)), .val (.int (own_n0_64 q4)), .val (.int (own_n0_73 q4)), .val (.int j92_S0), .val (.int j169_L11), .unset] []))
    refine own_go (fun _ => XS.iload X.here hx rfl (hb hby at_169) rfl) ?_
    show own_G p e below s _ _ _ (T.setTop (mkF m 171 #[.val (.int q0), .val (.int q1), .val (.int q2), .val (.int q3), .val (.int q4), .val (.ref a1), .val (.int (own_n0_44 q4)), .val (.int (own_n0_55 q4)), .val (.int (own_n0_64 q4)), .val (.int (own_n0_73 q4)), .val (.int j92_S0), .val (.int j169_L11), .unset] [(.int j169_L11)]))
    by_cases hc171 : j169_L11 < (0 : Int32)
    · refine own_eqF (if_pos hc171) ?_
      refine own_go (fun _ => XS.ifYes X.here hx rfl (pc0 := 171) (pc' := 189) rfl (hb hby at_171) rfl ((if0 _ _).trans (tlt hc171).1) (by decide) (by decide)) ?_
      exact b189 T h Lc X eT N f_a1 A_a1 j92_S0 j169_L11
    · refine own_eqF (if_neg hc171) ?_
      refine own_go (fun _ => XS.ifNo X.here hx rfl (hb hby at_171) rfl ((if0 _ _).trans (flt hc171).1)) ?_
      show own_G p e below s _ _ _ (T.setTop (mkF m 174 #[.val (.int q0), .val (.int q1), .val (.int q2), .val (.int q3), .val (.int q4), .val (.ref a1), .val (.int (own_n0_44 q4)), .val (.int (own_n0_55 q4)), .val (.int (own_n0_64 q4)), .val (.int (own_n0_73 q4)), .val (.int j92_S0), .val (.int j169_L11), .unset] []))
      refine own_go (fun _ => XS.aload X.here hx rfl (hb hby at_174) rfl rfl) ?_
      show own_G p e below s _ _ _ (T.setTop (mkF m 176 #[.val (.int q0), .val (.int q1), .val (.int q2), .val (.int q3), .val (.int q4), .val (.ref a1), .val (.int (own_n0_44 q4)), .val (.int (own_n0_55 q4)), .val (.int (own_n0_64 q4)), .val (.int (own_n0_73 q4)), .val (.int j92_S0), .val (.int j169_L11), .unset] [(.ref a1)]))
      refine own_go (fun _ => XS.iload X.here hx rfl (hb hby at_176) rfl) ?_
      show own_G p e below s _ _ _ (T.setTop (mkF m 178 #[.val (.int q0), .val (.int q1), .val (.int q2), .val (.int q3), .val (.int q4), .val (.ref a1), .val (.int (own_n0_44 q4)), .val (.int (own_n0_55 q4)), .val (.int (own_n0_64 q4)), .val (.int (own_n0_73 q4)), .val (.int j92_S0), .val (.int j169_L11), .unset] [(.int j169_L11), (.ref a1)]))
      refine own_go (fun _ => own_ldC X hx hZ eT A_a1 hc171 h169 (g := (mkF m 178 #[.val (.int q0), .val (.int q1), .val (.int q2), .val (.int q3), .val (.int q4), .val (.ref a1), .val (.int (own_n0_44 q4)), .val (.int (own_n0_55 q4)), .val (.int (own_n0_64 q4)), .val (.int (own_n0_73 q4)), .val (.int j92_S0), .val (.int j169_L11), .unset] [(.int j169_L11), (.ref a1)])) rfl rfl (hb hby at_178) _) ?_
      show own_G p e below s _ _ _ (T.setTop (mkF m 179 #[.val (.int q0), .val (.int q1), .val (.int q2), .val (.int q3), .val (.int q4), .val (.ref a1), .val (.int (own_n0_44 q4)), .val (.int (own_n0_55 q4)), .val (.int (own_n0_64 q4)), .val (.int (own_n0_73 q4)), .val (.int j92_S0), .val (.int j169_L11), .unset] [(.int (f_a1 j169_L11))]))
      refine own_go (fun _ => XS.iload X.here hx rfl (hb hby at_179) rfl) ?_
      show own_G p e below s _ _ _ (T.setTop (mkF m 181 #[.val (.int q0), .val (.int q1), .val (.int q2), .val (.int q3), .val (.int q4), .val (.ref a1), .val (.int (own_n0_44 q4)), .val (.int (own_n0_55 q4)), .val (.int (own_n0_64 q4)), .val (.int (own_n0_73 q4)), .val (.int j92_S0), .val (.int j169_L11), .unset] [(.int j92_S0), (.int (f_a1 j169_L11))]))
      by_cases hc181 : (f_a1 j169_L11) = j92_S0
      · refine own_eqF (if_pos hc181) ?_
        refine own_go (fun _ => XS.icmpNo X.here hx rfl (hb hby at_181) rfl (teq hc181).2) ?_
        show own_G p e below s _ _ _ (T.setTop (mkF m 184 #[.val (.int q0), .val (.int q1), .val (.int q2), .val (.int q3), .val (.int q4), .val (.ref a1), .val (.int (own_n0_44 q4)), .val (.int (own_n0_55 q4)), .val (.int (own_n0_64 q4)), .val (.int (own_n0_73 q4)), .val (.int j92_S0), .val (.int j169_L11), .unset] []))
        refine own_go (fun _ => XS.iload X.here hx rfl (hb hby at_184) rfl) ?_
        show own_G p e below s _ _ _ (T.setTop (mkF m 186 #[.val (.int q0), .val (.int q1), .val (.int q2), .val (.int q3), .val (.int q4), .val (.ref a1), .val (.int (own_n0_44 q4)), .val (.int (own_n0_55 q4)), .val (.int (own_n0_64 q4)), .val (.int (own_n0_73 q4)), .val (.int j92_S0), .val (.int j169_L11), .unset] [(.int j169_L11)]))
        refine own_go (fun _ => XS.goto X.here hx rfl (pc0 := 186) (pc' := 190) rfl (hb hby at_186) (by decide) (by decide)) ?_
        exact b190 T h Lc X eT N f_a1 A_a1 j92_S0 j169_L11 j169_L11
      · refine own_eqF (if_neg hc181) ?_
        refine own_go (fun _ => XS.icmpYes X.here hx rfl (pc0 := 181) (pc' := 189) rfl (hb hby at_181) rfl (feq hc181).2 (by decide) (by decide)) ?_
        exact b189 T h Lc X eT N f_a1 A_a1 j92_S0 j169_L11
  have b151 : ∀ (T : State) (h : Heap) (Lc : List Loc), Stand p l e room_1 s m #[(.int q0), (.int q1), (.int q2), (.int q3), (.int q4)] below meth c T Lc (0 + 1) (0 + 4) → T.heap = h → Fr n0 Lc → ∀ (f_a1 : Int32 → Int32), own_A Z h a1 .char (4 : Int32) f_a1 → ∀ (j92_S0 : Int32) (j151_L11 : Int32), j151_L11 < (4 : Int32) → own_G p e below s (own_QF (some (.int (own_v0_151 f_a1 q0 q1 q2 q3 q4 j92_S0 j151_L11))) n0) room_1.cells room_1.slots (T.setTop (mkF m 151 #[.val (.int q0), .val (.int q1), .val (.int q2), .val (.int q3), .val (.int q4), .val (.ref a1), .val (.int (own_n0_44 q4)), .val (.int (own_n0_55 q4)), .val (.int (own_n0_64 q4)), .val (.int (own_n0_73 q4)), .val (.int j92_S0), .val (.int j151_L11), .unset] [])) := by
    intro T h Lc X eT N f_a1 A_a1 j92_S0 j151_L11 h151
    show own_G p e below s (own_QF (some (.int (if (own_v4_0 f_a1 (0 : Int32) (own_n0_64 q4) (own_n0_73 q4) j92_S0) = (0 : Int32) then (own_v0_169 f_a1 q0 q1 q2 q3 q4 j92_S0 j151_L11) else (own_v0_169 f_a1 q0 q1 q2 q3 q4 j92_S0 (0 : Int32))))) n0) room_1.cells room_1.slots (T.setTop (mkF m 151 #[.val (.int q0), .val (.int q1), .val (.int q2), .val (.int q3), .val (.int q4), .val (.ref a1), .val (.int (own_n0_44 q4)), .val (.int (own_n0_55 q4)), .val (.int (own_n0_64 q4)), .val (.int (own_n0_73 q4)), .val (.int j92_S0), .val (.int j151_L11), .unset] []))
    refine own_go (fun _ => XS.aload X.here hx rfl (hb hby at_151) rfl rfl) ?_
    show own_G p e below s _ _ _ (T.setTop (mkF m 153 #[.val (.int q0), .val (.int q1), .val (.int q2), .val (.int q3), .val (.int q4), .val (.ref a1), .val (.int (own_n0_44 q4)), .val (.int (own_n0_55 q4)), .val (.int (own_n0_64 q4)), .val (.int (own_n0_73 q4)), .val (.int j92_S0), .val (.int j151_L11), .unset] [(.ref a1)]))
    refine own_go (fun _ => XS.iconst X.here hx rfl (hb hby at_153)) ?_
    show own_G p e below s _ _ _ (T.setTop (mkF m 154 #[.val (.int q0), .val (.int q1), .val (.int q2), .val (.int q3), .val (.int q4), .val (.ref a1), .val (.int (own_n0_44 q4)), .val (.int (own_n0_55 q4)), .val (.int (own_n0_64 q4)), .val (.int (own_n0_73 q4)), .val (.int j92_S0), .val (.int j151_L11), .unset] [(.int (0 : Int32)), (.ref a1)]))
    refine own_go (fun _ => XS.iload X.here hx rfl (hb hby at_154) rfl) ?_
    show own_G p e below s _ _ _ (T.setTop (mkF m 156 #[.val (.int q0), .val (.int q1), .val (.int q2), .val (.int q3), .val (.int q4), .val (.ref a1), .val (.int (own_n0_44 q4)), .val (.int (own_n0_55 q4)), .val (.int (own_n0_64 q4)), .val (.int (own_n0_73 q4)), .val (.int j92_S0), .val (.int j151_L11), .unset] [(.int (own_n0_64 q4)), (.int (0 : Int32)), (.ref a1)]))
    refine own_go (fun _ => XS.iload X.here hx rfl (hb hby at_156) rfl) ?_
    show own_G p e below s _ _ _ (T.setTop (mkF m 158 #[.val (.int q0), .val (.int q1), .val (.int q2), .val (.int q3), .val (.int q4), .val (.ref a1), .val (.int (own_n0_44 q4)), .val (.int (own_n0_55 q4)), .val (.int (own_n0_64 q4)), .val (.int (own_n0_73 q4)), .val (.int j92_S0), .val (.int j151_L11), .unset] [(.int (own_n0_73 q4)), (.int (own_n0_64 q4)), (.int (0 : Int32)), (.ref a1)]))
    refine own_go (fun _ => XS.iload X.here hx rfl (hb hby at_158) rfl) ?_
    show own_G p e below s _ _ _ (T.setTop (mkF m 160 #[.val (.int q0), .val (.int q1), .val (.int q2), .val (.int q3), .val (.int q4), .val (.ref a1), .val (.int (own_n0_44 q4)), .val (.int (own_n0_55 q4)), .val (.int (own_n0_64 q4)), .val (.int (own_n0_73 q4)), .val (.int j92_S0), .val (.int j151_L11), .unset] [(.int j92_S0), (.int (own_n0_73 q4)), (.int (own_n0_64 q4)), (.int (0 : Int32)), (.ref a1)]))
    obtain ⟨T12, X12, e12, st12⟩ := own_call X hx hZ hown (hw _ (List.mem_of_getElem? (i := 13) rfl)) (hw _ (List.mem_of_getElem? (i := 14) rfl)) (hw _ (List.mem_of_getElem? (i := 3) rfl)) (hw _ (List.mem_of_getElem? (i := 15) rfl)) (by decide) (rm4 l Z a0 hw [] a1 (0 : Int32) (own_n0_64 q4) (own_n0_73 q4) j92_S0 h _ A_a1 (by decide) (by decide)) rfl rfl eT (W := 0) (by decide) (by decide) (by decide) (by decide) (g := (mkF m 160 #[.val (.int q0), .val (.int q1), .val (.int q2), .val (.int q3), .val (.int q4), .val (.ref a1), .val (.int (own_n0_44 q4)), .val (.int (own_n0_55 q4)), .val (.int (own_n0_64 q4)), .val (.int (own_n0_73 q4)), .val (.int j92_S0), .val (.int j151_L11), .unset] [(.int j92_S0), (.int (own_n0_73 q4)), (.int (own_n0_64 q4)), (.int (0 : Int32)), (.ref a1)])) rfl (by rw [hml]; rfl) (argsL := [(.ref a1), (.int (0 : Int32)), (.int (own_n0_64 q4)), (.int (own_n0_73 q4)), (.int j92_S0)]) (rest := []) (lenOf (by decide +kernel : parseMethodDescriptor "([CIIIC)Z" = some ⟨[(.array .char), .int, .int, .int, .char], some .boolean⟩) rfl) rfl rfl (by show 2 * 0 + _ ≤ _; exact Nat.le_of_eq rfl) (hb hby at_160)
    refine own_go (fun _ => st12 _) ?_
    show own_G p e below s _ _ _ (T12.setTop (mkF m 163 #[.val (.int q0), .val (.int q1), .val (.int q2), .val (.int q3), .val (.int q4), .val (.ref a1), .val (.int (own_n0_44 q4)), .val (.int (own_n0_55 q4)), .val (.int (own_n0_64 q4)), .val (.int (own_n0_73 q4)), .val (.int j92_S0), .val (.int j151_L11), .unset] [(.int (own_v4_0 f_a1 (0 : Int32) (own_n0_64 q4) (own_n0_73 q4) j92_S0))]))
    by_cases hc163 : (own_v4_0 f_a1 (0 : Int32) (own_n0_64 q4) (own_n0_73 q4) j92_S0) = (0 : Int32)
    · refine own_eqF (if_pos hc163) ?_
      refine own_go (fun _ => XS.ifYes X12.here hx rfl (pc0 := 163) (pc' := 169) rfl (hb hby at_163) rfl ((if0 _ _).trans (teq hc163).1) (by decide) (by decide)) ?_
      exact b169 T12 h Lc X12 e12 N f_a1 A_a1 j92_S0 j151_L11 h151
    · refine own_eqF (if_neg hc163) ?_
      refine own_go (fun _ => XS.ifNo X12.here hx rfl (hb hby at_163) rfl ((if0 _ _).trans (feq hc163).1)) ?_
      show own_G p e below s _ _ _ (T12.setTop (mkF m 166 #[.val (.int q0), .val (.int q1), .val (.int q2), .val (.int q3), .val (.int q4), .val (.ref a1), .val (.int (own_n0_44 q4)), .val (.int (own_n0_55 q4)), .val (.int (own_n0_64 q4)), .val (.int (own_n0_73 q4)), .val (.int j92_S0), .val (.int j151_L11), .unset] []))
      refine own_go (fun _ => XS.iconst X12.here hx rfl (hb hby at_166)) ?_
      show own_G p e below s _ _ _ (T12.setTop (mkF m 167 #[.val (.int q0), .val (.int q1), .val (.int q2), .val (.int q3), .val (.int q4), .val (.ref a1), .val (.int (own_n0_44 q4)), .val (.int (own_n0_55 q4)), .val (.int (own_n0_64 q4)), .val (.int (own_n0_73 q4)), .val (.int j92_S0), .val (.int j151_L11), .unset] [(.int (0 : Int32))]))
      refine own_go (fun _ => XS.istore X12.here hx rfl (hb hby at_167) rfl (l' := #[.val (.int q0), .val (.int q1), .val (.int q2), .val (.int q3), .val (.int q4), .val (.ref a1), .val (.int (own_n0_44 q4)), .val (.int (own_n0_55 q4)), .val (.int (own_n0_64 q4)), .val (.int (own_n0_73 q4)), .val (.int j92_S0), .val (.int (0 : Int32)), .unset]) rfl) ?_
      exact b169 T12 h Lc X12 e12 N f_a1 A_a1 j92_S0 (0 : Int32) (by decide)
  have b133 : ∀ (T : State) (h : Heap) (Lc : List Loc), Stand p l e room_1 s m #[(.int q0), (.int q1), (.int q2), (.int q3), (.int q4)] below meth c T Lc (0 + 1) (0 + 4) → T.heap = h → Fr n0 Lc → ∀ (f_a1 : Int32 → Int32), own_A Z h a1 .char (4 : Int32) f_a1 → ∀ (j92_S0 : Int32) (j133_L11 : Int32), j133_L11 < (4 : Int32) → own_G p e below s (own_QF (some (.int (own_v0_133 f_a1 q0 q1 q2 q3 q4 j92_S0 j133_L11))) n0) room_1.cells room_1.slots (T.setTop (mkF m 133 #[.val (.int q0), .val (.int q1), .val (.int q2), .val (.int q3), .val (.int q4), .val (.ref a1), .val (.int (own_n0_44 q4)), .val (.int (own_n0_55 q4)), .val (.int (own_n0_64 q4)), .val (.int (own_n0_73 q4)), .val (.int j92_S0), .val (.int j133_L11), .unset] [])) := by
    intro T h Lc X eT N f_a1 A_a1 j92_S0 j133_L11 h133
    show own_G p e below s (own_QF (some (.int (if (own_v4_0 f_a1 (1 : Int32) (own_n0_64 q4) (own_n0_73 q4) j92_S0) = (0 : Int32) then (own_v0_151 f_a1 q0 q1 q2 q3 q4 j92_S0 j133_L11) else (own_v0_151 f_a1 q0 q1 q2 q3 q4 j92_S0 (1 : Int32))))) n0) room_1.cells room_1.slots (T.setTop (mkF m 133 #[.val (.int q0), .val (.int q1), .val (.int q2), .val (.int q3), .val (.int q4), .val (.ref a1), .val (.int (own_n0_44 q4)), .val (.int (own_n0_55 q4)), .val (.int (own_n0_64 q4)), .val (.int (own_n0_73 q4)), .val (.int j92_S0), .val (.int j133_L11), .unset] []))
    refine own_go (fun _ => XS.aload X.here hx rfl (hb hby at_133) rfl rfl) ?_
    show own_G p e below s _ _ _ (T.setTop (mkF m 135 #[.val (.int q0), .val (.int q1), .val (.int q2), .val (.int q3), .val (.int q4), .val (.ref a1), .val (.int (own_n0_44 q4)), .val (.int (own_n0_55 q4)), .val (.int (own_n0_64 q4)), .val (.int (own_n0_73 q4)), .val (.int j92_S0), .val (.int j133_L11), .unset] [(.ref a1)]))
    refine own_go (fun _ => XS.iconst X.here hx rfl (hb hby at_135)) ?_
    show own_G p e below s _ _ _ (T.setTop (mkF m 136 #[.val (.int q0), .val (.int q1), .val (.int q2), .val (.int q3), .val (.int q4), .val (.ref a1), .val (.int (own_n0_44 q4)), .val (.int (own_n0_55 q4)), .val (.int (own_n0_64 q4)), .val (.int (own_n0_73 q4)), .val (.int j92_S0), .val (.int j133_L11), .unset] [(.int (1 : Int32)), (.ref a1)]))
    refine own_go (fun _ => XS.iload X.here hx rfl (hb hby at_136) rfl) ?_
    show own_G p e below s _ _ _ (T.setTop (mkF m 138 #[.val (.int q0), .val (.int q1), .val (.int q2), .val (.int q3), .val (.int q4), .val (.ref a1), .val (.int (own_n0_44 q4)), .val (.int (own_n0_55 q4)), .val (.int (own_n0_64 q4)), .val (.int (own_n0_73 q4)), .val (.int j92_S0), .val (.int j133_L11), .unset] [(.int (own_n0_64 q4)), (.int (1 : Int32)), (.ref a1)]))
    refine own_go (fun _ => XS.iload X.here hx rfl (hb hby at_138) rfl) ?_
    show own_G p e below s _ _ _ (T.setTop (mkF m 140 #[.val (.int q0), .val (.int q1), .val (.int q2), .val (.int q3), .val (.int q4), .val (.ref a1), .val (.int (own_n0_44 q4)), .val (.int (own_n0_55 q4)), .val (.int (own_n0_64 q4)), .val (.int (own_n0_73 q4)), .val (.int j92_S0), .val (.int j133_L11), .unset] [(.int (own_n0_73 q4)), (.int (own_n0_64 q4)), (.int (1 : Int32)), (.ref a1)]))
    refine own_go (fun _ => XS.iload X.here hx rfl (hb hby at_140) rfl) ?_
    show own_G p e below s _ _ _ (T.setTop (mkF m 142 #[.val (.int q0), .val (.int q1), .val (.int q2), .val (.int q3), .val (.int q4), .val (.ref a1), .val (.int (own_n0_44 q4)), .val (.int (own_n0_55 q4)), .val (.int (own_n0_64 q4)), .val (.int (own_n0_73 q4)), .val (.int j92_S0), .val (.int j133_L11), .unset] [(.int j92_S0), (.int (own_n0_73 q4)), (.int (own_n0_64 q4)), (.int (1 : Int32)), (.ref a1)]))
    obtain ⟨T12, X12, e12, st12⟩ := own_call X hx hZ hown (hw _ (List.mem_of_getElem? (i := 13) rfl)) (hw _ (List.mem_of_getElem? (i := 14) rfl)) (hw _ (List.mem_of_getElem? (i := 3) rfl)) (hw _ (List.mem_of_getElem? (i := 15) rfl)) (by decide) (rm4 l Z a0 hw [] a1 (1 : Int32) (own_n0_64 q4) (own_n0_73 q4) j92_S0 h _ A_a1 (by decide) (by decide)) rfl rfl eT (W := 0) (by decide) (by decide) (by decide) (by decide) (g := (mkF m 142 #[.val (.int q0), .val (.int q1), .val (.int q2), .val (.int q3), .val (.int q4), .val (.ref a1), .val (.int (own_n0_44 q4)), .val (.int (own_n0_55 q4)), .val (.int (own_n0_64 q4)), .val (.int (own_n0_73 q4)), .val (.int j92_S0), .val (.int j133_L11), .unset] [(.int j92_S0), (.int (own_n0_73 q4)), (.int (own_n0_64 q4)), (.int (1 : Int32)), (.ref a1)])) rfl (by rw [hml]; rfl) (argsL := [(.ref a1), (.int (1 : Int32)), (.int (own_n0_64 q4)), (.int (own_n0_73 q4)), (.int j92_S0)]) (rest := []) (lenOf (by decide +kernel : parseMethodDescriptor "([CIIIC)Z" = some ⟨[(.array .char), .int, .int, .int, .char], some .boolean⟩) rfl) rfl rfl (by show 2 * 0 + _ ≤ _; exact Nat.le_of_eq rfl) (hb hby at_142)
    refine own_go (fun _ => st12 _) ?_
    show own_G p e below s _ _ _ (T12.setTop (mkF m 145 #[.val (.int q0), .val (.int q1), .val (.int q2), .val (.int q3), .val (.int q4), .val (.ref a1), .val (.int (own_n0_44 q4)), .val (.int (own_n0_55 q4)), .val (.int (own_n0_64 q4)), .val (.int (own_n0_73 q4)), .val (.int j92_S0), .val (.int j133_L11), .unset] [(.int (own_v4_0 f_a1 (1 : Int32) (own_n0_64 q4) (own_n0_73 q4) j92_S0))]))
    by_cases hc145 : (own_v4_0 f_a1 (1 : Int32) (own_n0_64 q4) (own_n0_73 q4) j92_S0) = (0 : Int32)
    · refine own_eqF (if_pos hc145) ?_
      refine own_go (fun _ => XS.ifYes X12.here hx rfl (pc0 := 145) (pc' := 151) rfl (hb hby at_145) rfl ((if0 _ _).trans (teq hc145).1) (by decide) (by decide)) ?_
      exact b151 T12 h Lc X12 e12 N f_a1 A_a1 j92_S0 j133_L11 h133
    · refine own_eqF (if_neg hc145) ?_
      refine own_go (fun _ => XS.ifNo X12.here hx rfl (hb hby at_145) rfl ((if0 _ _).trans (feq hc145).1)) ?_
      show own_G p e below s _ _ _ (T12.setTop (mkF m 148 #[.val (.int q0), .val (.int q1), .val (.int q2), .val (.int q3), .val (.int q4), .val (.ref a1), .val (.int (own_n0_44 q4)), .val (.int (own_n0_55 q4)), .val (.int (own_n0_64 q4)), .val (.int (own_n0_73 q4)), .val (.int j92_S0), .val (.int j133_L11), .unset] []))
      refine own_go (fun _ => XS.iconst X12.here hx rfl (hb hby at_148)) ?_
      show own_G p e below s _ _ _ (T12.setTop (mkF m 149 #[.val (.int q0), .val (.int q1), .val (.int q2), .val (.int q3), .val (.int q4), .val (.ref a1), .val (.int (own_n0_44 q4)), .val (.int (own_n0_55 q4)), .val (.int (own_n0_64 q4)), .val (.int (own_n0_73 q4)), .val (.int j92_S0), .val (.int j133_L11), .unset] [(.int (1 : Int32))]))
      refine own_go (fun _ => XS.istore X12.here hx rfl (hb hby at_149) rfl (l' := #[.val (.int q0), .val (.int q1), .val (.int q2), .val (.int q3), .val (.int q4), .val (.ref a1), .val (.int (own_n0_44 q4)), .val (.int (own_n0_55 q4)), .val (.int (own_n0_64 q4)), .val (.int (own_n0_73 q4)), .val (.int j92_S0), .val (.int (1 : Int32)), .unset]) rfl) ?_
      exact b151 T12 h Lc X12 e12 N f_a1 A_a1 j92_S0 (1 : Int32) (by decide)
  have b115 : ∀ (T : State) (h : Heap) (Lc : List Loc), Stand p l e room_1 s m #[(.int q0), (.int q1), (.int q2), (.int q3), (.int q4)] below meth c T Lc (0 + 1) (0 + 4) → T.heap = h → Fr n0 Lc → ∀ (f_a1 : Int32 → Int32), own_A Z h a1 .char (4 : Int32) f_a1 → ∀ (j92_S0 : Int32) (j115_L11 : Int32), j115_L11 < (4 : Int32) → own_G p e below s (own_QF (some (.int (own_v0_115 f_a1 q0 q1 q2 q3 q4 j92_S0 j115_L11))) n0) room_1.cells room_1.slots (T.setTop (mkF m 115 #[.val (.int q0), .val (.int q1), .val (.int q2), .val (.int q3), .val (.int q4), .val (.ref a1), .val (.int (own_n0_44 q4)), .val (.int (own_n0_55 q4)), .val (.int (own_n0_64 q4)), .val (.int (own_n0_73 q4)), .val (.int j92_S0), .val (.int j115_L11), .unset] [])) := by
    intro T h Lc X eT N f_a1 A_a1 j92_S0 j115_L11 h115
    show own_G p e below s (own_QF (some (.int (if (own_v4_0 f_a1 (2 : Int32) (own_n0_64 q4) (own_n0_73 q4) j92_S0) = (0 : Int32) then (own_v0_133 f_a1 q0 q1 q2 q3 q4 j92_S0 j115_L11) else (own_v0_133 f_a1 q0 q1 q2 q3 q4 j92_S0 (2 : Int32))))) n0) room_1.cells room_1.slots (T.setTop (mkF m 115 #[.val (.int q0), .val (.int q1), .val (.int q2), .val (.int q3), .val (.int q4), .val (.ref a1), .val (.int (own_n0_44 q4)), .val (.int (own_n0_55 q4)), .val (.int (own_n0_64 q4)), .val (.int (own_n0_73 q4)), .val (.int j92_S0), .val (.int j115_L11), .unset] []))
    refine own_go (fun _ => XS.aload X.here hx rfl (hb hby at_115) rfl rfl) ?_
    show own_G p e below s _ _ _ (T.setTop (mkF m 117 #[.val (.int q0), .val (.int q1), .val (.int q2), .val (.int q3), .val (.int q4), .val (.ref a1), .val (.int (own_n0_44 q4)), .val (.int (own_n0_55 q4)), .val (.int (own_n0_64 q4)), .val (.int (own_n0_73 q4)), .val (.int j92_S0), .val (.int j115_L11), .unset] [(.ref a1)]))
    refine own_go (fun _ => XS.iconst X.here hx rfl (hb hby at_117)) ?_
    show own_G p e below s _ _ _ (T.setTop (mkF m 118 #[.val (.int q0), .val (.int q1), .val (.int q2), .val (.int q3), .val (.int q4), .val (.ref a1), .val (.int (own_n0_44 q4)), .val (.int (own_n0_55 q4)), .val (.int (own_n0_64 q4)), .val (.int (own_n0_73 q4)), .val (.int j92_S0), .val (.int j115_L11), .unset] [(.int (2 : Int32)), (.ref a1)]))
    refine own_go (fun _ => XS.iload X.here hx rfl (hb hby at_118) rfl) ?_
    show own_G p e below s _ _ _ (T.setTop (mkF m 120 #[.val (.int q0), .val (.int q1), .val (.int q2), .val (.int q3), .val (.int q4), .val (.ref a1), .val (.int (own_n0_44 q4)), .val (.int (own_n0_55 q4)), .val (.int (own_n0_64 q4)), .val (.int (own_n0_73 q4)), .val (.int j92_S0), .val (.int j115_L11), .unset] [(.int (own_n0_64 q4)), (.int (2 : Int32)), (.ref a1)]))
    refine own_go (fun _ => XS.iload X.here hx rfl (hb hby at_120) rfl) ?_
    show own_G p e below s _ _ _ (T.setTop (mkF m 122 #[.val (.int q0), .val (.int q1), .val (.int q2), .val (.int q3), .val (.int q4), .val (.ref a1), .val (.int (own_n0_44 q4)), .val (.int (own_n0_55 q4)), .val (.int (own_n0_64 q4)), .val (.int (own_n0_73 q4)), .val (.int j92_S0), .val (.int j115_L11), .unset] [(.int (own_n0_73 q4)), (.int (own_n0_64 q4)), (.int (2 : Int32)), (.ref a1)]))
    refine own_go (fun _ => XS.iload X.here hx rfl (hb hby at_122) rfl) ?_
    show own_G p e below s _ _ _ (T.setTop (mkF m 124 #[.val (.int q0), .val (.int q1), .val (.int q2), .val (.int q3), .val (.int q4), .val (.ref a1), .val (.int (own_n0_44 q4)), .val (.int (own_n0_55 q4)), .val (.int (own_n0_64 q4)), .val (.int (own_n0_73 q4)), .val (.int j92_S0), .val (.int j115_L11), .unset] [(.int j92_S0), (.int (own_n0_73 q4)), (.int (own_n0_64 q4)), (.int (2 : Int32)), (.ref a1)]))
    obtain ⟨T12, X12, e12, st12⟩ := own_call X hx hZ hown (hw _ (List.mem_of_getElem? (i := 13) rfl)) (hw _ (List.mem_of_getElem? (i := 14) rfl)) (hw _ (List.mem_of_getElem? (i := 3) rfl)) (hw _ (List.mem_of_getElem? (i := 15) rfl)) (by decide) (rm4 l Z a0 hw [] a1 (2 : Int32) (own_n0_64 q4) (own_n0_73 q4) j92_S0 h _ A_a1 (by decide) (by decide)) rfl rfl eT (W := 0) (by decide) (by decide) (by decide) (by decide) (g := (mkF m 124 #[.val (.int q0), .val (.int q1), .val (.int q2), .val (.int q3), .val (.int q4), .val (.ref a1), .val (.int (own_n0_44 q4)), .val (.int (own_n0_55 q4)), .val (.int (own_n0_64 q4)), .val (.int (own_n0_73 q4)), .val (.int j92_S0), .val (.int j115_L11), .unset] [(.int j92_S0), (.int (own_n0_73 q4)), (.int (own_n0_64 q4)), (.int (2 : Int32)), (.ref a1)])) rfl (by rw [hml]; rfl) (argsL := [(.ref a1), (.int (2 : Int32)), (.int (own_n0_64 q4)), (.int (own_n0_73 q4)), (.int j92_S0)]) (rest := []) (lenOf (by decide +kernel : parseMethodDescriptor "([CIIIC)Z" = some ⟨[(.array .char), .int, .int, .int, .char], some .boolean⟩) rfl) rfl rfl (by show 2 * 0 + _ ≤ _; exact Nat.le_of_eq rfl) (hb hby at_124)
    refine own_go (fun _ => st12 _) ?_
    show own_G p e below s _ _ _ (T12.setTop (mkF m 127 #[.val (.int q0), .val (.int q1), .val (.int q2), .val (.int q3), .val (.int q4), .val (.ref a1), .val (.int (own_n0_44 q4)), .val (.int (own_n0_55 q4)), .val (.int (own_n0_64 q4)), .val (.int (own_n0_73 q4)), .val (.int j92_S0), .val (.int j115_L11), .unset] [(.int (own_v4_0 f_a1 (2 : Int32) (own_n0_64 q4) (own_n0_73 q4) j92_S0))]))
    by_cases hc127 : (own_v4_0 f_a1 (2 : Int32) (own_n0_64 q4) (own_n0_73 q4) j92_S0) = (0 : Int32)
    · refine own_eqF (if_pos hc127) ?_
      refine own_go (fun _ => XS.ifYes X12.here hx rfl (pc0 := 127) (pc' := 133) rfl (hb hby at_127) rfl ((if0 _ _).trans (teq hc127).1) (by decide) (by decide)) ?_
      exact b133 T12 h Lc X12 e12 N f_a1 A_a1 j92_S0 j115_L11 h115
    · refine own_eqF (if_neg hc127) ?_
      refine own_go (fun _ => XS.ifNo X12.here hx rfl (hb hby at_127) rfl ((if0 _ _).trans (feq hc127).1)) ?_
      show own_G p e below s _ _ _ (T12.setTop (mkF m 130 #[.val (.int q0), .val (.int q1), .val (.int q2), .val (.int q3), .val (.int q4), .val (.ref a1), .val (.int (own_n0_44 q4)), .val (.int (own_n0_55 q4)), .val (.int (own_n0_64 q4)), .val (.int (own_n0_73 q4)), .val (.int j92_S0), .val (.int j115_L11), .unset] []))
      refine own_go (fun _ => XS.iconst X12.here hx rfl (hb hby at_130)) ?_
      show own_G p e below s _ _ _ (T12.setTop (mkF m 131 #[.val (.int q0), .val (.int q1), .val (.int q2), .val (.int q3), .val (.int q4), .val (.ref a1), .val (.int (own_n0_44 q4)), .val (.int (own_n0_55 q4)), .val (.int (own_n0_64 q4)), .val (.int (own_n0_73 q4)), .val (.int j92_S0), .val (.int j115_L11), .unset] [(.int (2 : Int32))]))
      refine own_go (fun _ => XS.istore X12.here hx rfl (hb hby at_131) rfl (l' := #[.val (.int q0), .val (.int q1), .val (.int q2), .val (.int q3), .val (.int q4), .val (.ref a1), .val (.int (own_n0_44 q4)), .val (.int (own_n0_55 q4)), .val (.int (own_n0_64 q4)), .val (.int (own_n0_73 q4)), .val (.int j92_S0), .val (.int (2 : Int32)), .unset]) rfl) ?_
      exact b133 T12 h Lc X12 e12 N f_a1 A_a1 j92_S0 (2 : Int32) (by decide)
  have b92 : ∀ (T : State) (h : Heap) (Lc : List Loc), Stand p l e room_1 s m #[(.int q0), (.int q1), (.int q2), (.int q3), (.int q4)] below meth c T Lc (0 + 1) (0 + 4) → T.heap = h → Fr n0 Lc → ∀ (f_a1 : Int32 → Int32), own_A Z h a1 .char (4 : Int32) f_a1 → ∀ (j92_S0 : Int32), own_G p e below s (own_QF (some (.int (own_v0_92 f_a1 q0 q1 q2 q3 q4 j92_S0))) n0) room_1.cells room_1.slots (T.setTop (mkF m 92 #[.val (.int q0), .val (.int q1), .val (.int q2), .val (.int q3), .val (.int q4), .val (.ref a1), .val (.int (own_n0_44 q4)), .val (.int (own_n0_55 q4)), .val (.int (own_n0_64 q4)), .val (.int (own_n0_73 q4)), .unset, .unset, .unset] [(.int j92_S0)])) := by
    intro T h Lc X eT N f_a1 A_a1 j92_S0
    show own_G p e below s (own_QF (some (.int (if (own_v4_0 f_a1 (3 : Int32) (own_n0_64 q4) (own_n0_73 q4) j92_S0) = (0 : Int32) then (own_v0_115 f_a1 q0 q1 q2 q3 q4 j92_S0 (-1 : Int32)) else (own_v0_115 f_a1 q0 q1 q2 q3 q4 j92_S0 (3 : Int32))))) n0) room_1.cells room_1.slots (T.setTop (mkF m 92 #[.val (.int q0), .val (.int q1), .val (.int q2), .val (.int q3), .val (.int q4), .val (.ref a1), .val (.int (own_n0_44 q4)), .val (.int (own_n0_55 q4)), .val (.int (own_n0_64 q4)), .val (.int (own_n0_73 q4)), .unset, .unset, .unset] [(.int j92_S0)]))
    refine own_go (fun _ => XS.istore X.here hx rfl (hb hby at_92) rfl (l' := #[.val (.int q0), .val (.int q1), .val (.int q2), .val (.int q3), .val (.int q4), .val (.ref a1), .val (.int (own_n0_44 q4)), .val (.int (own_n0_55 q4)), .val (.int (own_n0_64 q4)), .val (.int (own_n0_73 q4)), .val (.int j92_S0), .unset, .unset]) rfl) ?_
    show own_G p e below s _ _ _ (T.setTop (mkF m 94 #[.val (.int q0), .val (.int q1), .val (.int q2), .val (.int q3), .val (.int q4), .val (.ref a1), .val (.int (own_n0_44 q4)), .val (.int (own_n0_55 q4)), .val (.int (own_n0_64 q4)), .val (.int (own_n0_73 q4)), .val (.int j92_S0), .unset, .unset] []))
    refine own_go (fun _ => XS.iconst X.here hx rfl (hb hby at_94)) ?_
    show own_G p e below s _ _ _ (T.setTop (mkF m 95 #[.val (.int q0), .val (.int q1), .val (.int q2), .val (.int q3), .val (.int q4), .val (.ref a1), .val (.int (own_n0_44 q4)), .val (.int (own_n0_55 q4)), .val (.int (own_n0_64 q4)), .val (.int (own_n0_73 q4)), .val (.int j92_S0), .unset, .unset] [(.int (-1 : Int32))]))
    refine own_go (fun _ => XS.istore X.here hx rfl (hb hby at_95) rfl (l' := #[.val (.int q0), .val (.int q1), .val (.int q2), .val (.int q3), .val (.int q4), .val (.ref a1), .val (.int (own_n0_44 q4)), .val (.int (own_n0_55 q4)), .val (.int (own_n0_64 q4)), .val (.int (own_n0_73 q4)), .val (.int j92_S0), .val (.int (-1 : Int32)), .unset]) rfl) ?_
    show own_G p e below s _ _ _ (T.setTop (mkF m 97 #[.val (.int q0), .val (.int q1), .val (.int q2), .val (.int q3), .val (.int q4), .val (.ref a1), .val (.int (own_n0_44 q4)), .val (.int (own_n0_55 q4)), .val (.int (own_n0_64 q4)), .val (.int (own_n0_73 q4)), .val (.int j92_S0), .val (.int (-1 : Int32)), .unset] []))
    refine own_go (fun _ => XS.aload X.here hx rfl (hb hby at_97) rfl rfl) ?_
    show own_G p e below s _ _ _ (T.setTop (mkF m 99 #[.val (.int q0), .val (.int q1), .val (.int q2), .val (.int q3), .val (.int q4), .val (.ref a1), .val (.int (own_n0_44 q4)), .val (.int (own_n0_55 q4)), .val (.int (own_n0_64 q4)), .val (.int (own_n0_73 q4)), .val (.int j92_S0), .val (.int (-1 : Int32)), .unset] [(.ref a1)]))
    refine own_go (fun _ => XS.iconst X.here hx rfl (hb hby at_99)) ?_
    show own_G p e below s _ _ _ (T.setTop (mkF m 100 #[.val (.int q0), .val (.int q1), .val (.int q2), .val (.int q3), .val (.int q4), .val (.ref a1), .val (.int (own_n0_44 q4)), .val (.int (own_n0_55 q4)), .val (.int (own_n0_64 q4)), .val (.int (own_n0_73 q4)), .val (.int j92_S0), .val (.int (-1 : Int32)), .unset] [(.int (3 : Int32)), (.ref a1)]))
    refine own_go (fun _ => XS.iload X.here hx rfl (hb hby at_100) rfl) ?_
    show own_G p e below s _ _ _ (T.setTop (mkF m 102 #[.val (.int q0), .val (.int q1), .val (.int q2), .val (.int q3), .val (.int q4), .val (.ref a1), .val (.int (own_n0_44 q4)), .val (.int (own_n0_55 q4)), .val (.int (own_n0_64 q4)), .val (.int (own_n0_73 q4)), .val (.int j92_S0), .val (.int (-1 : Int32)), .unset] [(.int (own_n0_64 q4)), (.int (3 : Int32)), (.ref a1)]))
    refine own_go (fun _ => XS.iload X.here hx rfl (hb hby at_102) rfl) ?_
    show own_G p e below s _ _ _ (T.setTop (mkF m 104 #[.val (.int q0), .val (.int q1), .val (.int q2), .val (.int q3), .val (.int q4), .val (.ref a1), .val (.int (own_n0_44 q4)), .val (.int (own_n0_55 q4)), .val (.int (own_n0_64 q4)), .val (.int (own_n0_73 q4)), .val (.int j92_S0), .val (.int (-1 : Int32)), .unset] [(.int (own_n0_73 q4)), (.int (own_n0_64 q4)), (.int (3 : Int32)), (.ref a1)]))
    refine own_go (fun _ => XS.iload X.here hx rfl (hb hby at_104) rfl) ?_
    show own_G p e below s _ _ _ (T.setTop (mkF m 106 #[.val (.int q0), .val (.int q1), .val (.int q2), .val (.int q3), .val (.int q4), .val (.ref a1), .val (.int (own_n0_44 q4)), .val (.int (own_n0_55 q4)), .val (.int (own_n0_64 q4)), .val (.int (own_n0_73 q4)), .val (.int j92_S0), .val (.int (-1 : Int32)), .unset] [(.int j92_S0), (.int (own_n0_73 q4)), (.int (own_n0_64 q4)), (.int (3 : Int32)), (.ref a1)]))
    obtain ⟨T12, X12, e12, st12⟩ := own_call X hx hZ hown (hw _ (List.mem_of_getElem? (i := 13) rfl)) (hw _ (List.mem_of_getElem? (i := 14) rfl)) (hw _ (List.mem_of_getElem? (i := 3) rfl)) (hw _ (List.mem_of_getElem? (i := 15) rfl)) (by decide) (rm4 l Z a0 hw [] a1 (3 : Int32) (own_n0_64 q4) (own_n0_73 q4) j92_S0 h _ A_a1 (by decide) (by decide)) rfl rfl eT (W := 0) (by decide) (by decide) (by decide) (by decide) (g := (mkF m 106 #[.val (.int q0), .val (.int q1), .val (.int q2), .val (.int q3), .val (.int q4), .val (.ref a1), .val (.int (own_n0_44 q4)), .val (.int (own_n0_55 q4)), .val (.int (own_n0_64 q4)), .val (.int (own_n0_73 q4)), .val (.int j92_S0), .val (.int (-1 : Int32)), .unset] [(.int j92_S0), (.int (own_n0_73 q4)), (.int (own_n0_64 q4)), (.int (3 : Int32)), (.ref a1)])) rfl (by rw [hml]; rfl) (argsL := [(.ref a1), (.int (3 : Int32)), (.int (own_n0_64 q4)), (.int (own_n0_73 q4)), (.int j92_S0)]) (rest := []) (lenOf (by decide +kernel : parseMethodDescriptor "([CIIIC)Z" = some ⟨[(.array .char), .int, .int, .int, .char], some .boolean⟩) rfl) rfl rfl (by show 2 * 0 + _ ≤ _; exact Nat.le_of_eq rfl) (hb hby at_106)
    refine own_go (fun _ => st12 _) ?_
    show own_G p e below s _ _ _ (T12.setTop (mkF m 109 #[.val (.int q0), .val (.int q1), .val (.int q2), .val (.int q3), .val (.int q4), .val (.ref a1), .val (.int (own_n0_44 q4)), .val (.int (own_n0_55 q4)), .val (.int (own_n0_64 q4)), .val (.int (own_n0_73 q4)), .val (.int j92_S0), .val (.int (-1 : Int32)), .unset] [(.int (own_v4_0 f_a1 (3 : Int32) (own_n0_64 q4) (own_n0_73 q4) j92_S0))]))
    by_cases hc109 : (own_v4_0 f_a1 (3 : Int32) (own_n0_64 q4) (own_n0_73 q4) j92_S0) = (0 : Int32)
    · refine own_eqF (if_pos hc109) ?_
      refine own_go (fun _ => XS.ifYes X12.here hx rfl (pc0 := 109) (pc' := 115) rfl (hb hby at_109) rfl ((if0 _ _).trans (teq hc109).1) (by decide) (by decide)) ?_
      exact b115 T12 h Lc X12 e12 N f_a1 A_a1 j92_S0 (-1 : Int32) (by decide)
    · refine own_eqF (if_neg hc109) ?_
      refine own_go (fun _ => XS.ifNo X12.here hx rfl (hb hby at_109) rfl ((if0 _ _).trans (feq hc109).1)) ?_
      show own_G p e below s _ _ _ (T12.setTop (mkF m 112 #[.val (.int q0), .val (.int q1), .val (.int q2), .val (.int q3), .val (.int q4), .val (.ref a1), .val (.int (own_n0_44 q4)), .val (.int (own_n0_55 q4)), .val (.int (own_n0_64 q4)), .val (.int (own_n0_73 q4)), .val (.int j92_S0), .val (.int (-1 : Int32)), .unset] []))
      refine own_go (fun _ => XS.iconst X12.here hx rfl (hb hby at_112)) ?_
      show own_G p e below s _ _ _ (T12.setTop (mkF m 113 #[.val (.int q0), .val (.int q1), .val (.int q2), .val (.int q3), .val (.int q4), .val (.ref a1), .val (.int (own_n0_44 q4)), .val (.int (own_n0_55 q4)), .val (.int (own_n0_64 q4)), .val (.int (own_n0_73 q4)), .val (.int j92_S0), .val (.int (-1 : Int32)), .unset] [(.int (3 : Int32))]))
      refine own_go (fun _ => XS.istore X12.here hx rfl (hb hby at_113) rfl (l' := #[.val (.int q0), .val (.int q1), .val (.int q2), .val (.int q3), .val (.int q4), .val (.ref a1), .val (.int (own_n0_44 q4)), .val (.int (own_n0_55 q4)), .val (.int (own_n0_64 q4)), .val (.int (own_n0_73 q4)), .val (.int j92_S0), .val (.int (3 : Int32)), .unset]) rfl) ?_
      exact b115 T12 h Lc X12 e12 N f_a1 A_a1 j92_S0 (3 : Int32) (by decide)
  show own_G p e below s (own_QF (some (.int (if ((own_us q4 (6 : Int32)) &&& (1 : Int32)) = (0 : Int32) then (own_v0_92 (own_n0_f q0 q1 q2 q3) q0 q1 q2 q3 q4 (39 : Int32)) else (own_v0_92 (own_n0_f q0 q1 q2 q3) q0 q1 q2 q3 q4 (34 : Int32))))) n0) room_1.cells room_1.slots (T11.setTop (mkF m 75 #[.val (.int q0), .val (.int q1), .val (.int q2), .val (.int q3), .val (.int q4), .val (.ref a1), .val (.int (own_n0_44 q4)), .val (.int (own_n0_55 q4)), .val (.int (own_n0_64 q4)), .val (.int (own_n0_73 q4)), .unset, .unset, .unset] []))
  refine own_go (fun _ => XS.iload X11.here hx rfl (hb hby at_75) rfl) ?_
  show own_G p e below s _ _ _ (T11.setTop (mkF m 77 #[.val (.int q0), .val (.int q1), .val (.int q2), .val (.int q3), .val (.int q4), .val (.ref a1), .val (.int (own_n0_44 q4)), .val (.int (own_n0_55 q4)), .val (.int (own_n0_64 q4)), .val (.int (own_n0_73 q4)), .unset, .unset, .unset] [(.int q4)]))
  refine own_go (fun _ => XS.bipush X11.here hx rfl (hb hby at_77)) ?_
  show own_G p e below s _ _ _ (T11.setTop (mkF m 79 #[.val (.int q0), .val (.int q1), .val (.int q2), .val (.int q3), .val (.int q4), .val (.ref a1), .val (.int (own_n0_44 q4)), .val (.int (own_n0_55 q4)), .val (.int (own_n0_64 q4)), .val (.int (own_n0_73 q4)), .unset, .unset, .unset] [(.int (6 : Int32)), (.int q4)]))
  refine own_go (fun _ => XS.iushr X11.here hx rfl (hb hby at_79) rfl) ?_
  show own_G p e below s _ _ _ (T11.setTop (mkF m 80 #[.val (.int q0), .val (.int q1), .val (.int q2), .val (.int q3), .val (.int q4), .val (.ref a1), .val (.int (own_n0_44 q4)), .val (.int (own_n0_55 q4)), .val (.int (own_n0_64 q4)), .val (.int (own_n0_73 q4)), .unset, .unset, .unset] [(.int (own_us q4 (6 : Int32)))]))
  refine own_go (fun _ => XS.iconst X11.here hx rfl (hb hby at_80)) ?_
  show own_G p e below s _ _ _ (T11.setTop (mkF m 81 #[.val (.int q0), .val (.int q1), .val (.int q2), .val (.int q3), .val (.int q4), .val (.ref a1), .val (.int (own_n0_44 q4)), .val (.int (own_n0_55 q4)), .val (.int (own_n0_64 q4)), .val (.int (own_n0_73 q4)), .unset, .unset, .unset] [(.int (1 : Int32)), (.int (own_us q4 (6 : Int32)))]))
  refine own_go (fun _ => XS.iand X11.here hx rfl (hb hby at_81) rfl) ?_
  show own_G p e below s _ _ _ (T11.setTop (mkF m 82 #[.val (.int q0), .val (.int q1), .val (.int q2), .val (.int q3), .val (.int q4), .val (.ref a1), .val (.int (own_n0_44 q4)), .val (.int (own_n0_55 q4)), .val (.int (own_n0_64 q4)), .val (.int (own_n0_73 q4)), .unset, .unset, .unset] [(.int ((own_us q4 (6 : Int32)) &&& (1 : Int32)))]))
  by_cases hc82 : ((own_us q4 (6 : Int32)) &&& (1 : Int32)) = (0 : Int32)
  · refine own_eqF (if_pos hc82) ?_
    refine own_go (fun _ => XS.ifYes X11.here hx rfl (pc0 := 82) (pc' := 90) rfl (hb hby at_82) rfl ((if0 _ _).trans (teq hc82).1) (by decide) (by decide)) ?_
    show own_G p e below s _ _ _ (T11.setTop (mkF m 90 #[.val (.int q0), .val (.int q1), .val (.int q2), .val (.int q3), .val (.int q4), .val (.ref a1), .val (.int (own_n0_44 q4)), .val (.int (own_n0_55 q4)), .val (.int (own_n0_64 q4)), .val (.int (own_n0_73 q4)), .unset, .unset, .unset] []))
    refine own_go (fun _ => XS.bipush X11.here hx rfl (hb hby at_90)) ?_
    exact b92 T11 h9 L9 X11 e11 N9 (own_n0_f q0 q1 q2 q3) A9 (39 : Int32)
  · refine own_eqF (if_neg hc82) ?_
    refine own_go (fun _ => XS.ifNo X11.here hx rfl (hb hby at_82) rfl ((if0 _ _).trans (feq hc82).1)) ?_
    show own_G p e below s _ _ _ (T11.setTop (mkF m 85 #[.val (.int q0), .val (.int q1), .val (.int q2), .val (.int q3), .val (.int q4), .val (.ref a1), .val (.int (own_n0_44 q4)), .val (.int (own_n0_55 q4)), .val (.int (own_n0_64 q4)), .val (.int (own_n0_73 q4)), .unset, .unset, .unset] []))
    refine own_go (fun _ => XS.bipush X11.here hx rfl (hb hby at_85)) ?_
    show own_G p e below s _ _ _ (T11.setTop (mkF m 87 #[.val (.int q0), .val (.int q1), .val (.int q2), .val (.int q3), .val (.int q4), .val (.ref a1), .val (.int (own_n0_44 q4)), .val (.int (own_n0_55 q4)), .val (.int (own_n0_64 q4)), .val (.int (own_n0_73 q4)), .unset, .unset, .unset] [(.int (34 : Int32))]))
    refine own_go (fun _ => XS.goto X11.here hx rfl (pc0 := 87) (pc' := 92) rfl (hb hby at_87) (by decide) (by decide)) ?_
    exact b92 T11 h9 L9 X11 e11 N9 (own_n0_f q0 q1 q2 q3) A9 (34 : Int32)
set_option maxRecDepth 65536 in
set_option maxHeartbeats 40000000 in
theorem comes_1 {Post : Tables → Env → Array Value → State → Outcome → State → Prop} (hpost : ∀ tb e args s v u, (limb_1_1.after args s (.returned v) u = true ∧ limb_1_2.after args s (.returned v) u = true ∧ True) → FrameEnd s (.returned v) u (Jvm.fieldLocs frame_1_writes args s ++ Jvm.arrayLocs frame_1_arrays args s ++ Jvm.staticLocs frame_1_statics s) 16 128 → Post tb e args s (.returned v) u) :
    ArmFor flags0 classFile x code maxLocals ret World_1 tables_1 room_1 Calls_1 rest_1 Pre_1 Post := by
  intro l hfl _ _ p e ha hc hk s m args below hf hA hF happ hP
  obtain ⟨hcalls, hrest, hpre⟩ := hP
  obtain ⟨-, -, -, hnamed, -, -, -, hat⟩ := (Spec.applies_iff hf).mp happ
  obtain ⟨hg, hn⟩ := and_e (Cond.before_iff.mp (show (Jvm.Cond.and given_1 narrow_1).before args s = true from hpre))
  obtain ⟨cg0, cq0⟩ := and_e hg
  obtain ⟨w0, w1, w2, w3, w4, rfl⟩ : ∃ w0 w1 w2 w3 w4 : Value, args = #[w0, w1, w2, w3, w4] := by
    have hs : args.size = 5 := by simpa [Cond.value, given_1] using cg0
    obtain ⟨L⟩ := args
    match L, hs with
    | [w0, w1, w2, w3, w4], _ => exact ⟨w0, w1, w2, w3, w4, rfl⟩
  have hw := fun d (hd : d ∈ tables_1) => atoms_spec (ws := Jvm.Cond.code x code maxLocals ret :: tables_1) hat d (List.mem_cons_of_mem _ hd)
  obtain ⟨ca0, cq1⟩ := and_e cq0
  obtain ⟨q0, eq0⟩ := is_v ca0
  obtain rfl : w0 = (.int q0) := Option.some.inj eq0
  obtain ⟨ca1, cq2⟩ := and_e cq1
  obtain ⟨q1, eq1⟩ := is_v ca1
  obtain rfl : w1 = (.int q1) := Option.some.inj eq1
  obtain ⟨ca2, cq3⟩ := and_e cq2
  obtain ⟨q2, eq2⟩ := is_v ca2
  obtain rfl : w2 = (.int q2) := Option.some.inj eq2
  obtain ⟨ca3, cq4⟩ := and_e cq3
  obtain ⟨q3, eq3⟩ := is_v ca3
  obtain rfl : w3 = (.int q3) := Option.some.inj eq3
  obtain ⟨q4, eq4⟩ := is_v cq4
  obtain rfl : w4 = (.int q4) := Option.some.inj eq4
  obtain ⟨n, o, h1, h2, h3, _, L, rfl, ⟨hv, N⟩, hq⟩ := rm0 l s _ hw tables_1 q0 q1 q2 q3 q4 s.heap s.heap.size (Nat.le_refl _)  p e ha hc hk s m _ below hf ((Spec.applies_iff_loose hf).mp happ).1 ⟨rfl, State.Warmed39.refl s, rfl⟩ trivial
  rw [own_law] at hv
  subst hv
  refine ⟨n, _, h1, h2, h3, hpost _ _ _ _ _ _ ⟨Cond.after_iff.mpr rfl, Cond.after_iff.mpr (eq_i res_at (Term.int_eval (1)) rfl), trivial⟩ ⟨hq.1, hq.2.1, (hq.2.2.sift fun y hy => Or.inr (N y hy)).mono (by decide) (by decide)⟩⟩
theorem main_1_1 : Claimed_1_1 := comes_1 fun _ _ _ _ _ _ h hF => ⟨h.1, hF⟩
theorem main_1_2 : Claimed_1_2 := comes_1 fun _ _ _ _ _ _ h hF => ⟨h.2.1, hF⟩
end Jvm.Pilot.@@N@@
namespace Jvm.Pilot.@@N@@
open Jvm Jvm.ClassFile Sem Op Lib Jvm.Free Jvm.Stand Jvm.Pilot.@@N@@.Jvm.D
/-! MADE BY PROGRAM (witnessworld.py) out of the Statement's table words and the real class files: 12 classes; the members and pool entries that the words name. The judged class is class 1, her method 1. -/
namespace start1
open Jvm.ClassFile
def u (s : String) : CpInfo := .utf8 (stringToUtf16 s)
/-- a pool by its gaps: so many unusable entries, then the entry; so many at the end -/
def gap : Nat → List CpInfo → List CpInfo
  | 0, r => r
  | n + 1, r => .unusable :: gap n r
def poolList (es : List (Nat × CpInfo)) (last : Nat) : List CpInfo := es.foldr (fun e r => gap e.1 (e.2 :: r)) (gap last [])
def pool (es : List (Nat × CpInfo)) (last : Nat) : Array CpInfo := ⟨poolList es last⟩
def fileOf (pool : Array CpInfo) (this : Nat) (attrs : Array Attribute := #[]) (ms : Array MethodInfo := #[]) (fl : Nat := 33) (sup : Nat := 0) (ifs : Array Nat := #[]) (fds : Array FieldInfo := #[]) : ClassFile where
  minorVersion := 0
  majorVersion := 65
  constantPool := pool
  accessFlags := fl
  thisClass := this
  superClass := sup
  interfaces := ifs
  fields := fds
  methods := ms
  attributes := attrs
def plain (name : String) (sup : Option ClassId) : Class where
  name := name
  kind := .ordinary
  loader := none
  accessFlags := 33
  super := sup
  interfaces := #[]
  cf := none
  fields := #[]
  methods := #[]
  instanceTypes := #[]
  staticTypes := #[]
  resolved := #[]
  callSites := []
  init := .initialized
  statics := none
  mirror := none

def pool0 : Array CpInfo := pool [(5, u "<init>"), (0, u "()V"), (1, .class_ 10), (1, u "java/lang/Object")] 113

def k0m0 : Method := { name := "<init>", desc := "()V", sig := { parameters := [], returnType := none }, accessFlags := 1, code := none }
/-- java/lang/Object -/
def k0 : Class := { plain "java/lang/Object" none with
  accessFlags := 33
  interfaces := #[]
  cf := some (fileOf pool0 8 #[] #[{ accessFlags := 1, nameIndex := 5, descriptorIndex := 6, attributes := #[] }] 33 0 #[] #[])
  fields := #[]
  methods := #[k0m0]
  instanceTypes := #[]
  staticTypes := #[]
  resolved := Array.replicate 124 none
  statics := none }

def pool1 : Array CpInfo := pool [(2, .class_ 4), (1, u "java/lang/Object"), (0, u "<init>"), (0, u "()V"), (0, .methodref 8 9), (0, .class_ 10), (0, .nameAndType 11 12), (0, u "com/example/buccleuch/buccleuch/LexerPlainValueEndPinLaw"), (0, u "ch"), (0, u "(I)C"), (0, .methodref 14 15), (0, .class_ 16), (0, .nameAndType 17 18), (0, u "java/lang/Math"), (0, u "min"), (0, u "(II)I"), (0, .methodref 14 20), (0, .nameAndType 21 18), (0, u "max"), (0, .methodref 8 23), (0, .nameAndType 24 25), (0, u "stopsAt"), (0, u "([CIIIC)Z"), (0, .methodref 27 28), (0, .class_ 29), (0, .nameAndType 30 31), (0, u "com/example/buccleuch/buccleuch/Lexer"), (0, u "plainValueEnd"), (0, u "([CIIC)I"), (0, .integer 65536), (0, .methodref 8 34), (0, .nameAndType 35 36), (0, u "plain"), (0, u "(CC)Z"), (2, u "law"), (0, u "(IIIII)Z")] 5

def k1m0 : Method := { name := "<init>", desc := "()V", sig := { parameters := [], returnType := none }, accessFlags := 2, code := none }
def k1c1 : Code := { maxStack := 5, maxLocals := 13, code := code, exceptionTable := #[], attributes := #[] }
def k1m1 : Method := { name := "law", desc := "(IIIII)Z", sig := { parameters := [.int, .int, .int, .int, .int], returnType := some .boolean }, accessFlags := 9, code := some k1c1 }
def k1c2 : Code := { maxStack := 2, maxLocals := 1, code := method_3_code, exceptionTable := #[], attributes := #[] }
def k1m2 : Method := { name := "ch", desc := "(I)C", sig := { parameters := [.int], returnType := some .char }, accessFlags := 10, code := some k1c2 }
def k1c3 : Code := { maxStack := 2, maxLocals := 2, code := method_4_code, exceptionTable := #[], attributes := #[] }
def k1m3 : Method := { name := "plain", desc := "(CC)Z", sig := { parameters := [.char, .char], returnType := some .boolean }, accessFlags := 10, code := some k1c3 }
def k1c4 : Code := { maxStack := 2, maxLocals := 5, code := method_5_code, exceptionTable := #[], attributes := #[] }
def k1m4 : Method := { name := "stopsAt", desc := "([CIIIC)Z", sig := { parameters := [(.array .char), .int, .int, .int, .char], returnType := some .boolean }, accessFlags := 10, code := some k1c4 }
/-- com/example/buccleuch/buccleuch/LexerPlainValueEndPinLaw -/
def k1 : Class := { plain "com/example/buccleuch/buccleuch/LexerPlainValueEndPinLaw" (some 0) with
  accessFlags := 49
  interfaces := #[]
  cf := some (fileOf pool1 8 #[] #[{ accessFlags := 2, nameIndex := 5, descriptorIndex := 6, attributes := #[] }, { accessFlags := 9, nameIndex := 39, descriptorIndex := 40, attributes := #[] }, { accessFlags := 10, nameIndex := 11, descriptorIndex := 12, attributes := #[] }, { accessFlags := 10, nameIndex := 35, descriptorIndex := 36, attributes := #[] }, { accessFlags := 10, nameIndex := 24, descriptorIndex := 25, attributes := #[] }] 49 2 #[] #[])
  fields := #[]
  methods := #[k1m0, k1m1, k1m2, k1m3, k1m4]
  instanceTypes := #[]
  staticTypes := #[]
  resolved := Array.replicate 46 none
  statics := none }

def pool2 : Array CpInfo := pool [(1, .class_ 2), (0, u "java/lang/Math"), (1, .class_ 6), (1, u "java/lang/Object"), (0, u "<init>"), (0, u "()V"), (89, .class_ 100), (1, u "java/lang/Math$RandomNumberGeneratorHolder"), (71, u "negativeZeroFloatBits"), (0, u "J"), (2, u "negativeZeroDoubleBits"), (21, u "max"), (2, u "min"), (43, u "$assertionsDisabled"), (0, u "Z"), (88, u "(II)I"), (2, u "twoToTheDoubleScaleDown"), (0, u "D"), (4, u "twoToTheDoubleScaleUp"), (9, u "E"), (3, u "PI"), (2, u "TAU"), (2, u "DEGREES_TO_RADIANS"), (0, u "RADIANS_TO_DEGREES")] 94

def k2m0 : Method := { name := "<init>", desc := "()V", sig := { parameters := [], returnType := none }, accessFlags := 2, code := none }
def k2c1 : Code := { maxStack := 2, maxLocals := 2, code := jdk_29_method_65_code, exceptionTable := #[], attributes := #[] }
def k2m1 : Method := { name := "max", desc := "(II)I", sig := { parameters := [.int, .int], returnType := some .int }, accessFlags := 9, code := some k2c1 }
def k2c2 : Code := { maxStack := 2, maxLocals := 2, code := jdk_29_method_69_code, exceptionTable := #[], attributes := #[] }
def k2m2 : Method := { name := "min", desc := "(II)I", sig := { parameters := [.int, .int], returnType := some .int }, accessFlags := 9, code := some k2c2 }
/-- java/lang/Math -/
def k2 : Class := { plain "java/lang/Math" (some 0) with
  accessFlags := 49
  interfaces := #[]
  cf := some (fileOf pool2 1 #[.nestMembers #[98]] #[{ accessFlags := 2, nameIndex := 7, descriptorIndex := 8, attributes := #[] }, { accessFlags := 9, nameIndex := 198, descriptorIndex := 335, attributes := #[] }, { accessFlags := 9, nameIndex := 201, descriptorIndex := 335, attributes := #[] }] 49 4 #[] #[{ accessFlags := 25, nameIndex := 354, descriptorIndex := 339, attributes := #[] }, { accessFlags := 25, nameIndex := 358, descriptorIndex := 339, attributes := #[] }, { accessFlags := 25, nameIndex := 361, descriptorIndex := 339, attributes := #[] }, { accessFlags := 26, nameIndex := 364, descriptorIndex := 339, attributes := #[] }, { accessFlags := 26, nameIndex := 365, descriptorIndex := 339, attributes := #[] }, { accessFlags := 26, nameIndex := 172, descriptorIndex := 173, attributes := #[] }, { accessFlags := 26, nameIndex := 176, descriptorIndex := 173, attributes := #[] }, { accessFlags := 8, nameIndex := 344, descriptorIndex := 339, attributes := #[] }, { accessFlags := 8, nameIndex := 338, descriptorIndex := 339, attributes := #[] }, { accessFlags := 4120, nameIndex := 245, descriptorIndex := 246, attributes := #[] }])
  fields := #[{ name := "E", type := .double, accessFlags := 25, slot := 0, constantValue := 0 }, { name := "PI", type := .double, accessFlags := 25, slot := 1, constantValue := 0 }, { name := "TAU", type := .double, accessFlags := 25, slot := 2, constantValue := 0 }, { name := "DEGREES_TO_RADIANS", type := .double, accessFlags := 26, slot := 3, constantValue := 0 }, { name := "RADIANS_TO_DEGREES", type := .double, accessFlags := 26, slot := 4, constantValue := 0 }, { name := "negativeZeroFloatBits", type := .long, accessFlags := 26, slot := 5, constantValue := 0 }, { name := "negativeZeroDoubleBits", type := .long, accessFlags := 26, slot := 6, constantValue := 0 }, { name := "twoToTheDoubleScaleUp", type := .double, accessFlags := 8, slot := 7, constantValue := 0 }, { name := "twoToTheDoubleScaleDown", type := .double, accessFlags := 8, slot := 8, constantValue := 0 }, { name := "$assertionsDisabled", type := .boolean, accessFlags := 4120, slot := 9, constantValue := 0 }]
  methods := #[k2m0, k2m1, k2m2]
  instanceTypes := #[]
  staticTypes := #[.double, .double, .double, .double, .double, .long, .long, .double, .double, .boolean]
  resolved := Array.replicate 460 none
  statics := none }

def pool3 : Array CpInfo := pool [(2, .class_ 4), (1, u "java/lang/Object"), (3, .class_ 10), (1, u "com/example/buccleuch/buccleuch/Lexer"), (0, u "in"), (0, u "Lcom/example/buccleuch/buccleuch/CharSource;"), (2, u "dtd"), (0, u "Lcom/example/buccleuch/buccleuch/Dtd;"), (2, u "warnings"), (0, u "Ljava/util/function/Consumer;"), (2, u "names"), (0, u "Lcom/example/buccleuch/buccleuch/NameTable;"), (16, u "nameNumber"), (0, u "I"), (81, u "J"), (20, u "literalOffset"), (22, u "valueKnown"), (0, u "Z"), (17, u "plainValueEnd"), (0, u "([CIIC)I"), (5, u "chars"), (0, u "Ljava/lang/StringBuilder;"), (40, .class_ 238), (1, u "com/example/buccleuch/buccleuch/Lexer$Reference"), (18, u "entityName"), (0, u "Ljava/lang/String;")] 240

def k3c0 : Code := { maxStack := 2, maxLocals := 5, code := prog_34_method_20_code, exceptionTable := #[], attributes := #[] }
def k3m0 : Method := { name := "plainValueEnd", desc := "([CIIC)I", sig := { parameters := [(.array .char), .int, .int, .char], returnType := some .int }, accessFlags := 8, code := some k3c0 }
/-- com/example/buccleuch/buccleuch/Lexer -/
def k3 : Class := { plain "com/example/buccleuch/buccleuch/Lexer" (some 0) with
  accessFlags := 48
  interfaces := #[]
  cf := some (fileOf pool3 8 #[.nestMembers #[236]] #[{ accessFlags := 8, nameIndex := 187, descriptorIndex := 188, attributes := #[] }] 48 2 #[] #[{ accessFlags := 18, nameIndex := 11, descriptorIndex := 12, attributes := #[] }, { accessFlags := 18, nameIndex := 15, descriptorIndex := 16, attributes := #[] }, { accessFlags := 18, nameIndex := 19, descriptorIndex := 20, attributes := #[] }, { accessFlags := 2, nameIndex := 194, descriptorIndex := 195, attributes := #[] }, { accessFlags := 18, nameIndex := 23, descriptorIndex := 24, attributes := #[] }, { accessFlags := 2, nameIndex := 41, descriptorIndex := 42, attributes := #[] }, { accessFlags := 2, nameIndex := 145, descriptorIndex := 124, attributes := #[] }, { accessFlags := 2, nameIndex := 257, descriptorIndex := 258, attributes := #[] }, { accessFlags := 2, nameIndex := 168, descriptorIndex := 169, attributes := #[] }])
  fields := #[{ name := "in", type := (.object "com/example/buccleuch/buccleuch/CharSource"), accessFlags := 18, slot := 0, constantValue := 0 }, { name := "dtd", type := (.object "com/example/buccleuch/buccleuch/Dtd"), accessFlags := 18, slot := 1, constantValue := 0 }, { name := "warnings", type := (.object "java/util/function/Consumer"), accessFlags := 18, slot := 2, constantValue := 0 }, { name := "chars", type := (.object "java/lang/StringBuilder"), accessFlags := 2, slot := 3, constantValue := 0 }, { name := "names", type := (.object "com/example/buccleuch/buccleuch/NameTable"), accessFlags := 18, slot := 4, constantValue := 0 }, { name := "nameNumber", type := .int, accessFlags := 2, slot := 5, constantValue := 0 }, { name := "literalOffset", type := .long, accessFlags := 2, slot := 6, constantValue := 0 }, { name := "entityName", type := (.object "java/lang/String"), accessFlags := 2, slot := 7, constantValue := 0 }, { name := "valueKnown", type := .boolean, accessFlags := 2, slot := 8, constantValue := 0 }]
  methods := #[k3m0]
  instanceTypes := #[(.object "com/example/buccleuch/buccleuch/CharSource"), (.object "com/example/buccleuch/buccleuch/Dtd"), (.object "java/util/function/Consumer"), (.object "java/lang/StringBuilder"), (.object "com/example/buccleuch/buccleuch/NameTable"), .int, .long, (.object "java/lang/String"), .boolean]
  staticTypes := #[]
  resolved := Array.replicate 499 none
  statics := none }

def pool4 : Array CpInfo := pool [(1, u "java/lang/Cloneable"), (0, .class_ 1), (0, u "java/lang/Object"), (0, .class_ 3)] 3

/-- java/lang/Cloneable -/
def k4 : Class := { plain "java/lang/Cloneable" (some 0) with
  accessFlags := 1537
  interfaces := #[]
  cf := some (fileOf pool4 2 #[] #[] 1537 4 #[] #[])
  fields := #[]
  methods := #[]
  instanceTypes := #[]
  staticTypes := #[]
  resolved := Array.replicate 8 none
  statics := none }

def pool5 : Array CpInfo := pool [(1, u "java/io/Serializable"), (0, .class_ 1), (0, u "java/lang/Object"), (0, .class_ 3)] 3

/-- java/io/Serializable -/
def k5 : Class := { plain "java/io/Serializable" (some 0) with
  accessFlags := 1537
  interfaces := #[]
  cf := some (fileOf pool5 2 #[] #[] 1537 4 #[] #[])
  fields := #[]
  methods := #[]
  instanceTypes := #[]
  staticTypes := #[]
  resolved := Array.replicate 8 none
  statics := none }

/-- the primitive byte -/
def k6 : Class := { plain "byte" none with kind := .primitive 'B', accessFlags := 0x411 }
/-- [B -/
def k7 : Class := { plain "[B" (some 0) with kind := .array 6 .byte, interfaces := #[4, 5], accessFlags := 1041 }

/-- the primitive char -/
def k8 : Class := { plain "char" none with kind := .primitive 'C', accessFlags := 0x411 }
/-- [C -/
def k9 : Class := { plain "[C" (some 0) with kind := .array 8 .char, interfaces := #[4, 5], accessFlags := 1041 }

/-- the primitive int -/
def k10 : Class := { plain "int" none with kind := .primitive 'I', accessFlags := 0x411 }
/-- [I -/
def k11 : Class := { plain "[I" (some 0) with kind := .array 10 .int, interfaces := #[4, 5], accessFlags := 1041 }

def heap : Heap := #[]
def classes : Array Class := #[k0, k1, k2, k3, k4, k5, k6, k7, k8, k9, k10, k11]
def interned : List (Array UInt16 × Addr) := []
def slotsUsed : Nat := 0
def theMethod : MethodId := ⟨1, 1⟩
def args0 : Array Value := #[.int 5, .int 3, .int 1, .int 2, .int 4]
def aboutOver (below : List Frame) : State where
  vm := { classes := classes, interned := interned.toArray }
  heap := heap
  slotsUsed := slotsUsed
  threads := #[{ frames := .invoking theMethod args0 :: below }]
def below0 : List Frame := [.native { method := ⟨0, 0⟩, args := #[] }]
def about1 : State := aboutOver below0
def p0 : Program := .bare "" "" ""
def e0 : Env := launch0.env 0 0 0
theorem w_frames : about1.frames = Frame.invoking theMethod args0 :: below0 := rfl
set_option maxRecDepth 65536 in
theorem w_args : argsFit about1.vm theMethod args0 = true := by decide +kernel
set_option maxRecDepth 65536 in
theorem w_heap : heapFits about1 = true := by decide +kernel
set_option maxRecDepth 65536 in
theorem w_runnable : about1.curStatus? = some .runnable := by decide +kernel
set_option maxRecDepth 65536 in
theorem w_alone : about1.alone = true := by decide +kernel
set_option maxRecDepth 65536 in
theorem w_named : about1.methodNamed? x = some theMethod := by decide +kernel
set_option maxRecDepth 65536 in
theorem w_hears : about1.hears theMethod below0 = true := by decide +kernel
set_option maxRecDepth 65536 in
theorem w_ripe : about1.ripe theMethod args0 below0 = true := by decide +kernel
theorem w_running : about1.status = .running := rfl
set_option maxRecDepth 65536 in
theorem w_room : about1.hasRoom e0.platform room_1 = true :=
  launch0.hasRoom_least _ room_1 (by decide +kernel) (by decide +kernel) (by decide +kernel) (by decide +kernel) (by decide +kernel) (by decide +kernel)
theorem allAtoms_all (ts : List Jvm.Cond) (a : Array Jvm.Value) (st : Jvm.State) : (allAtoms ts).before a st = ts.all (fun c => c.before a st) := by
  induction ts with
  | nil => rfl
  | cons c t ih =>
    show (Jvm.Cond.and c (allAtoms t)).before a st = _
    rw [Jvm.Cond.before_and, ih, List.all_cons]
def words1 : List Jvm.Cond := Jvm.Cond.code x code maxLocals ret :: tables_1
/-- a 'code' word, met by the world's own term for the bytes: nothing is compared byte by byte -/
theorem code_word {y : MethodName} {bytes : ByteArray} {mx : Nat} {rt : Option FieldType} {a : Array Value} {s : State} {m : MethodId} {meth : Method} {c : Code} (h1 : s.methodNamed? y = some m) (h2 : s.vm.method? m = some meth) (h3 : meth.code = some c) (h4 : c.code = bytes)
    (h5 : (c.maxLocals == mx && c.exceptionTable.isEmpty && decide (c.maxStack ≤ mostOperands) && decide (meth.sig.returnType = rt) && !meth.locks && decide (parseMethodDescriptor y.desc = some meth.sig)) = true) : (Jvm.Cond.code y bytes mx rt).before a s = true := by
  simp only [Bool.and_eq_true, beq_iff_eq, Bool.not_eq_true', decide_eq_true_eq] at h5
  obtain ⟨⟨⟨⟨⟨g1, g2⟩, g3⟩, g4⟩, g5⟩, g6⟩ := h5
  simp [Cond.before, Cond.holds, Cond.value, h1, h2, h3, h4, g1, g2, g3, g4, g5, g6]
def isCode : Jvm.Cond → Bool
  | .code _ _ _ _ => true
  | _ => false
theorem all_split {L : List Jvm.Cond} {P : Jvm.Cond → Bool} (h1 : L.all (fun c => isCode c || P c) = true) (h2 : ∀ c ∈ L.filter isCode, P c = true) : L.all P = true := by
  refine List.all_eq_true.mpr fun c hc => ?_
  have h := List.all_eq_true.mp h1 c hc
  rcases Bool.eq_false_or_eq_true (isCode c) with hi | hi
  · exact h2 c (List.mem_filter.mpr ⟨hc, hi⟩)
  · simpa [hi] using h
set_option maxRecDepth 65536 in
theorem w_c0 : (Jvm.Cond.code x code maxLocals ret).before args0 about1 = true := code_word (m := ⟨1, 1⟩) (meth := k1m1) (c := k1c1) (by decide +kernel) rfl rfl rfl (by decide +kernel)
set_option maxRecDepth 65536 in
theorem w_c1 : (Jvm.Cond.code ({ cls := "com/example/buccleuch/buccleuch/LexerPlainValueEndPinLaw", name := "ch", desc := "(I)C" } : Jvm.MethodName) method_3_code (1 : Nat) (Option.some Jvm.ClassFile.FieldType.char)).before args0 about1 = true := code_word (m := ⟨1, 2⟩) (meth := k1m2) (c := k1c2) (by decide +kernel) rfl rfl rfl (by decide +kernel)
set_option maxRecDepth 65536 in
theorem w_c2 : (Jvm.Cond.code ({ cls := "java/lang/Math", name := "min", desc := "(II)I" } : Jvm.MethodName) jdk_29_method_69_code (2 : Nat) (Option.some Jvm.ClassFile.FieldType.int)).before args0 about1 = true := code_word (m := ⟨2, 2⟩) (meth := k2m2) (c := k2c2) (by decide +kernel) rfl rfl rfl (by decide +kernel)
set_option maxRecDepth 65536 in
theorem w_c3 : (Jvm.Cond.code ({ cls := "java/lang/Math", name := "max", desc := "(II)I" } : Jvm.MethodName) jdk_29_method_65_code (2 : Nat) (Option.some Jvm.ClassFile.FieldType.int)).before args0 about1 = true := code_word (m := ⟨2, 1⟩) (meth := k2m1) (c := k2c1) (by decide +kernel) rfl rfl rfl (by decide +kernel)
set_option maxRecDepth 65536 in
theorem w_c4 : (Jvm.Cond.code ({ cls := "com/example/buccleuch/buccleuch/LexerPlainValueEndPinLaw", name := "stopsAt", desc := "([CIIIC)Z" } : Jvm.MethodName) method_5_code (5 : Nat) (Option.some Jvm.ClassFile.FieldType.boolean)).before args0 about1 = true := code_word (m := ⟨1, 4⟩) (meth := k1m4) (c := k1c4) (by decide +kernel) rfl rfl rfl (by decide +kernel)
set_option maxRecDepth 65536 in
theorem w_c5 : (Jvm.Cond.code ({ cls := "com/example/buccleuch/buccleuch/Lexer", name := "plainValueEnd", desc := "([CIIC)I" } : Jvm.MethodName) prog_34_method_20_code (5 : Nat) (Option.some Jvm.ClassFile.FieldType.int)).before args0 about1 = true := code_word (m := ⟨3, 0⟩) (meth := k3m0) (c := k3c0) (by decide +kernel) rfl rfl rfl (by decide +kernel)
set_option maxRecDepth 65536 in
theorem w_c6 : (Jvm.Cond.code ({ cls := "com/example/buccleuch/buccleuch/LexerPlainValueEndPinLaw", name := "plain", desc := "(CC)Z" } : Jvm.MethodName) method_4_code (2 : Nat) (Option.some Jvm.ClassFile.FieldType.boolean)).before args0 about1 = true := code_word (m := ⟨1, 3⟩) (meth := k1m3) (c := k1c3) (by decide +kernel) rfl rfl rfl (by decide +kernel)
def codes1 : List Jvm.Cond := [Jvm.Cond.code x code maxLocals ret, Jvm.Cond.code ({ cls := "com/example/buccleuch/buccleuch/LexerPlainValueEndPinLaw", name := "ch", desc := "(I)C" } : Jvm.MethodName) method_3_code (1 : Nat) (Option.some Jvm.ClassFile.FieldType.char), Jvm.Cond.code ({ cls := "java/lang/Math", name := "min", desc := "(II)I" } : Jvm.MethodName) jdk_29_method_69_code (2 : Nat) (Option.some Jvm.ClassFile.FieldType.int), Jvm.Cond.code ({ cls := "java/lang/Math", name := "max", desc := "(II)I" } : Jvm.MethodName) jdk_29_method_65_code (2 : Nat) (Option.some Jvm.ClassFile.FieldType.int), Jvm.Cond.code ({ cls := "com/example/buccleuch/buccleuch/LexerPlainValueEndPinLaw", name := "stopsAt", desc := "([CIIIC)Z" } : Jvm.MethodName) method_5_code (5 : Nat) (Option.some Jvm.ClassFile.FieldType.boolean), Jvm.Cond.code ({ cls := "com/example/buccleuch/buccleuch/Lexer", name := "plainValueEnd", desc := "([CIIC)I" } : Jvm.MethodName) prog_34_method_20_code (5 : Nat) (Option.some Jvm.ClassFile.FieldType.int), Jvm.Cond.code ({ cls := "com/example/buccleuch/buccleuch/LexerPlainValueEndPinLaw", name := "plain", desc := "(CC)Z" } : Jvm.MethodName) method_4_code (2 : Nat) (Option.some Jvm.ClassFile.FieldType.boolean)]
set_option maxRecDepth 65536 in
theorem codes_eq : words1.filter isCode = codes1 := rfl
theorem w_codes : ∀ c ∈ words1.filter isCode, c.before args0 about1 = true := by
  rw [codes_eq]
  intro c hc
  simp only [codes1, List.mem_cons, List.not_mem_nil, or_false] at hc
  rcases hc with rfl | rfl | rfl | rfl | rfl | rfl | rfl
  · exact w_c0
  · exact w_c1
  · exact w_c2
  · exact w_c3
  · exact w_c4
  · exact w_c5
  · exact w_c6
set_option maxRecDepth 65536 in
theorem w_t1 : words1.all (fun c => isCode c || c.before args0 about1) = true := by decide +kernel
theorem w_tables : (allAtoms (Jvm.Cond.code x code maxLocals ret :: tables_1)).before args0 about1 = true := by
  rw [allAtoms_all]
  show words1.all (fun c => c.before args0 about1) = true
  refine all_split ?_ w_codes
  rw [w_t1]
set_option maxRecDepth 65536 in
theorem w_case : (Jvm.Cond.and given_1 narrow_1).before args0 about1 = true := by decide +kernel
theorem w_applies : (headSpec (Jvm.Cond.code x code maxLocals ret :: tables_1) room_1).applies x e0.platform about1 = true :=
  (Spec.applies_iff w_frames).mpr ⟨w_running, w_runnable, w_alone, w_named, w_hears, w_ripe, w_room, w_tables⟩
theorem atStart : AtStart classFile x code maxLocals ret World_1 tables_1 room_1 Calls_1 rest_1 Pre_1 launch0 p0 e0 about1 theMethod args0 below0 :=
  ⟨lists_1, trivial, launch0.admits_env _ _ _, launch0.least_env, fairChoices_fair.cas, fairChoices_fair.clock, w_frames, w_args, w_heap, w_applies, trivial, trivial, w_case⟩
end start1
theorem witness_1 : WitnessClaimed_1 := ⟨start1.p0, start1.e0, start1.about1, start1.theMethod, start1.args0, start1.below0, start1.atStart⟩
end Jvm.Pilot.@@N@@
