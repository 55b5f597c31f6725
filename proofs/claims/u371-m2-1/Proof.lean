import JvmDerived
import JvmDerived.Pilot.@@N@@Statement
import JvmDerived.Pilot.@@N@@Code
set_option linter.unusedVariables false
set_option linter.unusedSimpArgs false
namespace Jvm.RoadKit
open Sem ClassFile Op Lib Jvm.Stand Jvm.Free Jvm.LawKit
section New
variable {p : Program} {l : Launch} {e : Env} {R : Room} {s : State} {m : MethodId} {args : Array Value} {below : List Frame} {meth : Method} {c : Code} {T : State} {locs : List Loc} {cells slots : Nat}
theorem retI (X : Stand p l e R s m args below meth c T locs cells slots) (hx : p.tables.exec = Jvm.exec) {pc : Nat} {Ls : Array Slot} {z : Int32} {rest : List Value} (hret : meth.sig.returnType = some .int) (hd : decode c.code pc = .ok (.ireturn, 1)) {fs : List Frame}
    (hl : ∀ (f : JFrame) (acts : List Action), f.method = m → f.locked = none → f.entered = [] → (doReturn e (T.setTop f) acts (some (.int z))).1 = T.setFrames fs) : Steps p.tables e below (T.setTop (mkF m pc Ls (.int z :: rest))) (T.setFrames fs) := by
  have hm' : T.vm.method? m = some meth := X.method'
  have hn : narrow .int (.int z) = .int z := rfl
  show Steps p.tables e below (T.setTop { method := m, pc := pc, locals := Ls, stack := _ :: rest, locked := none }) _
  jvm_step X.here [X.here.top, hx, hd, hm', hret, hn]
  first | (intro acts; rw [hl _ acts rfl rfl rfl]) | rw [hl _ _ rfl rfl rfl]
  exact Steps.refl _
end New
end Jvm.RoadKit
namespace Jvm.Pilot.@@N@@
open Jvm Jvm.ClassFile Sem Op Lib Jvm.Free Jvm.Stand Jvm.LawKit Jvm.RoadKit Bundle Jvm.Pilot.@@N@@.Jvm.D
/-! 0. the walk's goal: from the state S the body ends, and Q says what it leaves -/
def own_G (p : Program) (e : Env) (below : List Frame) (s : State) (Q : Option Value → Heap → List Loc → Prop) (k n : Nat) (S : State) : Prop :=
  ∃ s₂ o, Steps p.tables e below S s₂ ∧ s₂.status = .running ∧ Ended s₂ below o ∧ ∃ v L, o = .returned v ∧ Q v s₂.heap L ∧ FrameEnd s o s₂ L k n
theorem own_go {p : Program} {e : Env} {below : List Frame} {s : State} {Q : Option Value → Heap → List Loc → Prop} {k n : Nat} {S S' : State} (h : ∀ t, Steps p.tables e below S' t → Steps p.tables e below S t) (g : own_G p e below s Q k n S') : own_G p e below s Q k n S := by
  obtain ⟨t, o, h1, h2⟩ := g
  exact ⟨t, o, h t h1, h2⟩
theorem own_G0 {p : Program} {e : Env} {below : List Frame} {s : State} {Q : Option Value → Heap → List Loc → Prop} {k n : Nat} {S : State} (g : own_G p e below s Q k n S) :
    ∃ s₂ o, Steps p.tables e below S s₂ ∧ s₂.status = .running ∧ Ended s₂ below o ∧ ∃ v L, o = .returned v ∧ Q v s₂.heap L ∧ FrameEnd s o s₂ L k n := g
/-- a body that writes nothing and returns r -/
def own_Q (r : Option Value) (h0 : Heap) (v : Option Value) (h : Heap) (L : List Loc) : Prop := v = r ∧ L = [] ∧ h = h0
/-- Java's x % y, x >>> y on ints and longs, (char) x -/
def own_rem (x y : Int32) : Int32 := x - (x / y) * y
def own_us (x y : Int32) : Int32 := (x.toUInt32 >>> (y &&& 31).toUInt32).toInt32
def own_usL (x : Int64) (y : Int32) : Int64 := (x.toUInt64 >>> (y &&& 0x3f).toInt64.toUInt64).toInt64
def own_c (x : Int32) : Int32 := x.toUInt32.toUInt16.toUInt32.toInt32
theorem own_eq {p : Program} {e : Env} {below : List Frame} {s : State} {h0 : Heap} {k n : Nat} {S : State} {a b : Int32} (h : a = b) (g : own_G p e below s (own_Q (some (.int b)) h0) k n S) : own_G p e below s (own_Q (some (.int a)) h0) k n S := h ▸ g
section Own
variable {p : Program} {l : Launch} {e : Env} {R : Room} {s : State} {m : MethodId} {args : Array Value} {below : List Frame} {meth : Method} {c : Code} {T : State} {locs : List Loc} {cells slots : Nat} {Q : Option Value → Heap → List Loc → Prop} {k n : Nat}
theorem own_retI (X : Stand p l e R s m args below meth c T locs cells slots) (hx : p.tables.exec = Jvm.exec) (hlk : meth.locks = false) {pc : Nat} {Ls : Array Slot} {z : Int32} {rest : List Value} (hret : meth.sig.returnType = some .int) (hd : decode c.code pc = .ok (.ireturn, 1)) (hc : cells ≤ k) (hs : slots ≤ n) (hq : Q (some (.int z)) T.heap locs) :
    own_G p e below s Q k n (T.setTop (mkF m pc Ls (.int z :: rest))) := by
  obtain ⟨fs, hr, hrun, hended, hW, hsame⟩ := X.leave (v := some (.int z)) (fun h => by rw [hret] at h; cases h) hlk
  exact ⟨_, _, retI X hx hret hd hr, hrun, hended, _, _, rfl, hq, ⟨_, rfl⟩, hW, hsame.mono hc hs⟩
theorem own_retN (X : Stand p l e R s m args below meth c T locs cells slots) (hx : p.tables.exec = Jvm.exec) (hlk : meth.locks = false) {pc : Nat} {Ls : Array Slot} {z : Int32} {t : FieldType} {rest : List Value} (hret : meth.sig.returnType = some t) (ht : t = .boolean ∨ t = .byte ∨ t = .char ∨ t = .short) (hd : decode c.code pc = .ok (.ireturn, 1)) (hc : cells ≤ k) (hs : slots ≤ n) (hq : Q (some (.int (nar t z))) T.heap locs) :
    own_G p e below s Q k n (T.setTop (mkF m pc Ls (.int z :: rest))) := by
  obtain ⟨fs, hr, hrun, hended, hW, hsame⟩ := X.leave (v := some (.int (nar t z))) (fun h => by rw [hret] at h; cases h) hlk
  exact ⟨_, _, retN X hx hret ht hd hr, hrun, hended, _, _, rfl, hq, ⟨_, rfl⟩, hW, hsame.mono hc hs⟩
theorem own_retJ (X : Stand p l e R s m args below meth c T locs cells slots) (hx : p.tables.exec = Jvm.exec) (hlk : meth.locks = false) {pc : Nat} {Ls : Array Slot} {z : Int64} (hret : meth.sig.returnType = some .long) (hd : decode c.code pc = .ok (.lreturn, 1)) (hc : cells ≤ k) (hs : slots ≤ n) (hq : Q (some (.long z)) T.heap locs) :
    own_G p e below s Q k n (T.setTop (mkF m pc Ls [.long z])) := by
  obtain ⟨fs, hr, hrun, hended, hW, hsame⟩ := X.leave (v := some (.long z)) (fun h => by rw [hret] at h; cases h) hlk
  exact ⟨_, _, X.lreturnOut hx hret hd hr, hrun, hended, _, _, rfl, hq, ⟨_, rfl⟩, hW, hsame.mono hc hs⟩
theorem own_retA (X : Stand p l e R s m args below meth c T locs cells slots) (hx : p.tables.exec = Jvm.exec) (hlk : meth.locks = false) {pc : Nat} {Ls : Array Slot} {w : Value} {t : FieldType} (hw : w.isRef = true) (hret : meth.sig.returnType = some t) (ht : t.isReference = true) (hd : decode c.code pc = .ok (.areturn, 1)) (hc : cells ≤ k) (hs : slots ≤ n) (hq : Q (some w) T.heap locs) :
    own_G p e below s Q k n (T.setTop (mkF m pc Ls [w])) := by
  obtain ⟨fs, hr, hrun, hended, hW, hsame⟩ := X.leave (v := some w) (fun h => by rw [hret] at h; cases h) hlk
  exact ⟨_, _, X.areturnOut hx hw hret ht hd hr, hrun, hended, _, _, rfl, hq, ⟨_, rfl⟩, hW, hsame.mono hc hs⟩
theorem own_retV (X : Stand p l e R s m args below meth c T locs cells slots) (hx : p.tables.exec = Jvm.exec) (hlk : meth.locks = false) {pc : Nat} {Ls : Array Slot} (hret : meth.sig.returnType = none) (hd : decode c.code pc = .ok (.return_, 1)) (hc : cells ≤ k) (hs : slots ≤ n) (hq : Q none T.heap locs) :
    own_G p e below s Q k n (T.setTop (mkF m pc Ls [])) := by
  obtain ⟨fs, hr, hrun, hended, hW, hsame⟩ := X.leave (v := none) (fun _ => rfl) hlk
  exact ⟨_, _, X.returnOut hx hret hd hr, hrun, hended, _, _, rfl, hq, ⟨_, rfl⟩, hW, hsame.mono hc hs⟩
/-- a static call of a body that writes nothing -/
theorem own_call (X : Stand p l e R s m args below meth c T locs cells slots) (hx : p.tables.exec = Jvm.exec) {Z : State} (hZ : Z.Warmed39 s.vm) {a0 : Array Value} {own : String} {index : Nat} {y : MethodName} {bytes : ByteArray} {maxL : Nat} {ret : Option FieldType} {rm : Room} (hown : s.vm.findClass own = some m.cls)
    (w1 : (Cond.methodLink own index y).before a0 Z = true) (w2 : (Cond.static y).before a0 Z = true) (w3 : (Cond.initialized y.cls).before a0 Z = true) (w4 : (Cond.code y bytes maxL ret).before a0 Z = true) (hy : y.cls ≠ "java/lang/invoke/MethodHandle" ∧ y.cls ≠ "java/lang/invoke/VarHandle")
    {as' : Array Value} {h : Heap} {r : Option Value} (hM : MetFree l y (head1 [Cond.code y bytes maxL ret] rm) (fun a U => a = as' ∧ Z.Warmed39 U.vm ∧ U.heap = h) (fun _ _ _ _ _ => True) (fun _ U o U' => ∃ v L, o = .returned v ∧ own_Q r h v U'.heap L ∧ FrameEnd U o U' L rm.cells rm.slots)) (hc0 : rm.cells = 0) (hs0 : rm.slots = 0) (eT : T.heap = h)
    {W : Nat} (hf : rm.frames + 1 ≤ R.frames) (hl : W + (maxL + 11) + rm.locals ≤ R.locals) (hcR : cells ≤ R.cells) (hsR : slots ≤ R.slots) {g : JFrame} (hg : g.method = m) (hsize : g.locals.size = c.maxLocals) {argsL rest : List Value} (hlen : ∀ sig, parseMethodDescriptor y.desc = some sig → argsL.length = sig.parameters.length) (has : argsL.toArray = as') (hstack : g.stack = argsL.reverse ++ rest)
    (hW : 2 * g.monitorRoom + (rest.map fun v => v.category).sum ≤ W) (hdg : decode c.code g.pc = .ok (.invokestatic index, 3)) :
    ∃ T', Stand p l e R s m args below meth c T' locs cells slots ∧ T'.heap = h ∧ ∀ t, Steps p.tables e below (T'.setTop { g with pc := g.pc + 3, stack := r.toList ++ rest }) t → Steps p.tables e below (T.setTop g) t := by
  obtain ⟨_, _, ⟨T2, L2, k2, n2⟩, -, X2, ⟨Lc2, hQ2, l2, y2, z2⟩, st2⟩ := Jvm.LawKit.callS X hx hown (mvT hZ w1) (mvT hZ w2) (mvT hZ w3) (mvT hZ w4) hy (backOf (W := W) hM hZ w4 w3 hf hl) hg hsize hlen hstack hW hdg (fun _ _ => ⟨has, eT, (by show cells + rm.cells ≤ R.cells; rw [hc0]; exact hcR), (by show slots + rm.slots ≤ R.slots; rw [hs0]; exact hsR)⟩)
  dsimp only [Pt.U, Pt.locs, Pt.cells, Pt.slots] at X2 l2 y2 z2 st2 hQ2
  obtain ⟨rfl, rfl, e2⟩ := hQ2
  rw [hc0] at y2
  rw [hs0] at z2
  rw [List.append_nil] at l2
  subst l2 y2 z2
  exact ⟨T2, X2, e2, st2⟩
end Own

/-! arrays: at a stands an array of n values, the j-th f j -/
def own_A (Z : State) (h : Heap) (a : Addr) (ty : FieldType) (n : Int32) (f : Int32 → Int32) : Prop :=
  ∃ c : Cell, Arr Z h a c ty ∧ c.slots.size = n.toNatClampNeg ∧ ¬ n < 0 ∧ ∀ j : Int32, ¬ j < 0 → j < n → c.slots[j.toNatClampNeg]? = some (.int (f j))
def own_set (f : Int32 → Int32) (j v : Int32) (i : Int32) : Int32 := if i = j then v else f i
theorem own_clamp {j n : Int32} (h0 : ¬ j < 0) (h1 : j < n) : j.toNatClampNeg < n.toNatClampNeg := by
  rw [Int32.lt_iff_toInt_lt] at h0 h1
  have : (0 : Int32).toInt = 0 := rfl
  show j.toInt.toNat < n.toInt.toNat
  omega
theorem own_clinj {i j : Int32} (h0 : ¬ i < 0) (h1 : ¬ j < 0) (h : i.toNatClampNeg = j.toNatClampNeg) : i = j := by
  rw [Int32.lt_iff_toInt_lt] at h0 h1
  have z : (0 : Int32).toInt = 0 := rfl
  have e : i.toInt.toNat = j.toInt.toNat := h
  apply Int32.toInt_inj.mp
  omega
theorem own_A_new {Z : State} {h : Heap} {a : Addr} {k : ClassId} {ty : FieldType} {n : Int32} (A : Arr Z h a (newA k ty n) ty) (q : ¬ n < 0) (hd : defaultValue ty = .int 0) : own_A Z h a ty n (fun _ => 0) := by
  obtain ⟨c, h1, -, h3, h4, h5, -⟩ := Arv.new A q
  refine ⟨c, h1, h3, q, fun j h0 hj => ?_⟩
  have := h5 j.toNatClampNeg (by rw [h3]; exact own_clamp h0 hj)
  rw [this, hd]
  rfl
theorem own_A_set {Z : State} {h h' : Heap} {a : Addr} {ty : FieldType} {n j v : Int32} {f : Int32 → Int32} (A : own_A Z h a ty n f) (h0 : ¬ j < 0) (h1 : j < n) (W : Wr h h' a j.toNatClampNeg (.int v)) : own_A Z h' a ty n (own_set f j v) := by
  obtain ⟨c, A1, A2, A3, A4⟩ := A
  refine ⟨_, A1.same W, by rw [← A2]; simp [Cell.setSlot], A3, fun i i0 i1 => ?_⟩
  show (c.slots.setIfInBounds j.toNatClampNeg (.int v))[i.toNatClampNeg]? = _
  by_cases e : i = j
  · subst e
    rw [Array.getElem?_setIfInBounds_self_of_lt (by rw [A2]; exact own_clamp h0 h1)]
    simp [own_set]
  · rw [Array.getElem?_setIfInBounds_ne (fun q => e (own_clinj i0 h0 q.symm)), A4 i i0 i1]
    simp [own_set, e]
theorem own_A_other {Z : State} {h h' : Heap} {a b : Addr} {ty : FieldType} {n : Int32} {f : Int32 → Int32} {sl : Nat} {v : Value} (A : own_A Z h a ty n f) (W : Wr h h' b sl v) (q : a ≠ b) : own_A Z h' a ty n f := by
  obtain ⟨c, A1, A2⟩ := A
  exact ⟨c, A1.other W q, A2⟩
theorem own_A_ext {Z : State} {h h' : Heap} {a : Addr} {ty : FieldType} {n : Int32} {f : Int32 → Int32} (A : own_A Z h a ty n f) (E : Ext h h') : own_A Z h' a ty n f := by
  obtain ⟨c, A1, A2⟩ := A
  exact ⟨c, A1.ext E, A2⟩
theorem own_A_lt {Z : State} {h : Heap} {a : Addr} {ty : FieldType} {n : Int32} {f : Int32 → Int32} (A : own_A Z h a ty n f) : a < h.size := by
  obtain ⟨c, A1, A2⟩ := A
  exact A1.lt
section OwnA
variable {p : Program} {l : Launch} {e : Env} {R : Room} {s : State} {m : MethodId} {args : Array Value} {below : List Frame} {meth : Method} {c : Code} {T : State} {locs : List Loc} {cells slots : Nat} {Z : State} {h : Heap} {n0 : Nat}
theorem own_new (X : Stand p l e R s m args below meth c T locs cells slots) (hx : p.tables.exec = Jvm.exec) (hZ : Z.Warmed39 s.vm) {a0 : Array Value} {aty : ArrayType} (w : (Cond.arrayClass (newarray.typeOf aty)).before a0 Z = true) (eT : T.heap = h) (hn0 : n0 ≤ h.size) (hdv : defaultValue (newarray.typeOf aty) = .int 0) {g : JFrame} (hg : g.method = m) (hd : decode c.code g.pc = .ok (.newarray aty, 2)) {n : Int32} {rest : List Value} (hs : g.stack = .int n :: rest)
    (hn : ¬ n < 0) {cap : Nat} (hcap : n.toNatClampNeg ≤ cap) (hb : cap * 8 ≤ 536870912) (hc : cells + 1 ≤ R.cells) (hl : slots + cap ≤ R.slots) :
    ∃ T' h' a, Stand p l e R s m args below meth c T' locs (cells + 1) (slots + cap) ∧ T'.heap = h' ∧ Ext h h' ∧ a = h.size ∧ n0 ≤ a ∧ own_A Z h' a (newarray.typeOf aty) n (fun _ => 0) ∧
      ∀ target, Steps p.tables e below (T'.setTop { g with pc := g.pc + 2, stack := .ref a :: rest }) target → Steps p.tables e below (T.setTop g) target := by
  obtain ⟨T', h', cA, X', e', E', A', st⟩ := newP X hx hZ w eT hg hd hs hn hcap hb hc hl
  exact ⟨T', h', h.size, X', e', E', rfl, hn0, own_A_new A' hn hdv, st⟩
theorem own_stC (X : Stand p l e R s m args below meth c T locs cells slots) (hx : p.tables.exec = Jvm.exec) (hZ : Z.Warmed39 s.vm) (eT : T.heap = h) {a : Addr} {n : Int32} {f : Int32 → Int32} (A : own_A Z h a .char n f) (N : Fr n0 locs) (ha : n0 ≤ a) {j x : Int32} (h0 : ¬ j < 0) (h1 : j < n) {g : JFrame} (hg : g.method = m) {rest : List Value} (hs : g.stack = .int x :: .int j :: .ref a :: rest) (hd : decode c.code g.pc = .ok (.castore, 1)) :
    ∃ T' h' locs', Stand p l e R s m args below meth c T' locs' cells slots ∧ T'.heap = h' ∧ Fr n0 locs' ∧ own_A Z h' a .char n (own_set f j (nar .char x)) ∧ Wr h h' a j.toNatClampNeg (.int (nar .char x)) ∧
      ∀ target, Steps p.tables e below (T'.setTop { g with pc := g.pc + 1, stack := rest }) target → Steps p.tables e below (T.setTop g) target := by
  obtain ⟨cl, Ar, Sz, Hn, Hf⟩ := A
  obtain ⟨T', h', X', e', W', st⟩ := stC X hx hZ eT Ar (inb_of Sz ⟨h0, h1⟩) hg hs hd
  exact ⟨T', h', _, X', e', Fr.snoc X' N ha, own_A_set ⟨cl, Ar, Sz, Hn, Hf⟩ h0 h1 W', W', st⟩
theorem own_stI (X : Stand p l e R s m args below meth c T locs cells slots) (hx : p.tables.exec = Jvm.exec) (hZ : Z.Warmed39 s.vm) (eT : T.heap = h) {a : Addr} {n : Int32} {f : Int32 → Int32} (A : own_A Z h a .int n f) (N : Fr n0 locs) (ha : n0 ≤ a) {j x : Int32} (h0 : ¬ j < 0) (h1 : j < n) {g : JFrame} (hg : g.method = m) {rest : List Value} (hs : g.stack = .int x :: .int j :: .ref a :: rest) (hd : decode c.code g.pc = .ok (.iastore, 1)) :
    ∃ T' h' locs', Stand p l e R s m args below meth c T' locs' cells slots ∧ T'.heap = h' ∧ Fr n0 locs' ∧ own_A Z h' a .int n (own_set f j x) ∧ Wr h h' a j.toNatClampNeg (.int x) ∧
      ∀ target, Steps p.tables e below (T'.setTop { g with pc := g.pc + 1, stack := rest }) target → Steps p.tables e below (T.setTop g) target := by
  obtain ⟨cl, Ar, Sz, Hn, Hf⟩ := A
  obtain ⟨T', h', X', e', W', st⟩ := stI X hx hZ eT Ar (inb_of Sz ⟨h0, h1⟩) hg hs hd
  exact ⟨T', h', _, X', e', Fr.snoc X' N ha, own_A_set ⟨cl, Ar, Sz, Hn, Hf⟩ h0 h1 W', W', st⟩
theorem own_stB (X : Stand p l e R s m args below meth c T locs cells slots) (hx : p.tables.exec = Jvm.exec) (hZ : Z.Warmed39 s.vm) (eT : T.heap = h) {a : Addr} {n : Int32} {f : Int32 → Int32} (A : own_A Z h a .byte n f) (N : Fr n0 locs) (ha : n0 ≤ a) {j x : Int32} (h0 : ¬ j < 0) (h1 : j < n) {g : JFrame} (hg : g.method = m) {rest : List Value} (hs : g.stack = .int x :: .int j :: .ref a :: rest) (hd : decode c.code g.pc = .ok (.bastore, 1)) :
    ∃ T' h' locs', Stand p l e R s m args below meth c T' locs' cells slots ∧ T'.heap = h' ∧ Fr n0 locs' ∧ own_A Z h' a .byte n (own_set f j (nar .byte x)) ∧ Wr h h' a j.toNatClampNeg (.int (nar .byte x)) ∧
      ∀ target, Steps p.tables e below (T'.setTop { g with pc := g.pc + 1, stack := rest }) target → Steps p.tables e below (T.setTop g) target := by
  obtain ⟨cl, Ar, Sz, Hn, Hf⟩ := A
  obtain ⟨T', h', X', e', W', st⟩ := stB X hx hZ eT Ar (inb_of Sz ⟨h0, h1⟩) hg hs hd
  exact ⟨T', h', _, X', e', Fr.snoc X' N ha, own_A_set ⟨cl, Ar, Sz, Hn, Hf⟩ h0 h1 W', W', st⟩
theorem own_ldC (X : Stand p l e R s m args below meth c T locs cells slots) (hx : p.tables.exec = Jvm.exec) (hZ : Z.Warmed39 s.vm) (eT : T.heap = h) {a : Addr} {n : Int32} {f : Int32 → Int32} (A : own_A Z h a .char n f) {j : Int32} (h0 : ¬ j < 0) (h1 : j < n) {g : JFrame} (hg : g.method = m) {rest : List Value} (hs : g.stack = .int j :: .ref a :: rest) (hd : decode c.code g.pc = .ok (.caload, 1)) :
    ∀ target, Steps p.tables e below (T.setTop { g with pc := g.pc + 1, stack := .int (f j) :: rest }) target → Steps p.tables e below (T.setTop g) target := by
  obtain ⟨cl, Ar, Sz, Hn, Hf⟩ := A
  exact fun t k => X.caload hx (j := j) (v := .int (f j)) (by rw [eT]; exact Ar.1) (State.isArrayOf_alike hZ.alike Ar.2.1) Ar.2.2 (inb_of Sz ⟨h0, h1⟩) (Hf j h0 h1) hg hs hd t k
theorem own_ldI (X : Stand p l e R s m args below meth c T locs cells slots) (hx : p.tables.exec = Jvm.exec) (hZ : Z.Warmed39 s.vm) (eT : T.heap = h) {a : Addr} {n : Int32} {f : Int32 → Int32} (A : own_A Z h a .int n f) {j : Int32} (h0 : ¬ j < 0) (h1 : j < n) {g : JFrame} (hg : g.method = m) {rest : List Value} (hs : g.stack = .int j :: .ref a :: rest) (hd : decode c.code g.pc = .ok (.iaload, 1)) :
    ∀ target, Steps p.tables e below (T.setTop { g with pc := g.pc + 1, stack := .int (f j) :: rest }) target → Steps p.tables e below (T.setTop g) target := by
  obtain ⟨cl, Ar, Sz, Hn, Hf⟩ := A
  exact fun t k => X.iaload hx (j := j) (v := .int (f j)) (by rw [eT]; exact Ar.1) (State.isArrayOf_alike hZ.alike Ar.2.1) Ar.2.2 (inb_of Sz ⟨h0, h1⟩) (Hf j h0 h1) hg hs hd t k
theorem own_ldB (X : Stand p l e R s m args below meth c T locs cells slots) (hx : p.tables.exec = Jvm.exec) (hZ : Z.Warmed39 s.vm) (eT : T.heap = h) {a : Addr} {n : Int32} {f : Int32 → Int32} (A : own_A Z h a .byte n f) {j : Int32} (h0 : ¬ j < 0) (h1 : j < n) {g : JFrame} (hg : g.method = m) {rest : List Value} (hs : g.stack = .int j :: .ref a :: rest) (hd : decode c.code g.pc = .ok (.baload, 1)) :
    ∀ target, Steps p.tables e below (T.setTop { g with pc := g.pc + 1, stack := .int (f j) :: rest }) target → Steps p.tables e below (T.setTop g) target := by
  obtain ⟨cl, Ar, Sz, Hn, Hf⟩ := A
  exact fun t k => X.baloadBytes hx (j := j) (v := .int (f j)) (by rw [eT]; exact Ar.1) (State.isArrayOf_alike hZ.alike Ar.2.1) Ar.2.2 (inb_of Sz ⟨h0, h1⟩) (Hf j h0 h1) hg hs hd t k
theorem own_len (X : Stand p l e R s m args below meth c T locs cells slots) (hx : p.tables.exec = Jvm.exec) (hZ : Z.Warmed39 s.vm) (eT : T.heap = h) {a : Addr} {ty : FieldType} {n : Int32} {f : Int32 → Int32} (A : own_A Z h a ty n f) {g : JFrame} (hg : g.method = m) {rest : List Value} (hs : g.stack = .ref a :: rest) (hd : decode c.code g.pc = .ok (.arraylength, 1)) :
    ∀ target, Steps p.tables e below (T.setTop { g with pc := g.pc + 1, stack := .int n :: rest }) target → Steps p.tables e below (T.setTop g) target := by
  obtain ⟨cl, Ar, Sz, Hn, Hf⟩ := A
  intro t k
  refine X.arraylength hx (by rw [eT]; exact Ar.1) (State.isArrayOf_alike hZ.alike Ar.2.1) hg hs hd t ?_
  rw [len_of Sz Hn]
  exact k
end OwnA

theorem own_m31 (x : Int32) : 0 ≤ (x &&& (2147483647 : Int32)).toInt := by
  have h : (x &&& (2147483647 : Int32)).toBitVec.msb = false := by
    rw [Int32.toBitVec_and, BitVec.msb_and, show (2147483647 : Int32).toBitVec.msb = false from rfl, Bool.and_false]
  rw [← Int32.toInt_toBitVec, BitVec.toInt_eq_msb_cond, h]
  simp
theorem own_rem_i {x y : Int32} (hx : 0 ≤ x.toInt) (hy : 0 < y.toInt) : (own_rem x y).toInt = x.toInt % y.toInt := by
  have lx := Int32.toInt_lt x
  have ly := Int32.toInt_lt y
  have e1 : (x / y).toInt = x.toInt / y.toInt := by
    rw [Int32.toInt_div, Int.tdiv_eq_ediv_of_nonneg hx]
    have a1 : 0 ≤ x.toInt / y.toInt := Int.ediv_nonneg hx (Int.le_of_lt hy)
    have a2 : x.toInt / y.toInt ≤ x.toInt := Int.ediv_le_self _ hx
    rw [Int.bmod_eq_of_le] <;> omega
  have b0 : 0 ≤ x.toInt / y.toInt := Int.ediv_nonneg hx (Int.le_of_lt hy)
  have b1 : x.toInt / y.toInt * y.toInt ≤ x.toInt := Int.ediv_mul_le _ (by omega)
  have b2 : 0 ≤ x.toInt / y.toInt * y.toInt := Int.mul_nonneg b0 (Int.le_of_lt hy)
  have e2 : (x / y * y).toInt = x.toInt / y.toInt * y.toInt := by
    rw [Int32.toInt_mul, e1, Int.bmod_eq_of_le] <;> omega
  have b3 : x.toInt % y.toInt = x.toInt - x.toInt / y.toInt * y.toInt := by
    have := Int.mul_ediv_add_emod x.toInt y.toInt
    rw [Int.mul_comm] at this
    omega
  rw [own_rem, Int32.toInt_sub, e2, Int.bmod_eq_of_le] <;> omega
theorem own_add_i {x y : Int32} (h1 : -2147483648 ≤ x.toInt + y.toInt) (h2 : x.toInt + y.toInt < 2147483648) : (x + y).toInt = x.toInt + y.toInt := by
  rw [Int32.toInt_add, Int.bmod_eq_of_le] <;> omega
theorem own_sub_i {x y : Int32} (h1 : -2147483648 ≤ x.toInt - y.toInt) (h2 : x.toInt - y.toInt < 2147483648) : (x - y).toInt = x.toInt - y.toInt := by
  rw [Int32.toInt_sub, Int.bmod_eq_of_le] <;> omega
theorem own_ne0 {y : Int32} (hy : 0 < y.toInt) : y ≠ 0 := fun h => by rw [h] at hy; exact absurd hy (by decide)
theorem own_mask (x m : Int32) (hm : 0 ≤ m.toInt) : 0 ≤ (x &&& m).toInt ∧ (x &&& m).toInt ≤ m.toInt := by
  have hm' : m.toBitVec.msb = false := by
    rw [← Int32.toInt_toBitVec] at hm
    exact BitVec.msb_eq_false_iff_two_mul_lt.mpr (by have := BitVec.toInt_eq_toNat_cond m.toBitVec; split at this <;> omega)
  have h1 : (x &&& m).toBitVec.msb = false := by rw [Int32.toBitVec_and, BitVec.msb_and, hm', Bool.and_false]
  have e1 : (x &&& m).toInt = ((x &&& m).toBitVec.toNat : Int) := by rw [← Int32.toInt_toBitVec, BitVec.toInt_eq_msb_cond, h1]; simp
  have e2 : m.toInt = (m.toBitVec.toNat : Int) := by rw [← Int32.toInt_toBitVec, BitVec.toInt_eq_msb_cond, hm']; simp
  have h2 : (x &&& m).toBitVec.toNat ≤ m.toBitVec.toNat := by rw [Int32.toBitVec_and, BitVec.toNat_and]; exact Nat.and_le_right
  omega
theorem own_lt {x y : Int32} : x < y ↔ x.toInt < y.toInt := Int32.lt_iff_toInt_lt
theorem own_inc {i n : Int32} (h : i < n) : (i + 1).toInt = i.toInt + 1 := by
  rw [own_lt] at h
  have a := Int32.toInt_lt n
  have b := Int32.le_toInt i
  have e : (1 : Int32).toInt = 1 := rfl
  rw [own_add_i (by omega) (by omega), e]
theorem own_of_i {x y : Int32} (h : x.toInt = y.toInt) : x = y := Int32.toInt_inj.mp h

theorem d1_0 : decode prog_100_method_2_code 0 = .ok (.iload_n 0, 1) := by decide +kernel
theorem d1_1 : decode prog_100_method_2_code 1 = .ok (.bipush 9, 2) := by decide +kernel
theorem d1_3 : decode prog_100_method_2_code 3 = .ok (.if_icmp .eq 51, 3) := by decide +kernel
theorem d1_6 : decode prog_100_method_2_code 6 = .ok (.iload_n 0, 1) := by decide +kernel
theorem d1_7 : decode prog_100_method_2_code 7 = .ok (.bipush 10, 2) := by decide +kernel
theorem d1_9 : decode prog_100_method_2_code 9 = .ok (.if_icmp .eq 45, 3) := by decide +kernel
theorem d1_12 : decode prog_100_method_2_code 12 = .ok (.iload_n 0, 1) := by decide +kernel
theorem d1_13 : decode prog_100_method_2_code 13 = .ok (.bipush 13, 2) := by decide +kernel
theorem d1_15 : decode prog_100_method_2_code 15 = .ok (.if_icmp .eq 39, 3) := by decide +kernel
theorem d1_18 : decode prog_100_method_2_code 18 = .ok (.iload_n 0, 1) := by decide +kernel
theorem d1_19 : decode prog_100_method_2_code 19 = .ok (.bipush 32, 2) := by decide +kernel
theorem d1_21 : decode prog_100_method_2_code 21 = .ok (.if_icmp .lt 9, 3) := by decide +kernel
theorem d1_24 : decode prog_100_method_2_code 24 = .ok (.iload_n 0, 1) := by decide +kernel
theorem d1_25 : decode prog_100_method_2_code 25 = .ok (.ldc 7, 2) := by decide +kernel
theorem d1_27 : decode prog_100_method_2_code 27 = .ok (.if_icmp .le 27, 3) := by decide +kernel
theorem d1_30 : decode prog_100_method_2_code 30 = .ok (.iload_n 0, 1) := by decide +kernel
theorem d1_31 : decode prog_100_method_2_code 31 = .ok (.ldc 8, 2) := by decide +kernel
theorem d1_33 : decode prog_100_method_2_code 33 = .ok (.if_icmp .lt 9, 3) := by decide +kernel
theorem d1_36 : decode prog_100_method_2_code 36 = .ok (.iload_n 0, 1) := by decide +kernel
theorem d1_37 : decode prog_100_method_2_code 37 = .ok (.ldc 9, 2) := by decide +kernel
theorem d1_39 : decode prog_100_method_2_code 39 = .ok (.if_icmp .le 15, 3) := by decide +kernel
theorem d1_42 : decode prog_100_method_2_code 42 = .ok (.iload_n 0, 1) := by decide +kernel
theorem d1_43 : decode prog_100_method_2_code 43 = .ok (.ldc 10, 2) := by decide +kernel
theorem d1_45 : decode prog_100_method_2_code 45 = .ok (.if_icmp .lt 13, 3) := by decide +kernel
theorem d1_48 : decode prog_100_method_2_code 48 = .ok (.iload_n 0, 1) := by decide +kernel
theorem d1_49 : decode prog_100_method_2_code 49 = .ok (.ldc 11, 2) := by decide +kernel
theorem d1_51 : decode prog_100_method_2_code 51 = .ok (.if_icmp .gt 7, 3) := by decide +kernel
theorem d1_54 : decode prog_100_method_2_code 54 = .ok (.iconst 1, 1) := by decide +kernel
theorem d1_55 : decode prog_100_method_2_code 55 = .ok (.goto 4, 3) := by decide +kernel
theorem d1_58 : decode prog_100_method_2_code 58 = .ok (.iconst 0, 1) := by decide +kernel
theorem d1_59 : decode prog_100_method_2_code 59 = .ok (.ireturn, 1) := by decide +kernel
def own_v1_59 (q : Int32) (j59_S0 : Int32) : Int32 := (nar .boolean j59_S0)
def own_v1_58 (q : Int32) : Int32 := (own_v1_59 q (0 : Int32))
def own_v1_54 (q : Int32) : Int32 := (own_v1_59 q (1 : Int32))
def own_v1_42 (q : Int32) : Int32 := (if q < (65536 : Int32) then (own_v1_58 q) else (if (1114111 : Int32) < q then (own_v1_58 q) else (own_v1_54 q)))
def own_v1_30 (q : Int32) : Int32 := (if q < (57344 : Int32) then (own_v1_42 q) else (if (65533 : Int32) < q then (own_v1_42 q) else (own_v1_54 q)))
def own_v1_0 (q : Int32) : Int32 := (if q = (9 : Int32) then (own_v1_54 q) else (if q = (10 : Int32) then (own_v1_54 q) else (if q = (13 : Int32) then (own_v1_54 q) else (if q < (32 : Int32) then (own_v1_30 q) else (if (55295 : Int32) < q then (own_v1_30 q) else (own_v1_54 q))))))
theorem pn_1 : plainName "com/example/buccleuch/buccleuch/XmlChars" = true := by first | (simp [plainName, overriddenIn]; done) | decide +kernel
theorem ef_1 (m : MethodId) (q : Int32) : entryFrame m #[(.int q)] 1 = mkF m 0 #[.val (.int q)] [] := by first | (simp [entryFrame, mkF, argsToLocals, Value.category]; done) | rfl
set_option maxRecDepth 65536 in
set_option maxHeartbeats 40000000 in
theorem rm1 (l : Launch) (Z : State) (a0 : Array Value) (hw : ∀ d ∈ tables_1, d.before a0 Z = true) (ws : List Jvm.Cond) (q : Int32) (h0 : Heap)  :
    MetFree l (⟨"com/example/buccleuch/buccleuch/XmlChars", "isChar", "(I)Z"⟩ : MethodName) (head1 (Jvm.Cond.code (⟨"com/example/buccleuch/buccleuch/XmlChars", "isChar", "(I)Z"⟩ : MethodName) prog_100_method_2_code 1 (some .boolean) :: ws) ({ frames := 0, cells := 0, slots := 0, locals := 0 } : Room)) (fun a U => a = #[(.int q)] ∧ Z.Warmed39 U.vm ∧ U.heap = h0) (fun _ _ _ _ _ => True) (fun _ U o U' => ∃ v L, o = .returned v ∧ own_Q (some (.int (own_v1_0 q))) h0 v U'.heap L ∧ FrameEnd U o U' L ({ frames := 0, cells := 0, slots := 0, locals := 0 } : Room).cells ({ frames := 0, cells := 0, slots := 0, locals := 0 } : Room).slots) := by
  refine MetFree.of_bodySF (plainFor_of_name pn_1) hisR ?_
  intro p e s m args below meth c s₁ Bd hml0 hP hK
  obtain ⟨rfl, hZ, hh⟩ := hP
  have hx := Bd.exec
  have hby := Bd.bytes
  have hml : c.maxLocals = 1 := hml0
  have hlk : meth.locks = false := Bd.notSynchronized
  have hown : s.vm.findClass "com/example/buccleuch/buccleuch/XmlChars" = some m.cls := findClass_of_methodNamed Bd.named
  have X0 : Stand p l e ({ frames := 0, cells := 0, slots := 0, locals := 0 } : Room) s m #[(.int q)] below meth c s₁ [] 0 0 := Stand.of_body Bd
  have e0 : s₁.heap = h0 := by rw [← hh, Bd.state]; rfl
  have b59 : ∀ (T : State), Stand p l e ({ frames := 0, cells := 0, slots := 0, locals := 0 } : Room) s m #[(.int q)] below meth c T [] 0 0 → T.heap = h0 → ∀ (j59_S0 : Int32), own_G p e below s (own_Q (some (.int (own_v1_59 q j59_S0))) h0) ({ frames := 0, cells := 0, slots := 0, locals := 0 } : Room).cells ({ frames := 0, cells := 0, slots := 0, locals := 0 } : Room).slots (T.setTop (mkF m 59 #[.val (.int q)] [(.int j59_S0)])) := by
    intro T X eT j59_S0
    show own_G p e below s (own_Q (some (.int (nar .boolean j59_S0))) h0) ({ frames := 0, cells := 0, slots := 0, locals := 0 } : Room).cells ({ frames := 0, cells := 0, slots := 0, locals := 0 } : Room).slots (T.setTop (mkF m 59 #[.val (.int q)] [(.int j59_S0)]))
    exact own_retN X hx hlk (t := .boolean) Bd.returns (by simp) (hb hby d1_59) (by decide) (by decide) ⟨rfl, rfl, eT⟩
  have b58 : ∀ (T : State), Stand p l e ({ frames := 0, cells := 0, slots := 0, locals := 0 } : Room) s m #[(.int q)] below meth c T [] 0 0 → T.heap = h0 → own_G p e below s (own_Q (some (.int (own_v1_58 q))) h0) ({ frames := 0, cells := 0, slots := 0, locals := 0 } : Room).cells ({ frames := 0, cells := 0, slots := 0, locals := 0 } : Room).slots (T.setTop (mkF m 58 #[.val (.int q)] [])) := by
    intro T X eT
    show own_G p e below s (own_Q (some (.int (own_v1_59 q (0 : Int32)))) h0) ({ frames := 0, cells := 0, slots := 0, locals := 0 } : Room).cells ({ frames := 0, cells := 0, slots := 0, locals := 0 } : Room).slots (T.setTop (mkF m 58 #[.val (.int q)] []))
    refine own_go (fun _ => XS.iconst X.here hx rfl (hb hby d1_58)) ?_
    exact b59 T X eT (0 : Int32)
  have b54 : ∀ (T : State), Stand p l e ({ frames := 0, cells := 0, slots := 0, locals := 0 } : Room) s m #[(.int q)] below meth c T [] 0 0 → T.heap = h0 → own_G p e below s (own_Q (some (.int (own_v1_54 q))) h0) ({ frames := 0, cells := 0, slots := 0, locals := 0 } : Room).cells ({ frames := 0, cells := 0, slots := 0, locals := 0 } : Room).slots (T.setTop (mkF m 54 #[.val (.int q)] [])) := by
    intro T X eT
    show own_G p e below s (own_Q (some (.int (own_v1_59 q (1 : Int32)))) h0) ({ frames := 0, cells := 0, slots := 0, locals := 0 } : Room).cells ({ frames := 0, cells := 0, slots := 0, locals := 0 } : Room).slots (T.setTop (mkF m 54 #[.val (.int q)] []))
    refine own_go (fun _ => XS.iconst X.here hx rfl (hb hby d1_54)) ?_
    show own_G p e below s _ _ _ (T.setTop (mkF m 55 #[.val (.int q)] [(.int (1 : Int32))]))
    refine own_go (fun _ => XS.goto X.here hx rfl (pc0 := 55) (pc' := 59) rfl (hb hby d1_55) (by decide) (by decide)) ?_
    exact b59 T X eT (1 : Int32)
  have b42 : ∀ (T : State), Stand p l e ({ frames := 0, cells := 0, slots := 0, locals := 0 } : Room) s m #[(.int q)] below meth c T [] 0 0 → T.heap = h0 → own_G p e below s (own_Q (some (.int (own_v1_42 q))) h0) ({ frames := 0, cells := 0, slots := 0, locals := 0 } : Room).cells ({ frames := 0, cells := 0, slots := 0, locals := 0 } : Room).slots (T.setTop (mkF m 42 #[.val (.int q)] [])) := by
    intro T X eT
    show own_G p e below s (own_Q (some (.int (if q < (65536 : Int32) then (own_v1_58 q) else (if (1114111 : Int32) < q then (own_v1_58 q) else (own_v1_54 q))))) h0) ({ frames := 0, cells := 0, slots := 0, locals := 0 } : Room).cells ({ frames := 0, cells := 0, slots := 0, locals := 0 } : Room).slots (T.setTop (mkF m 42 #[.val (.int q)] []))
    refine own_go (fun _ => XS.iloadN X.here hx rfl (hb hby d1_42) rfl) ?_
    show own_G p e below s _ _ _ (T.setTop (mkF m 43 #[.val (.int q)] [(.int q)]))
    refine own_go (fun _ => X.ldcInt hx hown (mvT hZ (hw _ (List.mem_of_getElem? (i := 18) rfl))) (g := (mkF m 43 #[.val (.int q)] [(.int q)])) rfl (hb hby d1_43) _) ?_
    show own_G p e below s _ _ _ (T.setTop (mkF m 45 #[.val (.int q)] [(.int (65536 : Int32)), (.int q)]))
    by_cases hc45 : q < (65536 : Int32)
    · refine own_eq (if_pos hc45) ?_
      refine own_go (fun _ => XS.icmpYes X.here hx rfl (pc0 := 45) (pc' := 58) rfl (hb hby d1_45) rfl (tlt hc45).1 (by decide) (by decide)) ?_
      exact b58 T X eT
    · refine own_eq (if_neg hc45) ?_
      refine own_go (fun _ => XS.icmpNo X.here hx rfl (hb hby d1_45) rfl (flt hc45).1) ?_
      show own_G p e below s _ _ _ (T.setTop (mkF m 48 #[.val (.int q)] []))
      refine own_go (fun _ => XS.iloadN X.here hx rfl (hb hby d1_48) rfl) ?_
      show own_G p e below s _ _ _ (T.setTop (mkF m 49 #[.val (.int q)] [(.int q)]))
      refine own_go (fun _ => X.ldcInt hx hown (mvT hZ (hw _ (List.mem_of_getElem? (i := 25) rfl))) (g := (mkF m 49 #[.val (.int q)] [(.int q)])) rfl (hb hby d1_49) _) ?_
      show own_G p e below s _ _ _ (T.setTop (mkF m 51 #[.val (.int q)] [(.int (1114111 : Int32)), (.int q)]))
      by_cases hc51 : (1114111 : Int32) < q
      · refine own_eq (if_pos hc51) ?_
        refine own_go (fun _ => XS.icmpYes X.here hx rfl (pc0 := 51) (pc' := 58) rfl (hb hby d1_51) rfl (tlt hc51).2.2.1 (by decide) (by decide)) ?_
        exact b58 T X eT
      · refine own_eq (if_neg hc51) ?_
        refine own_go (fun _ => XS.icmpNo X.here hx rfl (hb hby d1_51) rfl (flt hc51).2.2.1) ?_
        exact b54 T X eT
  have b30 : ∀ (T : State), Stand p l e ({ frames := 0, cells := 0, slots := 0, locals := 0 } : Room) s m #[(.int q)] below meth c T [] 0 0 → T.heap = h0 → own_G p e below s (own_Q (some (.int (own_v1_30 q))) h0) ({ frames := 0, cells := 0, slots := 0, locals := 0 } : Room).cells ({ frames := 0, cells := 0, slots := 0, locals := 0 } : Room).slots (T.setTop (mkF m 30 #[.val (.int q)] [])) := by
    intro T X eT
    show own_G p e below s (own_Q (some (.int (if q < (57344 : Int32) then (own_v1_42 q) else (if (65533 : Int32) < q then (own_v1_42 q) else (own_v1_54 q))))) h0) ({ frames := 0, cells := 0, slots := 0, locals := 0 } : Room).cells ({ frames := 0, cells := 0, slots := 0, locals := 0 } : Room).slots (T.setTop (mkF m 30 #[.val (.int q)] []))
    refine own_go (fun _ => XS.iloadN X.here hx rfl (hb hby d1_30) rfl) ?_
    show own_G p e below s _ _ _ (T.setTop (mkF m 31 #[.val (.int q)] [(.int q)]))
    refine own_go (fun _ => X.ldcInt hx hown (mvT hZ (hw _ (List.mem_of_getElem? (i := 17) rfl))) (g := (mkF m 31 #[.val (.int q)] [(.int q)])) rfl (hb hby d1_31) _) ?_
    show own_G p e below s _ _ _ (T.setTop (mkF m 33 #[.val (.int q)] [(.int (57344 : Int32)), (.int q)]))
    by_cases hc33 : q < (57344 : Int32)
    · refine own_eq (if_pos hc33) ?_
      refine own_go (fun _ => XS.icmpYes X.here hx rfl (pc0 := 33) (pc' := 42) rfl (hb hby d1_33) rfl (tlt hc33).1 (by decide) (by decide)) ?_
      exact b42 T X eT
    · refine own_eq (if_neg hc33) ?_
      refine own_go (fun _ => XS.icmpNo X.here hx rfl (hb hby d1_33) rfl (flt hc33).1) ?_
      show own_G p e below s _ _ _ (T.setTop (mkF m 36 #[.val (.int q)] []))
      refine own_go (fun _ => XS.iloadN X.here hx rfl (hb hby d1_36) rfl) ?_
      show own_G p e below s _ _ _ (T.setTop (mkF m 37 #[.val (.int q)] [(.int q)]))
      refine own_go (fun _ => X.ldcInt hx hown (mvT hZ (hw _ (List.mem_of_getElem? (i := 24) rfl))) (g := (mkF m 37 #[.val (.int q)] [(.int q)])) rfl (hb hby d1_37) _) ?_
      show own_G p e below s _ _ _ (T.setTop (mkF m 39 #[.val (.int q)] [(.int (65533 : Int32)), (.int q)]))
      by_cases hc39 : (65533 : Int32) < q
      · refine own_eq (if_pos hc39) ?_
        refine own_go (fun _ => XS.icmpNo X.here hx rfl (hb hby d1_39) rfl (tlt hc39).2.2.2) ?_
        exact b42 T X eT
      · refine own_eq (if_neg hc39) ?_
        refine own_go (fun _ => XS.icmpYes X.here hx rfl (pc0 := 39) (pc' := 54) rfl (hb hby d1_39) rfl (flt hc39).2.2.2 (by decide) (by decide)) ?_
        exact b54 T X eT
  refine own_G0 (own_go (fun _ k => castTop (ef_1 m q) k) ?_)
  show own_G p e below s (own_Q (some (.int (if q = (9 : Int32) then (own_v1_54 q) else (if q = (10 : Int32) then (own_v1_54 q) else (if q = (13 : Int32) then (own_v1_54 q) else (if q < (32 : Int32) then (own_v1_30 q) else (if (55295 : Int32) < q then (own_v1_30 q) else (own_v1_54 q)))))))) h0) ({ frames := 0, cells := 0, slots := 0, locals := 0 } : Room).cells ({ frames := 0, cells := 0, slots := 0, locals := 0 } : Room).slots (s₁.setTop (mkF m 0 #[.val (.int q)] []))
  refine own_go (fun _ => XS.iloadN X0.here hx rfl (hb hby d1_0) rfl) ?_
  show own_G p e below s _ _ _ (s₁.setTop (mkF m 1 #[.val (.int q)] [(.int q)]))
  refine own_go (fun _ => XS.bipush X0.here hx rfl (hb hby d1_1)) ?_
  show own_G p e below s _ _ _ (s₁.setTop (mkF m 3 #[.val (.int q)] [(.int (9 : Int32)), (.int q)]))
  by_cases hc3 : q = (9 : Int32)
  · refine own_eq (if_pos hc3) ?_
    refine own_go (fun _ => XS.icmpYes X0.here hx rfl (pc0 := 3) (pc' := 54) rfl (hb hby d1_3) rfl (teq hc3).1 (by decide) (by decide)) ?_
    exact b54 s₁ X0 e0
  · refine own_eq (if_neg hc3) ?_
    refine own_go (fun _ => XS.icmpNo X0.here hx rfl (hb hby d1_3) rfl (feq hc3).1) ?_
    show own_G p e below s _ _ _ (s₁.setTop (mkF m 6 #[.val (.int q)] []))
    refine own_go (fun _ => XS.iloadN X0.here hx rfl (hb hby d1_6) rfl) ?_
    show own_G p e below s _ _ _ (s₁.setTop (mkF m 7 #[.val (.int q)] [(.int q)]))
    refine own_go (fun _ => XS.bipush X0.here hx rfl (hb hby d1_7)) ?_
    show own_G p e below s _ _ _ (s₁.setTop (mkF m 9 #[.val (.int q)] [(.int (10 : Int32)), (.int q)]))
    by_cases hc9 : q = (10 : Int32)
    · refine own_eq (if_pos hc9) ?_
      refine own_go (fun _ => XS.icmpYes X0.here hx rfl (pc0 := 9) (pc' := 54) rfl (hb hby d1_9) rfl (teq hc9).1 (by decide) (by decide)) ?_
      exact b54 s₁ X0 e0
    · refine own_eq (if_neg hc9) ?_
      refine own_go (fun _ => XS.icmpNo X0.here hx rfl (hb hby d1_9) rfl (feq hc9).1) ?_
      show own_G p e below s _ _ _ (s₁.setTop (mkF m 12 #[.val (.int q)] []))
      refine own_go (fun _ => XS.iloadN X0.here hx rfl (hb hby d1_12) rfl) ?_
      show own_G p e below s _ _ _ (s₁.setTop (mkF m 13 #[.val (.int q)] [(.int q)]))
      refine own_go (fun _ => XS.bipush X0.here hx rfl (hb hby d1_13)) ?_
      show own_G p e below s _ _ _ (s₁.setTop (mkF m 15 #[.val (.int q)] [(.int (13 : Int32)), (.int q)]))
      by_cases hc15 : q = (13 : Int32)
      · refine own_eq (if_pos hc15) ?_
        refine own_go (fun _ => XS.icmpYes X0.here hx rfl (pc0 := 15) (pc' := 54) rfl (hb hby d1_15) rfl (teq hc15).1 (by decide) (by decide)) ?_
        exact b54 s₁ X0 e0
      · refine own_eq (if_neg hc15) ?_
        refine own_go (fun _ => XS.icmpNo X0.here hx rfl (hb hby d1_15) rfl (feq hc15).1) ?_
        show own_G p e below s _ _ _ (s₁.setTop (mkF m 18 #[.val (.int q)] []))
        refine own_go (fun _ => XS.iloadN X0.here hx rfl (hb hby d1_18) rfl) ?_
        show own_G p e below s _ _ _ (s₁.setTop (mkF m 19 #[.val (.int q)] [(.int q)]))
        refine own_go (fun _ => XS.bipush X0.here hx rfl (hb hby d1_19)) ?_
        show own_G p e below s _ _ _ (s₁.setTop (mkF m 21 #[.val (.int q)] [(.int (32 : Int32)), (.int q)]))
        by_cases hc21 : q < (32 : Int32)
        · refine own_eq (if_pos hc21) ?_
          refine own_go (fun _ => XS.icmpYes X0.here hx rfl (pc0 := 21) (pc' := 30) rfl (hb hby d1_21) rfl (tlt hc21).1 (by decide) (by decide)) ?_
          exact b30 s₁ X0 e0
        · refine own_eq (if_neg hc21) ?_
          refine own_go (fun _ => XS.icmpNo X0.here hx rfl (hb hby d1_21) rfl (flt hc21).1) ?_
          show own_G p e below s _ _ _ (s₁.setTop (mkF m 24 #[.val (.int q)] []))
          refine own_go (fun _ => XS.iloadN X0.here hx rfl (hb hby d1_24) rfl) ?_
          show own_G p e below s _ _ _ (s₁.setTop (mkF m 25 #[.val (.int q)] [(.int q)]))
          refine own_go (fun _ => X0.ldcInt hx hown (mvT hZ (hw _ (List.mem_of_getElem? (i := 23) rfl))) (g := (mkF m 25 #[.val (.int q)] [(.int q)])) rfl (hb hby d1_25) _) ?_
          show own_G p e below s _ _ _ (s₁.setTop (mkF m 27 #[.val (.int q)] [(.int (55295 : Int32)), (.int q)]))
          by_cases hc27 : (55295 : Int32) < q
          · refine own_eq (if_pos hc27) ?_
            refine own_go (fun _ => XS.icmpNo X0.here hx rfl (hb hby d1_27) rfl (tlt hc27).2.2.2) ?_
            exact b30 s₁ X0 e0
          · refine own_eq (if_neg hc27) ?_
            refine own_go (fun _ => XS.icmpYes X0.here hx rfl (pc0 := 27) (pc' := 54) rfl (hb hby d1_27) rfl (flt hc27).2.2.2 (by decide) (by decide)) ?_
            exact b54 s₁ X0 e0
theorem d2_0 : decode method_2_code 0 = .ok (.iload_n 0, 1) := by decide +kernel
theorem d2_1 : decode method_2_code 1 = .ok (.ifCond .lt 9, 3) := by decide +kernel
theorem d2_4 : decode method_2_code 4 = .ok (.iload_n 0, 1) := by decide +kernel
theorem d2_5 : decode method_2_code 5 = .ok (.ldc 7, 2) := by decide +kernel
theorem d2_7 : decode method_2_code 7 = .ok (.if_icmp .le 5, 3) := by decide +kernel
theorem d2_10 : decode method_2_code 10 = .ok (.iconst 0, 1) := by decide +kernel
theorem d2_11 : decode method_2_code 11 = .ok (.ireturn, 1) := by decide +kernel
theorem d2_12 : decode method_2_code 12 = .ok (.iload_n 0, 1) := by decide +kernel
theorem d2_13 : decode method_2_code 13 = .ok (.bipush 32, 2) := by decide +kernel
theorem d2_15 : decode method_2_code 15 = .ok (.if_icmp .ge 27, 3) := by decide +kernel
theorem d2_18 : decode method_2_code 18 = .ok (.iload_n 0, 1) := by decide +kernel
theorem d2_19 : decode method_2_code 19 = .ok (.bipush 9, 2) := by decide +kernel
theorem d2_21 : decode method_2_code 21 = .ok (.if_icmp .eq 15, 3) := by decide +kernel
theorem d2_24 : decode method_2_code 24 = .ok (.iload_n 0, 1) := by decide +kernel
theorem d2_25 : decode method_2_code 25 = .ok (.bipush 10, 2) := by decide +kernel
theorem d2_27 : decode method_2_code 27 = .ok (.if_icmp .eq 9, 3) := by decide +kernel
theorem d2_30 : decode method_2_code 30 = .ok (.iload_n 0, 1) := by decide +kernel
theorem d2_31 : decode method_2_code 31 = .ok (.bipush 13, 2) := by decide +kernel
theorem d2_33 : decode method_2_code 33 = .ok (.if_icmp .ne 7, 3) := by decide +kernel
theorem d2_36 : decode method_2_code 36 = .ok (.iconst 1, 1) := by decide +kernel
theorem d2_37 : decode method_2_code 37 = .ok (.goto 4, 3) := by decide +kernel
theorem d2_40 : decode method_2_code 40 = .ok (.iconst 0, 1) := by decide +kernel
theorem d2_41 : decode method_2_code 41 = .ok (.ireturn, 1) := by decide +kernel
theorem d2_42 : decode method_2_code 42 = .ok (.iload_n 0, 1) := by decide +kernel
theorem d2_43 : decode method_2_code 43 = .ok (.ldc 8, 2) := by decide +kernel
theorem d2_45 : decode method_2_code 45 = .ok (.if_icmp .lt 11, 3) := by decide +kernel
theorem d2_48 : decode method_2_code 48 = .ok (.iload_n 0, 1) := by decide +kernel
theorem d2_49 : decode method_2_code 49 = .ok (.ldc 9, 2) := by decide +kernel
theorem d2_51 : decode method_2_code 51 = .ok (.if_icmp .gt 5, 3) := by decide +kernel
theorem d2_54 : decode method_2_code 54 = .ok (.iconst 0, 1) := by decide +kernel
theorem d2_55 : decode method_2_code 55 = .ok (.ireturn, 1) := by decide +kernel
theorem d2_56 : decode method_2_code 56 = .ok (.iload_n 0, 1) := by decide +kernel
theorem d2_57 : decode method_2_code 57 = .ok (.ldc 10, 2) := by decide +kernel
theorem d2_59 : decode method_2_code 59 = .ok (.if_icmp .eq 9, 3) := by decide +kernel
theorem d2_62 : decode method_2_code 62 = .ok (.iload_n 0, 1) := by decide +kernel
theorem d2_63 : decode method_2_code 63 = .ok (.ldc 11, 2) := by decide +kernel
theorem d2_65 : decode method_2_code 65 = .ok (.if_icmp .ne 5, 3) := by decide +kernel
theorem d2_68 : decode method_2_code 68 = .ok (.iconst 0, 1) := by decide +kernel
theorem d2_69 : decode method_2_code 69 = .ok (.ireturn, 1) := by decide +kernel
theorem d2_70 : decode method_2_code 70 = .ok (.iconst 1, 1) := by decide +kernel
theorem d2_71 : decode method_2_code 71 = .ok (.ireturn, 1) := by decide +kernel
def own_v2_68 (q : Int32) : Int32 := (nar .boolean (0 : Int32))
def own_v2_56 (q : Int32) : Int32 := (if q = (65534 : Int32) then (own_v2_68 q) else (if q = (65535 : Int32) then (own_v2_68 q) else (nar .boolean (1 : Int32))))
def own_v2_41 (q : Int32) (j41_S0 : Int32) : Int32 := (nar .boolean j41_S0)
def own_v2_36 (q : Int32) : Int32 := (own_v2_41 q (1 : Int32))
def own_v2_10 (q : Int32) : Int32 := (nar .boolean (0 : Int32))
def own_v2_0 (q : Int32) : Int32 := (if q < (0 : Int32) then (own_v2_10 q) else (if (1114111 : Int32) < q then (own_v2_10 q) else (if q < (32 : Int32) then (if q = (9 : Int32) then (own_v2_36 q) else (if q = (10 : Int32) then (own_v2_36 q) else (if q = (13 : Int32) then (own_v2_36 q) else (own_v2_41 q (0 : Int32))))) else (if q < (55296 : Int32) then (own_v2_56 q) else (if (57343 : Int32) < q then (own_v2_56 q) else (nar .boolean (0 : Int32)))))))
theorem pn_2 : plainName "com/example/buccleuch/buccleuch/XmlCharsIsCharPinLaw" = true := by first | (simp [plainName, overriddenIn]; done) | decide +kernel
theorem ef_2 (m : MethodId) (q : Int32) : entryFrame m #[(.int q)] 1 = mkF m 0 #[.val (.int q)] [] := by first | (simp [entryFrame, mkF, argsToLocals, Value.category]; done) | rfl
set_option maxRecDepth 65536 in
set_option maxHeartbeats 40000000 in
theorem rm2 (l : Launch) (Z : State) (a0 : Array Value) (hw : ∀ d ∈ tables_1, d.before a0 Z = true) (ws : List Jvm.Cond) (q : Int32) (h0 : Heap)  :
    MetFree l (⟨"com/example/buccleuch/buccleuch/XmlCharsIsCharPinLaw", "ref", "(I)Z"⟩ : MethodName) (head1 (Jvm.Cond.code (⟨"com/example/buccleuch/buccleuch/XmlCharsIsCharPinLaw", "ref", "(I)Z"⟩ : MethodName) method_2_code 1 (some .boolean) :: ws) ({ frames := 0, cells := 0, slots := 0, locals := 0 } : Room)) (fun a U => a = #[(.int q)] ∧ Z.Warmed39 U.vm ∧ U.heap = h0) (fun _ _ _ _ _ => True) (fun _ U o U' => ∃ v L, o = .returned v ∧ own_Q (some (.int (own_v2_0 q))) h0 v U'.heap L ∧ FrameEnd U o U' L ({ frames := 0, cells := 0, slots := 0, locals := 0 } : Room).cells ({ frames := 0, cells := 0, slots := 0, locals := 0 } : Room).slots) := by
  refine MetFree.of_bodySF (plainFor_of_name pn_2) hisR ?_
  intro p e s m args below meth c s₁ Bd hml0 hP hK
  obtain ⟨rfl, hZ, hh⟩ := hP
  have hx := Bd.exec
  have hby := Bd.bytes
  have hml : c.maxLocals = 1 := hml0
  have hlk : meth.locks = false := Bd.notSynchronized
  have hown : s.vm.findClass "com/example/buccleuch/buccleuch/XmlCharsIsCharPinLaw" = some m.cls := findClass_of_methodNamed Bd.named
  have X0 : Stand p l e ({ frames := 0, cells := 0, slots := 0, locals := 0 } : Room) s m #[(.int q)] below meth c s₁ [] 0 0 := Stand.of_body Bd
  have e0 : s₁.heap = h0 := by rw [← hh, Bd.state]; rfl
  have b68 : ∀ (T : State), Stand p l e ({ frames := 0, cells := 0, slots := 0, locals := 0 } : Room) s m #[(.int q)] below meth c T [] 0 0 → T.heap = h0 → own_G p e below s (own_Q (some (.int (own_v2_68 q))) h0) ({ frames := 0, cells := 0, slots := 0, locals := 0 } : Room).cells ({ frames := 0, cells := 0, slots := 0, locals := 0 } : Room).slots (T.setTop (mkF m 68 #[.val (.int q)] [])) := by
    intro T X eT
    show own_G p e below s (own_Q (some (.int (nar .boolean (0 : Int32)))) h0) ({ frames := 0, cells := 0, slots := 0, locals := 0 } : Room).cells ({ frames := 0, cells := 0, slots := 0, locals := 0 } : Room).slots (T.setTop (mkF m 68 #[.val (.int q)] []))
    refine own_go (fun _ => XS.iconst X.here hx rfl (hb hby d2_68)) ?_
    show own_G p e below s _ _ _ (T.setTop (mkF m 69 #[.val (.int q)] [(.int (0 : Int32))]))
    exact own_retN X hx hlk (t := .boolean) Bd.returns (by simp) (hb hby d2_69) (by decide) (by decide) ⟨rfl, rfl, eT⟩
  have b56 : ∀ (T : State), Stand p l e ({ frames := 0, cells := 0, slots := 0, locals := 0 } : Room) s m #[(.int q)] below meth c T [] 0 0 → T.heap = h0 → own_G p e below s (own_Q (some (.int (own_v2_56 q))) h0) ({ frames := 0, cells := 0, slots := 0, locals := 0 } : Room).cells ({ frames := 0, cells := 0, slots := 0, locals := 0 } : Room).slots (T.setTop (mkF m 56 #[.val (.int q)] [])) := by
    intro T X eT
    show own_G p e below s (own_Q (some (.int (if q = (65534 : Int32) then (own_v2_68 q) else (if q = (65535 : Int32) then (own_v2_68 q) else (nar .boolean (1 : Int32)))))) h0) ({ frames := 0, cells := 0, slots := 0, locals := 0 } : Room).cells ({ frames := 0, cells := 0, slots := 0, locals := 0 } : Room).slots (T.setTop (mkF m 56 #[.val (.int q)] []))
    refine own_go (fun _ => XS.iloadN X.here hx rfl (hb hby d2_56) rfl) ?_
    show own_G p e below s _ _ _ (T.setTop (mkF m 57 #[.val (.int q)] [(.int q)]))
    refine own_go (fun _ => X.ldcInt hx hown (mvT hZ (hw _ (List.mem_of_getElem? (i := 6) rfl))) (g := (mkF m 57 #[.val (.int q)] [(.int q)])) rfl (hb hby d2_57) _) ?_
    show own_G p e below s _ _ _ (T.setTop (mkF m 59 #[.val (.int q)] [(.int (65534 : Int32)), (.int q)]))
    by_cases hc59 : q = (65534 : Int32)
    · refine own_eq (if_pos hc59) ?_
      refine own_go (fun _ => XS.icmpYes X.here hx rfl (pc0 := 59) (pc' := 68) rfl (hb hby d2_59) rfl (teq hc59).1 (by decide) (by decide)) ?_
      exact b68 T X eT
    · refine own_eq (if_neg hc59) ?_
      refine own_go (fun _ => XS.icmpNo X.here hx rfl (hb hby d2_59) rfl (feq hc59).1) ?_
      show own_G p e below s _ _ _ (T.setTop (mkF m 62 #[.val (.int q)] []))
      refine own_go (fun _ => XS.iloadN X.here hx rfl (hb hby d2_62) rfl) ?_
      show own_G p e below s _ _ _ (T.setTop (mkF m 63 #[.val (.int q)] [(.int q)]))
      refine own_go (fun _ => X.ldcInt hx hown (mvT hZ (hw _ (List.mem_of_getElem? (i := 7) rfl))) (g := (mkF m 63 #[.val (.int q)] [(.int q)])) rfl (hb hby d2_63) _) ?_
      show own_G p e below s _ _ _ (T.setTop (mkF m 65 #[.val (.int q)] [(.int (65535 : Int32)), (.int q)]))
      by_cases hc65 : q = (65535 : Int32)
      · refine own_eq (if_pos hc65) ?_
        refine own_go (fun _ => XS.icmpNo X.here hx rfl (hb hby d2_65) rfl (teq hc65).2) ?_
        exact b68 T X eT
      · refine own_eq (if_neg hc65) ?_
        refine own_go (fun _ => XS.icmpYes X.here hx rfl (pc0 := 65) (pc' := 70) rfl (hb hby d2_65) rfl (feq hc65).2 (by decide) (by decide)) ?_
        show own_G p e below s _ _ _ (T.setTop (mkF m 70 #[.val (.int q)] []))
        refine own_go (fun _ => XS.iconst X.here hx rfl (hb hby d2_70)) ?_
        show own_G p e below s _ _ _ (T.setTop (mkF m 71 #[.val (.int q)] [(.int (1 : Int32))]))
        exact own_retN X hx hlk (t := .boolean) Bd.returns (by simp) (hb hby d2_71) (by decide) (by decide) ⟨rfl, rfl, eT⟩
  have b41 : ∀ (T : State), Stand p l e ({ frames := 0, cells := 0, slots := 0, locals := 0 } : Room) s m #[(.int q)] below meth c T [] 0 0 → T.heap = h0 → ∀ (j41_S0 : Int32), own_G p e below s (own_Q (some (.int (own_v2_41 q j41_S0))) h0) ({ frames := 0, cells := 0, slots := 0, locals := 0 } : Room).cells ({ frames := 0, cells := 0, slots := 0, locals := 0 } : Room).slots (T.setTop (mkF m 41 #[.val (.int q)] [(.int j41_S0)])) := by
    intro T X eT j41_S0
    show own_G p e below s (own_Q (some (.int (nar .boolean j41_S0))) h0) ({ frames := 0, cells := 0, slots := 0, locals := 0 } : Room).cells ({ frames := 0, cells := 0, slots := 0, locals := 0 } : Room).slots (T.setTop (mkF m 41 #[.val (.int q)] [(.int j41_S0)]))
    exact own_retN X hx hlk (t := .boolean) Bd.returns (by simp) (hb hby d2_41) (by decide) (by decide) ⟨rfl, rfl, eT⟩
  have b36 : ∀ (T : State), Stand p l e ({ frames := 0, cells := 0, slots := 0, locals := 0 } : Room) s m #[(.int q)] below meth c T [] 0 0 → T.heap = h0 → own_G p e below s (own_Q (some (.int (own_v2_36 q))) h0) ({ frames := 0, cells := 0, slots := 0, locals := 0 } : Room).cells ({ frames := 0, cells := 0, slots := 0, locals := 0 } : Room).slots (T.setTop (mkF m 36 #[.val (.int q)] [])) := by
    intro T X eT
    show own_G p e below s (own_Q (some (.int (own_v2_41 q (1 : Int32)))) h0) ({ frames := 0, cells := 0, slots := 0, locals := 0 } : Room).cells ({ frames := 0, cells := 0, slots := 0, locals := 0 } : Room).slots (T.setTop (mkF m 36 #[.val (.int q)] []))
    refine own_go (fun _ => XS.iconst X.here hx rfl (hb hby d2_36)) ?_
    show own_G p e below s _ _ _ (T.setTop (mkF m 37 #[.val (.int q)] [(.int (1 : Int32))]))
    refine own_go (fun _ => XS.goto X.here hx rfl (pc0 := 37) (pc' := 41) rfl (hb hby d2_37) (by decide) (by decide)) ?_
    exact b41 T X eT (1 : Int32)
  have b10 : ∀ (T : State), Stand p l e ({ frames := 0, cells := 0, slots := 0, locals := 0 } : Room) s m #[(.int q)] below meth c T [] 0 0 → T.heap = h0 → own_G p e below s (own_Q (some (.int (own_v2_10 q))) h0) ({ frames := 0, cells := 0, slots := 0, locals := 0 } : Room).cells ({ frames := 0, cells := 0, slots := 0, locals := 0 } : Room).slots (T.setTop (mkF m 10 #[.val (.int q)] [])) := by
    intro T X eT
    show own_G p e below s (own_Q (some (.int (nar .boolean (0 : Int32)))) h0) ({ frames := 0, cells := 0, slots := 0, locals := 0 } : Room).cells ({ frames := 0, cells := 0, slots := 0, locals := 0 } : Room).slots (T.setTop (mkF m 10 #[.val (.int q)] []))
    refine own_go (fun _ => XS.iconst X.here hx rfl (hb hby d2_10)) ?_
    show own_G p e below s _ _ _ (T.setTop (mkF m 11 #[.val (.int q)] [(.int (0 : Int32))]))
    exact own_retN X hx hlk (t := .boolean) Bd.returns (by simp) (hb hby d2_11) (by decide) (by decide) ⟨rfl, rfl, eT⟩
  refine own_G0 (own_go (fun _ k => castTop (ef_2 m q) k) ?_)
  show own_G p e below s (own_Q (some (.int (if q < (0 : Int32) then (own_v2_10 q) else (if (1114111 : Int32) < q then (own_v2_10 q) else (if q < (32 : Int32) then (if q = (9 : Int32) then (own_v2_36 q) else (if q = (10 : Int32) then (own_v2_36 q) else (if q = (13 : Int32) then (own_v2_36 q) else (own_v2_41 q (0 : Int32))))) else (if q < (55296 : Int32) then (own_v2_56 q) else (if (57343 : Int32) < q then (own_v2_56 q) else (nar .boolean (0 : Int32))))))))) h0) ({ frames := 0, cells := 0, slots := 0, locals := 0 } : Room).cells ({ frames := 0, cells := 0, slots := 0, locals := 0 } : Room).slots (s₁.setTop (mkF m 0 #[.val (.int q)] []))
  refine own_go (fun _ => XS.iloadN X0.here hx rfl (hb hby d2_0) rfl) ?_
  show own_G p e below s _ _ _ (s₁.setTop (mkF m 1 #[.val (.int q)] [(.int q)]))
  by_cases hc1 : q < (0 : Int32)
  · refine own_eq (if_pos hc1) ?_
    refine own_go (fun _ => XS.ifYes X0.here hx rfl (pc0 := 1) (pc' := 10) rfl (hb hby d2_1) rfl ((if0 _ _).trans (tlt hc1).1) (by decide) (by decide)) ?_
    exact b10 s₁ X0 e0
  · refine own_eq (if_neg hc1) ?_
    refine own_go (fun _ => XS.ifNo X0.here hx rfl (hb hby d2_1) rfl ((if0 _ _).trans (flt hc1).1)) ?_
    show own_G p e below s _ _ _ (s₁.setTop (mkF m 4 #[.val (.int q)] []))
    refine own_go (fun _ => XS.iloadN X0.here hx rfl (hb hby d2_4) rfl) ?_
    show own_G p e below s _ _ _ (s₁.setTop (mkF m 5 #[.val (.int q)] [(.int q)]))
    refine own_go (fun _ => X0.ldcInt hx hown (mvT hZ (hw _ (List.mem_of_getElem? (i := 9) rfl))) (g := (mkF m 5 #[.val (.int q)] [(.int q)])) rfl (hb hby d2_5) _) ?_
    show own_G p e below s _ _ _ (s₁.setTop (mkF m 7 #[.val (.int q)] [(.int (1114111 : Int32)), (.int q)]))
    by_cases hc7 : (1114111 : Int32) < q
    · refine own_eq (if_pos hc7) ?_
      refine own_go (fun _ => XS.icmpNo X0.here hx rfl (hb hby d2_7) rfl (tlt hc7).2.2.2) ?_
      exact b10 s₁ X0 e0
    · refine own_eq (if_neg hc7) ?_
      refine own_go (fun _ => XS.icmpYes X0.here hx rfl (pc0 := 7) (pc' := 12) rfl (hb hby d2_7) rfl (flt hc7).2.2.2 (by decide) (by decide)) ?_
      show own_G p e below s _ _ _ (s₁.setTop (mkF m 12 #[.val (.int q)] []))
      refine own_go (fun _ => XS.iloadN X0.here hx rfl (hb hby d2_12) rfl) ?_
      show own_G p e below s _ _ _ (s₁.setTop (mkF m 13 #[.val (.int q)] [(.int q)]))
      refine own_go (fun _ => XS.bipush X0.here hx rfl (hb hby d2_13)) ?_
      show own_G p e below s _ _ _ (s₁.setTop (mkF m 15 #[.val (.int q)] [(.int (32 : Int32)), (.int q)]))
      by_cases hc15 : q < (32 : Int32)
      · refine own_eq (if_pos hc15) ?_
        refine own_go (fun _ => XS.icmpNo X0.here hx rfl (hb hby d2_15) rfl (tlt hc15).2.1) ?_
        show own_G p e below s _ _ _ (s₁.setTop (mkF m 18 #[.val (.int q)] []))
        refine own_go (fun _ => XS.iloadN X0.here hx rfl (hb hby d2_18) rfl) ?_
        show own_G p e below s _ _ _ (s₁.setTop (mkF m 19 #[.val (.int q)] [(.int q)]))
        refine own_go (fun _ => XS.bipush X0.here hx rfl (hb hby d2_19)) ?_
        show own_G p e below s _ _ _ (s₁.setTop (mkF m 21 #[.val (.int q)] [(.int (9 : Int32)), (.int q)]))
        by_cases hc21 : q = (9 : Int32)
        · refine own_eq (if_pos hc21) ?_
          refine own_go (fun _ => XS.icmpYes X0.here hx rfl (pc0 := 21) (pc' := 36) rfl (hb hby d2_21) rfl (teq hc21).1 (by decide) (by decide)) ?_
          exact b36 s₁ X0 e0
        · refine own_eq (if_neg hc21) ?_
          refine own_go (fun _ => XS.icmpNo X0.here hx rfl (hb hby d2_21) rfl (feq hc21).1) ?_
          show own_G p e below s _ _ _ (s₁.setTop (mkF m 24 #[.val (.int q)] []))
          refine own_go (fun _ => XS.iloadN X0.here hx rfl (hb hby d2_24) rfl) ?_
          show own_G p e below s _ _ _ (s₁.setTop (mkF m 25 #[.val (.int q)] [(.int q)]))
          refine own_go (fun _ => XS.bipush X0.here hx rfl (hb hby d2_25)) ?_
          show own_G p e below s _ _ _ (s₁.setTop (mkF m 27 #[.val (.int q)] [(.int (10 : Int32)), (.int q)]))
          by_cases hc27 : q = (10 : Int32)
          · refine own_eq (if_pos hc27) ?_
            refine own_go (fun _ => XS.icmpYes X0.here hx rfl (pc0 := 27) (pc' := 36) rfl (hb hby d2_27) rfl (teq hc27).1 (by decide) (by decide)) ?_
            exact b36 s₁ X0 e0
          · refine own_eq (if_neg hc27) ?_
            refine own_go (fun _ => XS.icmpNo X0.here hx rfl (hb hby d2_27) rfl (feq hc27).1) ?_
            show own_G p e below s _ _ _ (s₁.setTop (mkF m 30 #[.val (.int q)] []))
            refine own_go (fun _ => XS.iloadN X0.here hx rfl (hb hby d2_30) rfl) ?_
            show own_G p e below s _ _ _ (s₁.setTop (mkF m 31 #[.val (.int q)] [(.int q)]))
            refine own_go (fun _ => XS.bipush X0.here hx rfl (hb hby d2_31)) ?_
            show own_G p e below s _ _ _ (s₁.setTop (mkF m 33 #[.val (.int q)] [(.int (13 : Int32)), (.int q)]))
            by_cases hc33 : q = (13 : Int32)
            · refine own_eq (if_pos hc33) ?_
              refine own_go (fun _ => XS.icmpNo X0.here hx rfl (hb hby d2_33) rfl (teq hc33).2) ?_
              exact b36 s₁ X0 e0
            · refine own_eq (if_neg hc33) ?_
              refine own_go (fun _ => XS.icmpYes X0.here hx rfl (pc0 := 33) (pc' := 40) rfl (hb hby d2_33) rfl (feq hc33).2 (by decide) (by decide)) ?_
              show own_G p e below s _ _ _ (s₁.setTop (mkF m 40 #[.val (.int q)] []))
              refine own_go (fun _ => XS.iconst X0.here hx rfl (hb hby d2_40)) ?_
              exact b41 s₁ X0 e0 (0 : Int32)
      · refine own_eq (if_neg hc15) ?_
        refine own_go (fun _ => XS.icmpYes X0.here hx rfl (pc0 := 15) (pc' := 42) rfl (hb hby d2_15) rfl (flt hc15).2.1 (by decide) (by decide)) ?_
        show own_G p e below s _ _ _ (s₁.setTop (mkF m 42 #[.val (.int q)] []))
        refine own_go (fun _ => XS.iloadN X0.here hx rfl (hb hby d2_42) rfl) ?_
        show own_G p e below s _ _ _ (s₁.setTop (mkF m 43 #[.val (.int q)] [(.int q)]))
        refine own_go (fun _ => X0.ldcInt hx hown (mvT hZ (hw _ (List.mem_of_getElem? (i := 2) rfl))) (g := (mkF m 43 #[.val (.int q)] [(.int q)])) rfl (hb hby d2_43) _) ?_
        show own_G p e below s _ _ _ (s₁.setTop (mkF m 45 #[.val (.int q)] [(.int (55296 : Int32)), (.int q)]))
        by_cases hc45 : q < (55296 : Int32)
        · refine own_eq (if_pos hc45) ?_
          refine own_go (fun _ => XS.icmpYes X0.here hx rfl (pc0 := 45) (pc' := 56) rfl (hb hby d2_45) rfl (tlt hc45).1 (by decide) (by decide)) ?_
          exact b56 s₁ X0 e0
        · refine own_eq (if_neg hc45) ?_
          refine own_go (fun _ => XS.icmpNo X0.here hx rfl (hb hby d2_45) rfl (flt hc45).1) ?_
          show own_G p e below s _ _ _ (s₁.setTop (mkF m 48 #[.val (.int q)] []))
          refine own_go (fun _ => XS.iloadN X0.here hx rfl (hb hby d2_48) rfl) ?_
          show own_G p e below s _ _ _ (s₁.setTop (mkF m 49 #[.val (.int q)] [(.int q)]))
          refine own_go (fun _ => X0.ldcInt hx hown (mvT hZ (hw _ (List.mem_of_getElem? (i := 3) rfl))) (g := (mkF m 49 #[.val (.int q)] [(.int q)])) rfl (hb hby d2_49) _) ?_
          show own_G p e below s _ _ _ (s₁.setTop (mkF m 51 #[.val (.int q)] [(.int (57343 : Int32)), (.int q)]))
          by_cases hc51 : (57343 : Int32) < q
          · refine own_eq (if_pos hc51) ?_
            refine own_go (fun _ => XS.icmpYes X0.here hx rfl (pc0 := 51) (pc' := 56) rfl (hb hby d2_51) rfl (tlt hc51).2.2.1 (by decide) (by decide)) ?_
            exact b56 s₁ X0 e0
          · refine own_eq (if_neg hc51) ?_
            refine own_go (fun _ => XS.icmpNo X0.here hx rfl (hb hby d2_51) rfl (flt hc51).2.2.1) ?_
            show own_G p e below s _ _ _ (s₁.setTop (mkF m 54 #[.val (.int q)] []))
            refine own_go (fun _ => XS.iconst X0.here hx rfl (hb hby d2_54)) ?_
            show own_G p e below s _ _ _ (s₁.setTop (mkF m 55 #[.val (.int q)] [(.int (0 : Int32))]))
            exact own_retN X0 hx hlk (t := .boolean) Bd.returns (by simp) (hb hby d2_55) (by decide) (by decide) ⟨rfl, rfl, e0⟩
def own_n0_f : Int32 → Int32 := (own_set (own_set (own_set (own_set (own_set (own_set (own_set (own_set (own_set (own_set (own_set (own_set (own_set (own_set (own_set (own_set (own_set (own_set (own_set (own_set (own_set (own_set (fun _ => 0) (0 : Int32) (0 : Int32)) (1 : Int32) (9 : Int32)) (2 : Int32) (10 : Int32)) (3 : Int32) (13 : Int32)) (4 : Int32) (31 : Int32)) (5 : Int32) (32 : Int32)) (6 : Int32) (55295 : Int32)) (7 : Int32) (55296 : Int32)) (8 : Int32) (57343 : Int32)) (9 : Int32) (57344 : Int32)) (10 : Int32) (65533 : Int32)) (11 : Int32) (65534 : Int32)) (12 : Int32) (65535 : Int32)) (13 : Int32) (65536 : Int32)) (14 : Int32) (1114111 : Int32)) (15 : Int32) (1114112 : Int32)) (16 : Int32) (-1 : Int32)) (17 : Int32) (-2147483648 : Int32)) (18 : Int32) (2147483647 : Int32)) (19 : Int32) (127 : Int32)) (20 : Int32) (128 : Int32)) (21 : Int32) (133 : Int32))
def own_n0_149 (q1 : Int32) (q2 : Int32) : Int32 := (((own_n0_f (own_rem (q1 &&& (2147483647 : Int32)) (22 : Int32))) + (own_rem (q2 &&& (2147483647 : Int32)) (3 : Int32))) - (1 : Int32))
theorem own_idx (q : Int32) : ¬ own_rem (q &&& (2147483647 : Int32)) (22 : Int32) < 0 ∧ own_rem (q &&& (2147483647 : Int32)) (22 : Int32) < (22 : Int32) := by
  have h := own_rem_i (y := (22 : Int32)) (own_m31 q) (by decide)
  have e : (22 : Int32).toInt = 22 := rfl
  have e0 : (0 : Int32).toInt = 0 := rfl
  rw [Int32.lt_iff_toInt_lt, Int32.lt_iff_toInt_lt, h, e, e0]
  omega
def own_P (z : Int) : Prop := z = 9 ∨ z = 10 ∨ z = 13 ∨ (32 ≤ z ∧ z ≤ 55295) ∨ (57344 ≤ z ∧ z ≤ 65533) ∨ (65536 ≤ z ∧ z ≤ 1114111)
set_option maxHeartbeats 4000000 in
theorem own_same (q : Int32) : own_v1_0 q = own_v2_0 q := by
  have e0 : (0 : Int32).toInt = 0 := rfl
  have e1 : (9 : Int32).toInt = 9 := rfl
  have e2 : (10 : Int32).toInt = 10 := rfl
  have e3 : (13 : Int32).toInt = 13 := rfl
  have e4 : (32 : Int32).toInt = 32 := rfl
  have e5 : (55295 : Int32).toInt = 55295 := rfl
  have e6 : (55296 : Int32).toInt = 55296 := rfl
  have e7 : (57343 : Int32).toInt = 57343 := rfl
  have e8 : (57344 : Int32).toInt = 57344 := rfl
  have e9 : (65533 : Int32).toInt = 65533 := rfl
  have f0 : (65534 : Int32).toInt = 65534 := rfl
  have f1 : (65535 : Int32).toInt = 65535 := rfl
  have f2 : (65536 : Int32).toInt = 65536 := rfl
  have f3 : (1114111 : Int32).toInt = 1114111 := rfl
  have n1 : own_v1_54 q = 1 := rfl
  have n0 : own_v1_58 q = 0 := rfl
  have m1 : nar .boolean (1 : Int32) = 1 := rfl
  have m0 : nar .boolean (0 : Int32) = 0 := rfl
  by_cases hp : own_P q.toInt
  · have h1 : own_v1_0 q = 1 := by
      rw [own_P] at hp
      simp only [own_v1_0, own_v1_30, own_v1_42, n1, n0, Int32.lt_iff_toInt_lt, ← Int32.toInt_inj, e1, e2, e3, e4, e5, e8, e9, f2, f3]
      generalize q.toInt = z at hp ⊢
      repeat' split
      all_goals first | rfl | omega
    have h2 : own_v2_0 q = 1 := by
      rw [own_P] at hp
      simp only [own_v2_0, own_v2_10, own_v2_36, own_v2_41, own_v2_56, own_v2_68, m1, m0, Int32.lt_iff_toInt_lt, ← Int32.toInt_inj, e0, e1, e2, e3, e4, e6, e7, f0, f1, f3]
      generalize q.toInt = z at hp ⊢
      repeat' split
      all_goals first | rfl | omega
    rw [h1, h2]
  · have h1 : own_v1_0 q = 0 := by
      rw [own_P] at hp
      simp only [own_v1_0, own_v1_30, own_v1_42, n1, n0, Int32.lt_iff_toInt_lt, ← Int32.toInt_inj, e1, e2, e3, e4, e5, e8, e9, f2, f3]
      generalize q.toInt = z at hp ⊢
      repeat' split
      all_goals first | rfl | omega
    have h2 : own_v2_0 q = 0 := by
      rw [own_P] at hp
      simp only [own_v2_0, own_v2_10, own_v2_36, own_v2_41, own_v2_56, own_v2_68, m1, m0, Int32.lt_iff_toInt_lt, ← Int32.toInt_inj, e0, e1, e2, e3, e4, e6, e7, f0, f1, f3]
      generalize q.toInt = z at hp ⊢
      repeat' split
      all_goals first | rfl | omega
    rw [h1, h2]
def own_Q1 (n0 : Nat) (v : Option Value) (h : Heap) (L : List Loc) : Prop := v = some (.int (1 : Int32)) ∧ Fr n0 L
theorem pn_0 : plainName "com/example/buccleuch/buccleuch/XmlCharsIsCharPinLaw" = true := by first | (simp [plainName, overriddenIn]; done) | decide +kernel
theorem ef_0 (m : MethodId) (q0 : Int32) (q1 : Int32) (q2 : Int32) : entryFrame m #[(.int q0), (.int q1), (.int q2)] maxLocals = mkF m 0 #[.val (.int q0), .val (.int q1), .val (.int q2), .unset, .unset] [] := by first | (simp [entryFrame, mkF, argsToLocals, Value.category, maxLocals]; done) | rfl
set_option maxRecDepth 65536 in
set_option maxHeartbeats 40000000 in
theorem rm0 (l : Launch) (Z : State) (a0 : Array Value) (hw : ∀ d ∈ tables_1, d.before a0 Z = true) (ws : List Jvm.Cond) (q0 : Int32) (q1 : Int32) (q2 : Int32) (h0 : Heap) (n0 : Nat) (Z0 : n0 ≤ h0.size) :
    MetFree l x (head1 (Jvm.Cond.code x code maxLocals ret :: ws) room_1) (fun a U => a = #[(.int q0), (.int q1), (.int q2)] ∧ Z.Warmed39 U.vm ∧ U.heap = h0) (fun _ _ _ _ _ => True) (fun _ U o U' => ∃ v L, o = .returned v ∧ own_Q1 n0 v U'.heap L ∧ FrameEnd U o U' L room_1.cells room_1.slots) := by
  refine MetFree.of_bodySF (plainFor_of_name pn_0) hisR ?_
  intro p e s m args below meth c s₁ Bd hml0 hP hK
  obtain ⟨rfl, hZ, hh⟩ := hP
  have hx := Bd.exec
  have hby := Bd.bytes
  have hml : c.maxLocals = 5 := hml0
  have hlk : meth.locks = false := Bd.notSynchronized
  have hown : s.vm.findClass "com/example/buccleuch/buccleuch/XmlCharsIsCharPinLaw" = some m.cls := findClass_of_methodNamed Bd.named
  have X0 : Stand p l e room_1 s m #[(.int q0), (.int q1), (.int q2)] below meth c s₁ [] 0 0 := Stand.of_body Bd
  have e0 : s₁.heap = h0 := by rw [← hh, Bd.state]; rfl
  refine own_G0 (own_go (fun _ k => castTop (ef_0 m q0 q1 q2) k) ?_)
  show own_G p e below s (own_Q1 n0) room_1.cells room_1.slots (s₁.setTop (mkF m 0 #[.val (.int q0), .val (.int q1), .val (.int q2), .unset, .unset] []))
  refine own_go (fun _ => XS.bipush X0.here hx rfl (hb hby at_0)) ?_
  show own_G p e below s _ _ _ (s₁.setTop (mkF m 2 #[.val (.int q0), .val (.int q1), .val (.int q2), .unset, .unset] [(.int (22 : Int32))]))
  obtain ⟨T1, h1, a1, X1, e1, E1, ga1, g1, A1, st1⟩ := own_new X0 hx hZ (hw _ (List.mem_of_getElem? (i := 0) rfl)) e0 Z0 rfl (g := (mkF m 2 #[.val (.int q0), .val (.int q1), .val (.int q2), .unset, .unset] [(.int (22 : Int32))])) rfl (hb hby at_2) rfl (by decide) (cap := 22) (by decide) (by decide) (by decide) (by decide)
  refine own_go (fun _ => st1 _) ?_
  show own_G p e below s _ _ _ (T1.setTop (mkF m 4 #[.val (.int q0), .val (.int q1), .val (.int q2), .unset, .unset] [(.ref a1)]))
  refine own_go (fun _ => XS.dup X1.here hx rfl (hb hby at_4) rfl rfl) ?_
  show own_G p e below s _ _ _ (T1.setTop (mkF m 5 #[.val (.int q0), .val (.int q1), .val (.int q2), .unset, .unset] [(.ref a1), (.ref a1)]))
  refine own_go (fun _ => XS.iconst X1.here hx rfl (hb hby at_5)) ?_
  show own_G p e below s _ _ _ (T1.setTop (mkF m 6 #[.val (.int q0), .val (.int q1), .val (.int q2), .unset, .unset] [(.int (0 : Int32)), (.ref a1), (.ref a1)]))
  refine own_go (fun _ => XS.iconst X1.here hx rfl (hb hby at_6)) ?_
  show own_G p e below s _ _ _ (T1.setTop (mkF m 7 #[.val (.int q0), .val (.int q1), .val (.int q2), .unset, .unset] [(.int (0 : Int32)), (.int (0 : Int32)), (.ref a1), (.ref a1)]))
  obtain ⟨T2, h2, L2, X2, e2, N2, A2, W2, st2⟩ := own_stI X1 hx hZ e1 A1 (Fr.nil n0) g1 (by decide) (by decide) (g := (mkF m 7 #[.val (.int q0), .val (.int q1), .val (.int q2), .unset, .unset] [(.int (0 : Int32)), (.int (0 : Int32)), (.ref a1), (.ref a1)])) rfl rfl (hb hby at_7)
  refine own_go (fun _ => st2 _) ?_
  show own_G p e below s _ _ _ (T2.setTop (mkF m 8 #[.val (.int q0), .val (.int q1), .val (.int q2), .unset, .unset] [(.ref a1)]))
  refine own_go (fun _ => XS.dup X2.here hx rfl (hb hby at_8) rfl rfl) ?_
  show own_G p e below s _ _ _ (T2.setTop (mkF m 9 #[.val (.int q0), .val (.int q1), .val (.int q2), .unset, .unset] [(.ref a1), (.ref a1)]))
  refine own_go (fun _ => XS.iconst X2.here hx rfl (hb hby at_9)) ?_
  show own_G p e below s _ _ _ (T2.setTop (mkF m 10 #[.val (.int q0), .val (.int q1), .val (.int q2), .unset, .unset] [(.int (1 : Int32)), (.ref a1), (.ref a1)]))
  refine own_go (fun _ => XS.bipush X2.here hx rfl (hb hby at_10)) ?_
  show own_G p e below s _ _ _ (T2.setTop (mkF m 12 #[.val (.int q0), .val (.int q1), .val (.int q2), .unset, .unset] [(.int (9 : Int32)), (.int (1 : Int32)), (.ref a1), (.ref a1)]))
  obtain ⟨T3, h3, L3, X3, e3, N3, A3, W3, st3⟩ := own_stI X2 hx hZ e2 A2 N2 g1 (by decide) (by decide) (g := (mkF m 12 #[.val (.int q0), .val (.int q1), .val (.int q2), .unset, .unset] [(.int (9 : Int32)), (.int (1 : Int32)), (.ref a1), (.ref a1)])) rfl rfl (hb hby at_12)
  refine own_go (fun _ => st3 _) ?_
  show own_G p e below s _ _ _ (T3.setTop (mkF m 13 #[.val (.int q0), .val (.int q1), .val (.int q2), .unset, .unset] [(.ref a1)]))
  refine own_go (fun _ => XS.dup X3.here hx rfl (hb hby at_13) rfl rfl) ?_
  show own_G p e below s _ _ _ (T3.setTop (mkF m 14 #[.val (.int q0), .val (.int q1), .val (.int q2), .unset, .unset] [(.ref a1), (.ref a1)]))
  refine own_go (fun _ => XS.iconst X3.here hx rfl (hb hby at_14)) ?_
  show own_G p e below s _ _ _ (T3.setTop (mkF m 15 #[.val (.int q0), .val (.int q1), .val (.int q2), .unset, .unset] [(.int (2 : Int32)), (.ref a1), (.ref a1)]))
  refine own_go (fun _ => XS.bipush X3.here hx rfl (hb hby at_15)) ?_
  show own_G p e below s _ _ _ (T3.setTop (mkF m 17 #[.val (.int q0), .val (.int q1), .val (.int q2), .unset, .unset] [(.int (10 : Int32)), (.int (2 : Int32)), (.ref a1), (.ref a1)]))
  obtain ⟨T4, h4, L4, X4, e4, N4, A4, W4, st4⟩ := own_stI X3 hx hZ e3 A3 N3 g1 (by decide) (by decide) (g := (mkF m 17 #[.val (.int q0), .val (.int q1), .val (.int q2), .unset, .unset] [(.int (10 : Int32)), (.int (2 : Int32)), (.ref a1), (.ref a1)])) rfl rfl (hb hby at_17)
  refine own_go (fun _ => st4 _) ?_
  show own_G p e below s _ _ _ (T4.setTop (mkF m 18 #[.val (.int q0), .val (.int q1), .val (.int q2), .unset, .unset] [(.ref a1)]))
  refine own_go (fun _ => XS.dup X4.here hx rfl (hb hby at_18) rfl rfl) ?_
  show own_G p e below s _ _ _ (T4.setTop (mkF m 19 #[.val (.int q0), .val (.int q1), .val (.int q2), .unset, .unset] [(.ref a1), (.ref a1)]))
  refine own_go (fun _ => XS.iconst X4.here hx rfl (hb hby at_19)) ?_
  show own_G p e below s _ _ _ (T4.setTop (mkF m 20 #[.val (.int q0), .val (.int q1), .val (.int q2), .unset, .unset] [(.int (3 : Int32)), (.ref a1), (.ref a1)]))
  refine own_go (fun _ => XS.bipush X4.here hx rfl (hb hby at_20)) ?_
  show own_G p e below s _ _ _ (T4.setTop (mkF m 22 #[.val (.int q0), .val (.int q1), .val (.int q2), .unset, .unset] [(.int (13 : Int32)), (.int (3 : Int32)), (.ref a1), (.ref a1)]))
  obtain ⟨T5, h5, L5, X5, e5, N5, A5, W5, st5⟩ := own_stI X4 hx hZ e4 A4 N4 g1 (by decide) (by decide) (g := (mkF m 22 #[.val (.int q0), .val (.int q1), .val (.int q2), .unset, .unset] [(.int (13 : Int32)), (.int (3 : Int32)), (.ref a1), (.ref a1)])) rfl rfl (hb hby at_22)
  refine own_go (fun _ => st5 _) ?_
  show own_G p e below s _ _ _ (T5.setTop (mkF m 23 #[.val (.int q0), .val (.int q1), .val (.int q2), .unset, .unset] [(.ref a1)]))
  refine own_go (fun _ => XS.dup X5.here hx rfl (hb hby at_23) rfl rfl) ?_
  show own_G p e below s _ _ _ (T5.setTop (mkF m 24 #[.val (.int q0), .val (.int q1), .val (.int q2), .unset, .unset] [(.ref a1), (.ref a1)]))
  refine own_go (fun _ => XS.iconst X5.here hx rfl (hb hby at_24)) ?_
  show own_G p e below s _ _ _ (T5.setTop (mkF m 25 #[.val (.int q0), .val (.int q1), .val (.int q2), .unset, .unset] [(.int (4 : Int32)), (.ref a1), (.ref a1)]))
  refine own_go (fun _ => XS.bipush X5.here hx rfl (hb hby at_25)) ?_
  show own_G p e below s _ _ _ (T5.setTop (mkF m 27 #[.val (.int q0), .val (.int q1), .val (.int q2), .unset, .unset] [(.int (31 : Int32)), (.int (4 : Int32)), (.ref a1), (.ref a1)]))
  obtain ⟨T6, h6, L6, X6, e6, N6, A6, W6, st6⟩ := own_stI X5 hx hZ e5 A5 N5 g1 (by decide) (by decide) (g := (mkF m 27 #[.val (.int q0), .val (.int q1), .val (.int q2), .unset, .unset] [(.int (31 : Int32)), (.int (4 : Int32)), (.ref a1), (.ref a1)])) rfl rfl (hb hby at_27)
  refine own_go (fun _ => st6 _) ?_
  show own_G p e below s _ _ _ (T6.setTop (mkF m 28 #[.val (.int q0), .val (.int q1), .val (.int q2), .unset, .unset] [(.ref a1)]))
  refine own_go (fun _ => XS.dup X6.here hx rfl (hb hby at_28) rfl rfl) ?_
  show own_G p e below s _ _ _ (T6.setTop (mkF m 29 #[.val (.int q0), .val (.int q1), .val (.int q2), .unset, .unset] [(.ref a1), (.ref a1)]))
  refine own_go (fun _ => XS.iconst X6.here hx rfl (hb hby at_29)) ?_
  show own_G p e below s _ _ _ (T6.setTop (mkF m 30 #[.val (.int q0), .val (.int q1), .val (.int q2), .unset, .unset] [(.int (5 : Int32)), (.ref a1), (.ref a1)]))
  refine own_go (fun _ => XS.bipush X6.here hx rfl (hb hby at_30)) ?_
  show own_G p e below s _ _ _ (T6.setTop (mkF m 32 #[.val (.int q0), .val (.int q1), .val (.int q2), .unset, .unset] [(.int (32 : Int32)), (.int (5 : Int32)), (.ref a1), (.ref a1)]))
  obtain ⟨T7, h7, L7, X7, e7, N7, A7, W7, st7⟩ := own_stI X6 hx hZ e6 A6 N6 g1 (by decide) (by decide) (g := (mkF m 32 #[.val (.int q0), .val (.int q1), .val (.int q2), .unset, .unset] [(.int (32 : Int32)), (.int (5 : Int32)), (.ref a1), (.ref a1)])) rfl rfl (hb hby at_32)
  refine own_go (fun _ => st7 _) ?_
  show own_G p e below s _ _ _ (T7.setTop (mkF m 33 #[.val (.int q0), .val (.int q1), .val (.int q2), .unset, .unset] [(.ref a1)]))
  refine own_go (fun _ => XS.dup X7.here hx rfl (hb hby at_33) rfl rfl) ?_
  show own_G p e below s _ _ _ (T7.setTop (mkF m 34 #[.val (.int q0), .val (.int q1), .val (.int q2), .unset, .unset] [(.ref a1), (.ref a1)]))
  refine own_go (fun _ => XS.bipush X7.here hx rfl (hb hby at_34)) ?_
  show own_G p e below s _ _ _ (T7.setTop (mkF m 36 #[.val (.int q0), .val (.int q1), .val (.int q2), .unset, .unset] [(.int (6 : Int32)), (.ref a1), (.ref a1)]))
  refine own_go (fun _ => X7.ldcInt hx hown (mvT hZ (hw _ (List.mem_of_getElem? (i := 1) rfl))) (g := (mkF m 36 #[.val (.int q0), .val (.int q1), .val (.int q2), .unset, .unset] [(.int (6 : Int32)), (.ref a1), (.ref a1)])) rfl (hb hby at_36) _) ?_
  show own_G p e below s _ _ _ (T7.setTop (mkF m 38 #[.val (.int q0), .val (.int q1), .val (.int q2), .unset, .unset] [(.int (55295 : Int32)), (.int (6 : Int32)), (.ref a1), (.ref a1)]))
  obtain ⟨T8, h8, L8, X8, e8, N8, A8, W8, st8⟩ := own_stI X7 hx hZ e7 A7 N7 g1 (by decide) (by decide) (g := (mkF m 38 #[.val (.int q0), .val (.int q1), .val (.int q2), .unset, .unset] [(.int (55295 : Int32)), (.int (6 : Int32)), (.ref a1), (.ref a1)])) rfl rfl (hb hby at_38)
  refine own_go (fun _ => st8 _) ?_
  show own_G p e below s _ _ _ (T8.setTop (mkF m 39 #[.val (.int q0), .val (.int q1), .val (.int q2), .unset, .unset] [(.ref a1)]))
  refine own_go (fun _ => XS.dup X8.here hx rfl (hb hby at_39) rfl rfl) ?_
  show own_G p e below s _ _ _ (T8.setTop (mkF m 40 #[.val (.int q0), .val (.int q1), .val (.int q2), .unset, .unset] [(.ref a1), (.ref a1)]))
  refine own_go (fun _ => XS.bipush X8.here hx rfl (hb hby at_40)) ?_
  show own_G p e below s _ _ _ (T8.setTop (mkF m 42 #[.val (.int q0), .val (.int q1), .val (.int q2), .unset, .unset] [(.int (7 : Int32)), (.ref a1), (.ref a1)]))
  refine own_go (fun _ => X8.ldcInt hx hown (mvT hZ (hw _ (List.mem_of_getElem? (i := 2) rfl))) (g := (mkF m 42 #[.val (.int q0), .val (.int q1), .val (.int q2), .unset, .unset] [(.int (7 : Int32)), (.ref a1), (.ref a1)])) rfl (hb hby at_42) _) ?_
  show own_G p e below s _ _ _ (T8.setTop (mkF m 44 #[.val (.int q0), .val (.int q1), .val (.int q2), .unset, .unset] [(.int (55296 : Int32)), (.int (7 : Int32)), (.ref a1), (.ref a1)]))
  obtain ⟨T9, h9, L9, X9, e9, N9, A9, W9, st9⟩ := own_stI X8 hx hZ e8 A8 N8 g1 (by decide) (by decide) (g := (mkF m 44 #[.val (.int q0), .val (.int q1), .val (.int q2), .unset, .unset] [(.int (55296 : Int32)), (.int (7 : Int32)), (.ref a1), (.ref a1)])) rfl rfl (hb hby at_44)
  refine own_go (fun _ => st9 _) ?_
  show own_G p e below s _ _ _ (T9.setTop (mkF m 45 #[.val (.int q0), .val (.int q1), .val (.int q2), .unset, .unset] [(.ref a1)]))
  refine own_go (fun _ => XS.dup X9.here hx rfl (hb hby at_45) rfl rfl) ?_
  show own_G p e below s _ _ _ (T9.setTop (mkF m 46 #[.val (.int q0), .val (.int q1), .val (.int q2), .unset, .unset] [(.ref a1), (.ref a1)]))
  refine own_go (fun _ => XS.bipush X9.here hx rfl (hb hby at_46)) ?_
  show own_G p e below s _ _ _ (T9.setTop (mkF m 48 #[.val (.int q0), .val (.int q1), .val (.int q2), .unset, .unset] [(.int (8 : Int32)), (.ref a1), (.ref a1)]))
  refine own_go (fun _ => X9.ldcInt hx hown (mvT hZ (hw _ (List.mem_of_getElem? (i := 3) rfl))) (g := (mkF m 48 #[.val (.int q0), .val (.int q1), .val (.int q2), .unset, .unset] [(.int (8 : Int32)), (.ref a1), (.ref a1)])) rfl (hb hby at_48) _) ?_
  show own_G p e below s _ _ _ (T9.setTop (mkF m 50 #[.val (.int q0), .val (.int q1), .val (.int q2), .unset, .unset] [(.int (57343 : Int32)), (.int (8 : Int32)), (.ref a1), (.ref a1)]))
  obtain ⟨T10, h10, L10, X10, e10, N10, A10, W10, st10⟩ := own_stI X9 hx hZ e9 A9 N9 g1 (by decide) (by decide) (g := (mkF m 50 #[.val (.int q0), .val (.int q1), .val (.int q2), .unset, .unset] [(.int (57343 : Int32)), (.int (8 : Int32)), (.ref a1), (.ref a1)])) rfl rfl (hb hby at_50)
  refine own_go (fun _ => st10 _) ?_
  show own_G p e below s _ _ _ (T10.setTop (mkF m 51 #[.val (.int q0), .val (.int q1), .val (.int q2), .unset, .unset] [(.ref a1)]))
  refine own_go (fun _ => XS.dup X10.here hx rfl (hb hby at_51) rfl rfl) ?_
  show own_G p e below s _ _ _ (T10.setTop (mkF m 52 #[.val (.int q0), .val (.int q1), .val (.int q2), .unset, .unset] [(.ref a1), (.ref a1)]))
  refine own_go (fun _ => XS.bipush X10.here hx rfl (hb hby at_52)) ?_
  show own_G p e below s _ _ _ (T10.setTop (mkF m 54 #[.val (.int q0), .val (.int q1), .val (.int q2), .unset, .unset] [(.int (9 : Int32)), (.ref a1), (.ref a1)]))
  refine own_go (fun _ => X10.ldcInt hx hown (mvT hZ (hw _ (List.mem_of_getElem? (i := 4) rfl))) (g := (mkF m 54 #[.val (.int q0), .val (.int q1), .val (.int q2), .unset, .unset] [(.int (9 : Int32)), (.ref a1), (.ref a1)])) rfl (hb hby at_54) _) ?_
  show own_G p e below s _ _ _ (T10.setTop (mkF m 56 #[.val (.int q0), .val (.int q1), .val (.int q2), .unset, .unset] [(.int (57344 : Int32)), (.int (9 : Int32)), (.ref a1), (.ref a1)]))
  obtain ⟨T11, h11, L11, X11, e11, N11, A11, W11, st11⟩ := own_stI X10 hx hZ e10 A10 N10 g1 (by decide) (by decide) (g := (mkF m 56 #[.val (.int q0), .val (.int q1), .val (.int q2), .unset, .unset] [(.int (57344 : Int32)), (.int (9 : Int32)), (.ref a1), (.ref a1)])) rfl rfl (hb hby at_56)
  refine own_go (fun _ => st11 _) ?_
  show own_G p e below s _ _ _ (T11.setTop (mkF m 57 #[.val (.int q0), .val (.int q1), .val (.int q2), .unset, .unset] [(.ref a1)]))
  refine own_go (fun _ => XS.dup X11.here hx rfl (hb hby at_57) rfl rfl) ?_
  show own_G p e below s _ _ _ (T11.setTop (mkF m 58 #[.val (.int q0), .val (.int q1), .val (.int q2), .unset, .unset] [(.ref a1), (.ref a1)]))
  refine own_go (fun _ => XS.bipush X11.here hx rfl (hb hby at_58)) ?_
  show own_G p e below s _ _ _ (T11.setTop (mkF m 60 #[.val (.int q0), .val (.int q1), .val (.int q2), .unset, .unset] [(.int (10 : Int32)), (.ref a1), (.ref a1)]))
  refine own_go (fun _ => X11.ldcInt hx hown (mvT hZ (hw _ (List.mem_of_getElem? (i := 5) rfl))) (g := (mkF m 60 #[.val (.int q0), .val (.int q1), .val (.int q2), .unset, .unset] [(.int (10 : Int32)), (.ref a1), (.ref a1)])) rfl (hb hby at_60) _) ?_
  show own_G p e below s _ _ _ (T11.setTop (mkF m 62 #[.val (.int q0), .val (.int q1), .val (.int q2), .unset, .unset] [(.int (65533 : Int32)), (.int (10 : Int32)), (.ref a1), (.ref a1)]))
  obtain ⟨T12, h12, L12, X12, e12, N12, A12, W12, st12⟩ := own_stI X11 hx hZ e11 A11 N11 g1 (by decide) (by decide) (g := (mkF m 62 #[.val (.int q0), .val (.int q1), .val (.int q2), .unset, .unset] [(.int (65533 : Int32)), (.int (10 : Int32)), (.ref a1), (.ref a1)])) rfl rfl (hb hby at_62)
  refine own_go (fun _ => st12 _) ?_
  show own_G p e below s _ _ _ (T12.setTop (mkF m 63 #[.val (.int q0), .val (.int q1), .val (.int q2), .unset, .unset] [(.ref a1)]))
  refine own_go (fun _ => XS.dup X12.here hx rfl (hb hby at_63) rfl rfl) ?_
  show own_G p e below s _ _ _ (T12.setTop (mkF m 64 #[.val (.int q0), .val (.int q1), .val (.int q2), .unset, .unset] [(.ref a1), (.ref a1)]))
  refine own_go (fun _ => XS.bipush X12.here hx rfl (hb hby at_64)) ?_
  show own_G p e below s _ _ _ (T12.setTop (mkF m 66 #[.val (.int q0), .val (.int q1), .val (.int q2), .unset, .unset] [(.int (11 : Int32)), (.ref a1), (.ref a1)]))
  refine own_go (fun _ => X12.ldcInt hx hown (mvT hZ (hw _ (List.mem_of_getElem? (i := 6) rfl))) (g := (mkF m 66 #[.val (.int q0), .val (.int q1), .val (.int q2), .unset, .unset] [(.int (11 : Int32)), (.ref a1), (.ref a1)])) rfl (hb hby at_66) _) ?_
  show own_G p e below s _ _ _ (T12.setTop (mkF m 68 #[.val (.int q0), .val (.int q1), .val (.int q2), .unset, .unset] [(.int (65534 : Int32)), (.int (11 : Int32)), (.ref a1), (.ref a1)]))
  obtain ⟨T13, h13, L13, X13, e13, N13, A13, W13, st13⟩ := own_stI X12 hx hZ e12 A12 N12 g1 (by decide) (by decide) (g := (mkF m 68 #[.val (.int q0), .val (.int q1), .val (.int q2), .unset, .unset] [(.int (65534 : Int32)), (.int (11 : Int32)), (.ref a1), (.ref a1)])) rfl rfl (hb hby at_68)
  refine own_go (fun _ => st13 _) ?_
  show own_G p e below s _ _ _ (T13.setTop (mkF m 69 #[.val (.int q0), .val (.int q1), .val (.int q2), .unset, .unset] [(.ref a1)]))
  refine own_go (fun _ => XS.dup X13.here hx rfl (hb hby at_69) rfl rfl) ?_
  show own_G p e below s _ _ _ (T13.setTop (mkF m 70 #[.val (.int q0), .val (.int q1), .val (.int q2), .unset, .unset] [(.ref a1), (.ref a1)]))
  refine own_go (fun _ => XS.bipush X13.here hx rfl (hb hby at_70)) ?_
  show own_G p e below s _ _ _ (T13.setTop (mkF m 72 #[.val (.int q0), .val (.int q1), .val (.int q2), .unset, .unset] [(.int (12 : Int32)), (.ref a1), (.ref a1)]))
  refine own_go (fun _ => X13.ldcInt hx hown (mvT hZ (hw _ (List.mem_of_getElem? (i := 7) rfl))) (g := (mkF m 72 #[.val (.int q0), .val (.int q1), .val (.int q2), .unset, .unset] [(.int (12 : Int32)), (.ref a1), (.ref a1)])) rfl (hb hby at_72) _) ?_
  show own_G p e below s _ _ _ (T13.setTop (mkF m 74 #[.val (.int q0), .val (.int q1), .val (.int q2), .unset, .unset] [(.int (65535 : Int32)), (.int (12 : Int32)), (.ref a1), (.ref a1)]))
  obtain ⟨T14, h14, L14, X14, e14, N14, A14, W14, st14⟩ := own_stI X13 hx hZ e13 A13 N13 g1 (by decide) (by decide) (g := (mkF m 74 #[.val (.int q0), .val (.int q1), .val (.int q2), .unset, .unset] [(.int (65535 : Int32)), (.int (12 : Int32)), (.ref a1), (.ref a1)])) rfl rfl (hb hby at_74)
  refine own_go (fun _ => st14 _) ?_
  show own_G p e below s _ _ _ (T14.setTop (mkF m 75 #[.val (.int q0), .val (.int q1), .val (.int q2), .unset, .unset] [(.ref a1)]))
  refine own_go (fun _ => XS.dup X14.here hx rfl (hb hby at_75) rfl rfl) ?_
  show own_G p e below s _ _ _ (T14.setTop (mkF m 76 #[.val (.int q0), .val (.int q1), .val (.int q2), .unset, .unset] [(.ref a1), (.ref a1)]))
  refine own_go (fun _ => XS.bipush X14.here hx rfl (hb hby at_76)) ?_
  show own_G p e below s _ _ _ (T14.setTop (mkF m 78 #[.val (.int q0), .val (.int q1), .val (.int q2), .unset, .unset] [(.int (13 : Int32)), (.ref a1), (.ref a1)]))
  refine own_go (fun _ => X14.ldcInt hx hown (mvT hZ (hw _ (List.mem_of_getElem? (i := 8) rfl))) (g := (mkF m 78 #[.val (.int q0), .val (.int q1), .val (.int q2), .unset, .unset] [(.int (13 : Int32)), (.ref a1), (.ref a1)])) rfl (hb hby at_78) _) ?_
  show own_G p e below s _ _ _ (T14.setTop (mkF m 80 #[.val (.int q0), .val (.int q1), .val (.int q2), .unset, .unset] [(.int (65536 : Int32)), (.int (13 : Int32)), (.ref a1), (.ref a1)]))
  obtain ⟨T15, h15, L15, X15, e15, N15, A15, W15, st15⟩ := own_stI X14 hx hZ e14 A14 N14 g1 (by decide) (by decide) (g := (mkF m 80 #[.val (.int q0), .val (.int q1), .val (.int q2), .unset, .unset] [(.int (65536 : Int32)), (.int (13 : Int32)), (.ref a1), (.ref a1)])) rfl rfl (hb hby at_80)
  refine own_go (fun _ => st15 _) ?_
  show own_G p e below s _ _ _ (T15.setTop (mkF m 81 #[.val (.int q0), .val (.int q1), .val (.int q2), .unset, .unset] [(.ref a1)]))
  refine own_go (fun _ => XS.dup X15.here hx rfl (hb hby at_81) rfl rfl) ?_
  show own_G p e below s _ _ _ (T15.setTop (mkF m 82 #[.val (.int q0), .val (.int q1), .val (.int q2), .unset, .unset] [(.ref a1), (.ref a1)]))
  refine own_go (fun _ => XS.bipush X15.here hx rfl (hb hby at_82)) ?_
  show own_G p e below s _ _ _ (T15.setTop (mkF m 84 #[.val (.int q0), .val (.int q1), .val (.int q2), .unset, .unset] [(.int (14 : Int32)), (.ref a1), (.ref a1)]))
  refine own_go (fun _ => X15.ldcInt hx hown (mvT hZ (hw _ (List.mem_of_getElem? (i := 9) rfl))) (g := (mkF m 84 #[.val (.int q0), .val (.int q1), .val (.int q2), .unset, .unset] [(.int (14 : Int32)), (.ref a1), (.ref a1)])) rfl (hb hby at_84) _) ?_
  show own_G p e below s _ _ _ (T15.setTop (mkF m 86 #[.val (.int q0), .val (.int q1), .val (.int q2), .unset, .unset] [(.int (1114111 : Int32)), (.int (14 : Int32)), (.ref a1), (.ref a1)]))
  obtain ⟨T16, h16, L16, X16, e16, N16, A16, W16, st16⟩ := own_stI X15 hx hZ e15 A15 N15 g1 (by decide) (by decide) (g := (mkF m 86 #[.val (.int q0), .val (.int q1), .val (.int q2), .unset, .unset] [(.int (1114111 : Int32)), (.int (14 : Int32)), (.ref a1), (.ref a1)])) rfl rfl (hb hby at_86)
  refine own_go (fun _ => st16 _) ?_
  show own_G p e below s _ _ _ (T16.setTop (mkF m 87 #[.val (.int q0), .val (.int q1), .val (.int q2), .unset, .unset] [(.ref a1)]))
  refine own_go (fun _ => XS.dup X16.here hx rfl (hb hby at_87) rfl rfl) ?_
  show own_G p e below s _ _ _ (T16.setTop (mkF m 88 #[.val (.int q0), .val (.int q1), .val (.int q2), .unset, .unset] [(.ref a1), (.ref a1)]))
  refine own_go (fun _ => XS.bipush X16.here hx rfl (hb hby at_88)) ?_
  show own_G p e below s _ _ _ (T16.setTop (mkF m 90 #[.val (.int q0), .val (.int q1), .val (.int q2), .unset, .unset] [(.int (15 : Int32)), (.ref a1), (.ref a1)]))
  refine own_go (fun _ => X16.ldcInt hx hown (mvT hZ (hw _ (List.mem_of_getElem? (i := 10) rfl))) (g := (mkF m 90 #[.val (.int q0), .val (.int q1), .val (.int q2), .unset, .unset] [(.int (15 : Int32)), (.ref a1), (.ref a1)])) rfl (hb hby at_90) _) ?_
  show own_G p e below s _ _ _ (T16.setTop (mkF m 92 #[.val (.int q0), .val (.int q1), .val (.int q2), .unset, .unset] [(.int (1114112 : Int32)), (.int (15 : Int32)), (.ref a1), (.ref a1)]))
  obtain ⟨T17, h17, L17, X17, e17, N17, A17, W17, st17⟩ := own_stI X16 hx hZ e16 A16 N16 g1 (by decide) (by decide) (g := (mkF m 92 #[.val (.int q0), .val (.int q1), .val (.int q2), .unset, .unset] [(.int (1114112 : Int32)), (.int (15 : Int32)), (.ref a1), (.ref a1)])) rfl rfl (hb hby at_92)
  refine own_go (fun _ => st17 _) ?_
  show own_G p e below s _ _ _ (T17.setTop (mkF m 93 #[.val (.int q0), .val (.int q1), .val (.int q2), .unset, .unset] [(.ref a1)]))
  refine own_go (fun _ => XS.dup X17.here hx rfl (hb hby at_93) rfl rfl) ?_
  show own_G p e below s _ _ _ (T17.setTop (mkF m 94 #[.val (.int q0), .val (.int q1), .val (.int q2), .unset, .unset] [(.ref a1), (.ref a1)]))
  refine own_go (fun _ => XS.bipush X17.here hx rfl (hb hby at_94)) ?_
  show own_G p e below s _ _ _ (T17.setTop (mkF m 96 #[.val (.int q0), .val (.int q1), .val (.int q2), .unset, .unset] [(.int (16 : Int32)), (.ref a1), (.ref a1)]))
  refine own_go (fun _ => XS.iconst X17.here hx rfl (hb hby at_96)) ?_
  show own_G p e below s _ _ _ (T17.setTop (mkF m 97 #[.val (.int q0), .val (.int q1), .val (.int q2), .unset, .unset] [(.int (-1 : Int32)), (.int (16 : Int32)), (.ref a1), (.ref a1)]))
  obtain ⟨T18, h18, L18, X18, e18, N18, A18, W18, st18⟩ := own_stI X17 hx hZ e17 A17 N17 g1 (by decide) (by decide) (g := (mkF m 97 #[.val (.int q0), .val (.int q1), .val (.int q2), .unset, .unset] [(.int (-1 : Int32)), (.int (16 : Int32)), (.ref a1), (.ref a1)])) rfl rfl (hb hby at_97)
  refine own_go (fun _ => st18 _) ?_
  show own_G p e below s _ _ _ (T18.setTop (mkF m 98 #[.val (.int q0), .val (.int q1), .val (.int q2), .unset, .unset] [(.ref a1)]))
  refine own_go (fun _ => XS.dup X18.here hx rfl (hb hby at_98) rfl rfl) ?_
  show own_G p e below s _ _ _ (T18.setTop (mkF m 99 #[.val (.int q0), .val (.int q1), .val (.int q2), .unset, .unset] [(.ref a1), (.ref a1)]))
  refine own_go (fun _ => XS.bipush X18.here hx rfl (hb hby at_99)) ?_
  show own_G p e below s _ _ _ (T18.setTop (mkF m 101 #[.val (.int q0), .val (.int q1), .val (.int q2), .unset, .unset] [(.int (17 : Int32)), (.ref a1), (.ref a1)]))
  refine own_go (fun _ => X18.ldcInt hx hown (mvT hZ (hw _ (List.mem_of_getElem? (i := 11) rfl))) (g := (mkF m 101 #[.val (.int q0), .val (.int q1), .val (.int q2), .unset, .unset] [(.int (17 : Int32)), (.ref a1), (.ref a1)])) rfl (hb hby at_101) _) ?_
  show own_G p e below s _ _ _ (T18.setTop (mkF m 103 #[.val (.int q0), .val (.int q1), .val (.int q2), .unset, .unset] [(.int (-2147483648 : Int32)), (.int (17 : Int32)), (.ref a1), (.ref a1)]))
  obtain ⟨T19, h19, L19, X19, e19, N19, A19, W19, st19⟩ := own_stI X18 hx hZ e18 A18 N18 g1 (by decide) (by decide) (g := (mkF m 103 #[.val (.int q0), .val (.int q1), .val (.int q2), .unset, .unset] [(.int (-2147483648 : Int32)), (.int (17 : Int32)), (.ref a1), (.ref a1)])) rfl rfl (hb hby at_103)
  refine own_go (fun _ => st19 _) ?_
  show own_G p e below s _ _ _ (T19.setTop (mkF m 104 #[.val (.int q0), .val (.int q1), .val (.int q2), .unset, .unset] [(.ref a1)]))
  refine own_go (fun _ => XS.dup X19.here hx rfl (hb hby at_104) rfl rfl) ?_
  show own_G p e below s _ _ _ (T19.setTop (mkF m 105 #[.val (.int q0), .val (.int q1), .val (.int q2), .unset, .unset] [(.ref a1), (.ref a1)]))
  refine own_go (fun _ => XS.bipush X19.here hx rfl (hb hby at_105)) ?_
  show own_G p e below s _ _ _ (T19.setTop (mkF m 107 #[.val (.int q0), .val (.int q1), .val (.int q2), .unset, .unset] [(.int (18 : Int32)), (.ref a1), (.ref a1)]))
  refine own_go (fun _ => X19.ldcInt hx hown (mvT hZ (hw _ (List.mem_of_getElem? (i := 12) rfl))) (g := (mkF m 107 #[.val (.int q0), .val (.int q1), .val (.int q2), .unset, .unset] [(.int (18 : Int32)), (.ref a1), (.ref a1)])) rfl (hb hby at_107) _) ?_
  show own_G p e below s _ _ _ (T19.setTop (mkF m 109 #[.val (.int q0), .val (.int q1), .val (.int q2), .unset, .unset] [(.int (2147483647 : Int32)), (.int (18 : Int32)), (.ref a1), (.ref a1)]))
  obtain ⟨T20, h20, L20, X20, e20, N20, A20, W20, st20⟩ := own_stI X19 hx hZ e19 A19 N19 g1 (by decide) (by decide) (g := (mkF m 109 #[.val (.int q0), .val (.int q1), .val (.int q2), .unset, .unset] [(.int (2147483647 : Int32)), (.int (18 : Int32)), (.ref a1), (.ref a1)])) rfl rfl (hb hby at_109)
  refine own_go (fun _ => st20 _) ?_
  show own_G p e below s _ _ _ (T20.setTop (mkF m 110 #[.val (.int q0), .val (.int q1), .val (.int q2), .unset, .unset] [(.ref a1)]))
  refine own_go (fun _ => XS.dup X20.here hx rfl (hb hby at_110) rfl rfl) ?_
  show own_G p e below s _ _ _ (T20.setTop (mkF m 111 #[.val (.int q0), .val (.int q1), .val (.int q2), .unset, .unset] [(.ref a1), (.ref a1)]))
  refine own_go (fun _ => XS.bipush X20.here hx rfl (hb hby at_111)) ?_
  show own_G p e below s _ _ _ (T20.setTop (mkF m 113 #[.val (.int q0), .val (.int q1), .val (.int q2), .unset, .unset] [(.int (19 : Int32)), (.ref a1), (.ref a1)]))
  refine own_go (fun _ => XS.bipush X20.here hx rfl (hb hby at_113)) ?_
  show own_G p e below s _ _ _ (T20.setTop (mkF m 115 #[.val (.int q0), .val (.int q1), .val (.int q2), .unset, .unset] [(.int (127 : Int32)), (.int (19 : Int32)), (.ref a1), (.ref a1)]))
  obtain ⟨T21, h21, L21, X21, e21, N21, A21, W21, st21⟩ := own_stI X20 hx hZ e20 A20 N20 g1 (by decide) (by decide) (g := (mkF m 115 #[.val (.int q0), .val (.int q1), .val (.int q2), .unset, .unset] [(.int (127 : Int32)), (.int (19 : Int32)), (.ref a1), (.ref a1)])) rfl rfl (hb hby at_115)
  refine own_go (fun _ => st21 _) ?_
  show own_G p e below s _ _ _ (T21.setTop (mkF m 116 #[.val (.int q0), .val (.int q1), .val (.int q2), .unset, .unset] [(.ref a1)]))
  refine own_go (fun _ => XS.dup X21.here hx rfl (hb hby at_116) rfl rfl) ?_
  show own_G p e below s _ _ _ (T21.setTop (mkF m 117 #[.val (.int q0), .val (.int q1), .val (.int q2), .unset, .unset] [(.ref a1), (.ref a1)]))
  refine own_go (fun _ => XS.bipush X21.here hx rfl (hb hby at_117)) ?_
  show own_G p e below s _ _ _ (T21.setTop (mkF m 119 #[.val (.int q0), .val (.int q1), .val (.int q2), .unset, .unset] [(.int (20 : Int32)), (.ref a1), (.ref a1)]))
  refine own_go (fun _ => XS.sipush X21.here hx rfl (hb hby at_119)) ?_
  show own_G p e below s _ _ _ (T21.setTop (mkF m 122 #[.val (.int q0), .val (.int q1), .val (.int q2), .unset, .unset] [(.int (128 : Int32)), (.int (20 : Int32)), (.ref a1), (.ref a1)]))
  obtain ⟨T22, h22, L22, X22, e22, N22, A22, W22, st22⟩ := own_stI X21 hx hZ e21 A21 N21 g1 (by decide) (by decide) (g := (mkF m 122 #[.val (.int q0), .val (.int q1), .val (.int q2), .unset, .unset] [(.int (128 : Int32)), (.int (20 : Int32)), (.ref a1), (.ref a1)])) rfl rfl (hb hby at_122)
  refine own_go (fun _ => st22 _) ?_
  show own_G p e below s _ _ _ (T22.setTop (mkF m 123 #[.val (.int q0), .val (.int q1), .val (.int q2), .unset, .unset] [(.ref a1)]))
  refine own_go (fun _ => XS.dup X22.here hx rfl (hb hby at_123) rfl rfl) ?_
  show own_G p e below s _ _ _ (T22.setTop (mkF m 124 #[.val (.int q0), .val (.int q1), .val (.int q2), .unset, .unset] [(.ref a1), (.ref a1)]))
  refine own_go (fun _ => XS.bipush X22.here hx rfl (hb hby at_124)) ?_
  show own_G p e below s _ _ _ (T22.setTop (mkF m 126 #[.val (.int q0), .val (.int q1), .val (.int q2), .unset, .unset] [(.int (21 : Int32)), (.ref a1), (.ref a1)]))
  refine own_go (fun _ => XS.sipush X22.here hx rfl (hb hby at_126)) ?_
  show own_G p e below s _ _ _ (T22.setTop (mkF m 129 #[.val (.int q0), .val (.int q1), .val (.int q2), .unset, .unset] [(.int (133 : Int32)), (.int (21 : Int32)), (.ref a1), (.ref a1)]))
  obtain ⟨T23, h23, L23, X23, e23, N23, A23, W23, st23⟩ := own_stI X22 hx hZ e22 A22 N22 g1 (by decide) (by decide) (g := (mkF m 129 #[.val (.int q0), .val (.int q1), .val (.int q2), .unset, .unset] [(.int (133 : Int32)), (.int (21 : Int32)), (.ref a1), (.ref a1)])) rfl rfl (hb hby at_129)
  have A23 : own_A Z h23 a1 .int (22 : Int32) own_n0_f := A23
  refine own_go (fun _ => st23 _) ?_
  show own_G p e below s _ _ _ (T23.setTop (mkF m 130 #[.val (.int q0), .val (.int q1), .val (.int q2), .unset, .unset] [(.ref a1)]))
  refine own_go (fun _ => XS.astoreN X23.here hx rfl (hb hby at_130) rfl rfl (l' := #[.val (.int q0), .val (.int q1), .val (.int q2), .val (.ref a1), .unset]) rfl) ?_
  show own_G p e below s _ _ _ (T23.setTop (mkF m 131 #[.val (.int q0), .val (.int q1), .val (.int q2), .val (.ref a1), .unset] []))
  refine own_go (fun _ => XS.aloadN X23.here hx rfl (hb hby at_131) rfl rfl) ?_
  show own_G p e below s _ _ _ (T23.setTop (mkF m 132 #[.val (.int q0), .val (.int q1), .val (.int q2), .val (.ref a1), .unset] [(.ref a1)]))
  refine own_go (fun _ => XS.iloadN X23.here hx rfl (hb hby at_132) rfl) ?_
  show own_G p e below s _ _ _ (T23.setTop (mkF m 133 #[.val (.int q0), .val (.int q1), .val (.int q2), .val (.ref a1), .unset] [(.int q1), (.ref a1)]))
  refine own_go (fun _ => X23.ldcInt hx hown (mvT hZ (hw _ (List.mem_of_getElem? (i := 12) rfl))) (g := (mkF m 133 #[.val (.int q0), .val (.int q1), .val (.int q2), .val (.ref a1), .unset] [(.int q1), (.ref a1)])) rfl (hb hby at_133) _) ?_
  show own_G p e below s _ _ _ (T23.setTop (mkF m 135 #[.val (.int q0), .val (.int q1), .val (.int q2), .val (.ref a1), .unset] [(.int (2147483647 : Int32)), (.int q1), (.ref a1)]))
  refine own_go (fun _ => XS.iand X23.here hx rfl (hb hby at_135) rfl) ?_
  show own_G p e below s _ _ _ (T23.setTop (mkF m 136 #[.val (.int q0), .val (.int q1), .val (.int q2), .val (.ref a1), .unset] [(.int (q1 &&& (2147483647 : Int32))), (.ref a1)]))
  refine own_go (fun _ => XS.aloadN X23.here hx rfl (hb hby at_136) rfl rfl) ?_
  show own_G p e below s _ _ _ (T23.setTop (mkF m 137 #[.val (.int q0), .val (.int q1), .val (.int q2), .val (.ref a1), .unset] [(.ref a1), (.int (q1 &&& (2147483647 : Int32))), (.ref a1)]))
  refine own_go (fun _ => own_len X23 hx hZ e23 A23 (g := (mkF m 137 #[.val (.int q0), .val (.int q1), .val (.int q2), .val (.ref a1), .unset] [(.ref a1), (.int (q1 &&& (2147483647 : Int32))), (.ref a1)])) rfl rfl (hb hby at_137) _) ?_
  show own_G p e below s _ _ _ (T23.setTop (mkF m 138 #[.val (.int q0), .val (.int q1), .val (.int q2), .val (.ref a1), .unset] [(.int (22 : Int32)), (.int (q1 &&& (2147483647 : Int32))), (.ref a1)]))
  refine own_go (fun _ => XS.irem X23.here hx rfl (hb hby at_138) rfl (by decide)) ?_
  show own_G p e below s _ _ _ (T23.setTop (mkF m 139 #[.val (.int q0), .val (.int q1), .val (.int q2), .val (.ref a1), .unset] [(.int (own_rem (q1 &&& (2147483647 : Int32)) (22 : Int32))), (.ref a1)]))
  refine own_go (fun _ => own_ldI X23 hx hZ e23 A23 (own_idx q1).1 (own_idx q1).2 (g := (mkF m 139 #[.val (.int q0), .val (.int q1), .val (.int q2), .val (.ref a1), .unset] [(.int (own_rem (q1 &&& (2147483647 : Int32)) (22 : Int32))), (.ref a1)])) rfl rfl (hb hby at_139) _) ?_
  show own_G p e below s _ _ _ (T23.setTop (mkF m 140 #[.val (.int q0), .val (.int q1), .val (.int q2), .val (.ref a1), .unset] [(.int (own_n0_f (own_rem (q1 &&& (2147483647 : Int32)) (22 : Int32))))]))
  refine own_go (fun _ => XS.iloadN X23.here hx rfl (hb hby at_140) rfl) ?_
  show own_G p e below s _ _ _ (T23.setTop (mkF m 141 #[.val (.int q0), .val (.int q1), .val (.int q2), .val (.ref a1), .unset] [(.int q2), (.int (own_n0_f (own_rem (q1 &&& (2147483647 : Int32)) (22 : Int32))))]))
  refine own_go (fun _ => X23.ldcInt hx hown (mvT hZ (hw _ (List.mem_of_getElem? (i := 12) rfl))) (g := (mkF m 141 #[.val (.int q0), .val (.int q1), .val (.int q2), .val (.ref a1), .unset] [(.int q2), (.int (own_n0_f (own_rem (q1 &&& (2147483647 : Int32)) (22 : Int32))))])) rfl (hb hby at_141) _) ?_
  show own_G p e below s _ _ _ (T23.setTop (mkF m 143 #[.val (.int q0), .val (.int q1), .val (.int q2), .val (.ref a1), .unset] [(.int (2147483647 : Int32)), (.int q2), (.int (own_n0_f (own_rem (q1 &&& (2147483647 : Int32)) (22 : Int32))))]))
  refine own_go (fun _ => XS.iand X23.here hx rfl (hb hby at_143) rfl) ?_
  show own_G p e below s _ _ _ (T23.setTop (mkF m 144 #[.val (.int q0), .val (.int q1), .val (.int q2), .val (.ref a1), .unset] [(.int (q2 &&& (2147483647 : Int32))), (.int (own_n0_f (own_rem (q1 &&& (2147483647 : Int32)) (22 : Int32))))]))
  refine own_go (fun _ => XS.iconst X23.here hx rfl (hb hby at_144)) ?_
  show own_G p e below s _ _ _ (T23.setTop (mkF m 145 #[.val (.int q0), .val (.int q1), .val (.int q2), .val (.ref a1), .unset] [(.int (3 : Int32)), (.int (q2 &&& (2147483647 : Int32))), (.int (own_n0_f (own_rem (q1 &&& (2147483647 : Int32)) (22 : Int32))))]))
  refine own_go (fun _ => XS.irem X23.here hx rfl (hb hby at_145) rfl (by decide)) ?_
  show own_G p e below s _ _ _ (T23.setTop (mkF m 146 #[.val (.int q0), .val (.int q1), .val (.int q2), .val (.ref a1), .unset] [(.int (own_rem (q2 &&& (2147483647 : Int32)) (3 : Int32))), (.int (own_n0_f (own_rem (q1 &&& (2147483647 : Int32)) (22 : Int32))))]))
  refine own_go (fun _ => XS.iadd X23.here hx rfl (hb hby at_146) rfl) ?_
  show own_G p e below s _ _ _ (T23.setTop (mkF m 147 #[.val (.int q0), .val (.int q1), .val (.int q2), .val (.ref a1), .unset] [(.int ((own_n0_f (own_rem (q1 &&& (2147483647 : Int32)) (22 : Int32))) + (own_rem (q2 &&& (2147483647 : Int32)) (3 : Int32))))]))
  refine own_go (fun _ => XS.iconst X23.here hx rfl (hb hby at_147)) ?_
  show own_G p e below s _ _ _ (T23.setTop (mkF m 148 #[.val (.int q0), .val (.int q1), .val (.int q2), .val (.ref a1), .unset] [(.int (1 : Int32)), (.int ((own_n0_f (own_rem (q1 &&& (2147483647 : Int32)) (22 : Int32))) + (own_rem (q2 &&& (2147483647 : Int32)) (3 : Int32))))]))
  refine own_go (fun _ => XS.isub X23.here hx rfl (hb hby at_148) rfl) ?_
  show own_G p e below s _ _ _ (T23.setTop (mkF m 149 #[.val (.int q0), .val (.int q1), .val (.int q2), .val (.ref a1), .unset] [(.int (((own_n0_f (own_rem (q1 &&& (2147483647 : Int32)) (22 : Int32))) + (own_rem (q2 &&& (2147483647 : Int32)) (3 : Int32))) - (1 : Int32)))]))
  refine own_go (fun _ => XS.istore X23.here hx rfl (hb hby at_149) rfl (l' := #[.val (.int q0), .val (.int q1), .val (.int q2), .val (.ref a1), .val (.int (own_n0_149 q1 q2))]) rfl) ?_
  show own_G p e below s _ _ _ (T23.setTop (mkF m 151 #[.val (.int q0), .val (.int q1), .val (.int q2), .val (.ref a1), .val (.int (own_n0_149 q1 q2))] []))
  refine own_go (fun _ => XS.iloadN X23.here hx rfl (hb hby at_151) rfl) ?_
  show own_G p e below s _ _ _ (T23.setTop (mkF m 152 #[.val (.int q0), .val (.int q1), .val (.int q2), .val (.ref a1), .val (.int (own_n0_149 q1 q2))] [(.int q0)]))
  obtain ⟨T24, X24, e24, st24⟩ := own_call X23 hx hZ hown (hw _ (List.mem_of_getElem? (i := 13) rfl)) (hw _ (List.mem_of_getElem? (i := 14) rfl)) (hw _ (List.mem_of_getElem? (i := 15) rfl)) (hw _ (List.mem_of_getElem? (i := 16) rfl)) (by decide) (rm1 l Z a0 hw [] q0 h23) rfl rfl e23 (W := 0) (by decide) (by decide) (by decide) (by decide) (g := (mkF m 152 #[.val (.int q0), .val (.int q1), .val (.int q2), .val (.ref a1), .val (.int (own_n0_149 q1 q2))] [(.int q0)])) rfl (by rw [hml]; rfl) (argsL := [(.int q0)]) (rest := []) (lenOf (by decide +kernel : parseMethodDescriptor "(I)Z" = some ⟨[.int], some .boolean⟩) rfl) rfl rfl (by show 2 * 0 + _ ≤ _; exact Nat.le_of_eq rfl) (hb hby at_152)
  refine own_go (fun _ => st24 _) ?_
  show own_G p e below s _ _ _ (T24.setTop (mkF m 155 #[.val (.int q0), .val (.int q1), .val (.int q2), .val (.ref a1), .val (.int (own_n0_149 q1 q2))] [(.int (own_v1_0 q0))]))
  refine own_go (fun _ => XS.iloadN X24.here hx rfl (hb hby at_155) rfl) ?_
  show own_G p e below s _ _ _ (T24.setTop (mkF m 156 #[.val (.int q0), .val (.int q1), .val (.int q2), .val (.ref a1), .val (.int (own_n0_149 q1 q2))] [(.int q0), (.int (own_v1_0 q0))]))
  obtain ⟨T25, X25, e25, st25⟩ := own_call X24 hx hZ hown (hw _ (List.mem_of_getElem? (i := 19) rfl)) (hw _ (List.mem_of_getElem? (i := 20) rfl)) (hw _ (List.mem_of_getElem? (i := 21) rfl)) (hw _ (List.mem_of_getElem? (i := 22) rfl)) (by decide) (rm2 l Z a0 hw [] q0 h23) rfl rfl e24 (W := 1) (by decide) (by decide) (by decide) (by decide) (g := (mkF m 156 #[.val (.int q0), .val (.int q1), .val (.int q2), .val (.ref a1), .val (.int (own_n0_149 q1 q2))] [(.int q0), (.int (own_v1_0 q0))])) rfl (by rw [hml]; rfl) (argsL := [(.int q0)]) (rest := [(.int (own_v1_0 q0))]) (lenOf (by decide +kernel : parseMethodDescriptor "(I)Z" = some ⟨[.int], some .boolean⟩) rfl) rfl rfl (by show 2 * 0 + _ ≤ _; exact Nat.le_of_eq rfl) (hb hby at_156)
  refine own_go (fun _ => st25 _) ?_
  show own_G p e below s _ _ _ (T25.setTop (mkF m 159 #[.val (.int q0), .val (.int q1), .val (.int q2), .val (.ref a1), .val (.int (own_n0_149 q1 q2))] [(.int (own_v2_0 q0)), (.int (own_v1_0 q0))]))
  refine own_go (fun _ => XS.icmpNo X25.here hx rfl (hb hby at_159) rfl (teq (own_same _)).2) ?_
  show own_G p e below s _ _ _ (T25.setTop (mkF m 162 #[.val (.int q0), .val (.int q1), .val (.int q2), .val (.ref a1), .val (.int (own_n0_149 q1 q2))] []))
  refine own_go (fun _ => XS.iload X25.here hx rfl (hb hby at_162) rfl) ?_
  show own_G p e below s _ _ _ (T25.setTop (mkF m 164 #[.val (.int q0), .val (.int q1), .val (.int q2), .val (.ref a1), .val (.int (own_n0_149 q1 q2))] [(.int (own_n0_149 q1 q2))]))
  obtain ⟨T26, X26, e26, st26⟩ := own_call X25 hx hZ hown (hw _ (List.mem_of_getElem? (i := 13) rfl)) (hw _ (List.mem_of_getElem? (i := 14) rfl)) (hw _ (List.mem_of_getElem? (i := 15) rfl)) (hw _ (List.mem_of_getElem? (i := 16) rfl)) (by decide) (rm1 l Z a0 hw [] (own_n0_149 q1 q2) h23) rfl rfl e25 (W := 0) (by decide) (by decide) (by decide) (by decide) (g := (mkF m 164 #[.val (.int q0), .val (.int q1), .val (.int q2), .val (.ref a1), .val (.int (own_n0_149 q1 q2))] [(.int (own_n0_149 q1 q2))])) rfl (by rw [hml]; rfl) (argsL := [(.int (own_n0_149 q1 q2))]) (rest := []) (lenOf (by decide +kernel : parseMethodDescriptor "(I)Z" = some ⟨[.int], some .boolean⟩) rfl) rfl rfl (by show 2 * 0 + _ ≤ _; exact Nat.le_of_eq rfl) (hb hby at_164)
  refine own_go (fun _ => st26 _) ?_
  show own_G p e below s _ _ _ (T26.setTop (mkF m 167 #[.val (.int q0), .val (.int q1), .val (.int q2), .val (.ref a1), .val (.int (own_n0_149 q1 q2))] [(.int (own_v1_0 (own_n0_149 q1 q2)))]))
  refine own_go (fun _ => XS.iload X26.here hx rfl (hb hby at_167) rfl) ?_
  show own_G p e below s _ _ _ (T26.setTop (mkF m 169 #[.val (.int q0), .val (.int q1), .val (.int q2), .val (.ref a1), .val (.int (own_n0_149 q1 q2))] [(.int (own_n0_149 q1 q2)), (.int (own_v1_0 (own_n0_149 q1 q2)))]))
  obtain ⟨T27, X27, e27, st27⟩ := own_call X26 hx hZ hown (hw _ (List.mem_of_getElem? (i := 19) rfl)) (hw _ (List.mem_of_getElem? (i := 20) rfl)) (hw _ (List.mem_of_getElem? (i := 21) rfl)) (hw _ (List.mem_of_getElem? (i := 22) rfl)) (by decide) (rm2 l Z a0 hw [] (own_n0_149 q1 q2) h23) rfl rfl e26 (W := 1) (by decide) (by decide) (by decide) (by decide) (g := (mkF m 169 #[.val (.int q0), .val (.int q1), .val (.int q2), .val (.ref a1), .val (.int (own_n0_149 q1 q2))] [(.int (own_n0_149 q1 q2)), (.int (own_v1_0 (own_n0_149 q1 q2)))])) rfl (by rw [hml]; rfl) (argsL := [(.int (own_n0_149 q1 q2))]) (rest := [(.int (own_v1_0 (own_n0_149 q1 q2)))]) (lenOf (by decide +kernel : parseMethodDescriptor "(I)Z" = some ⟨[.int], some .boolean⟩) rfl) rfl rfl (by show 2 * 0 + _ ≤ _; exact Nat.le_of_eq rfl) (hb hby at_169)
  refine own_go (fun _ => st27 _) ?_
  show own_G p e below s _ _ _ (T27.setTop (mkF m 172 #[.val (.int q0), .val (.int q1), .val (.int q2), .val (.ref a1), .val (.int (own_n0_149 q1 q2))] [(.int (own_v2_0 (own_n0_149 q1 q2))), (.int (own_v1_0 (own_n0_149 q1 q2)))]))
  refine own_go (fun _ => XS.icmpNo X27.here hx rfl (hb hby at_172) rfl (teq (own_same _)).2) ?_
  show own_G p e below s _ _ _ (T27.setTop (mkF m 175 #[.val (.int q0), .val (.int q1), .val (.int q2), .val (.ref a1), .val (.int (own_n0_149 q1 q2))] []))
  refine own_go (fun _ => XS.iconst X27.here hx rfl (hb hby at_175)) ?_
  show own_G p e below s _ _ _ (T27.setTop (mkF m 176 #[.val (.int q0), .val (.int q1), .val (.int q2), .val (.ref a1), .val (.int (own_n0_149 q1 q2))] [(.int (1 : Int32))]))
  refine own_go (fun _ => XS.goto X27.here hx rfl (pc0 := 176) (pc' := 180) rfl (hb hby at_176) (by decide) (by decide)) ?_
  show own_G p e below s _ _ _ (T27.setTop (mkF m 180 #[.val (.int q0), .val (.int q1), .val (.int q2), .val (.ref a1), .val (.int (own_n0_149 q1 q2))] [(.int (1 : Int32))]))
  exact own_retN X27 hx hlk (t := .boolean) Bd.returns (by simp) (hb hby at_180) (by decide) (by decide) ⟨rfl, N23⟩
set_option maxRecDepth 65536 in
set_option maxHeartbeats 40000000 in
theorem comes_1 {Post : Tables → Env → Array Value → State → Outcome → State → Prop} (hpost : ∀ tb e args s v u, (limb_1_1.after args s (.returned v) u = true ∧ limb_1_2.after args s (.returned v) u = true ∧ True) → FrameEnd s (.returned v) u (Jvm.fieldLocs frame_1_writes args s ++ Jvm.arrayLocs frame_1_arrays args s ++ Jvm.staticLocs frame_1_statics s) 16 128 → Post tb e args s (.returned v) u) :
    ArmFor flags0 classFile x code maxLocals ret World_1 tables_1 room_1 Calls_1 rest_1 Pre_1 Post := by
  intro l hfl _ _ p e ha hc hk s m args below hf hA hF happ hP
  obtain ⟨hcalls, hrest, hpre⟩ := hP
  obtain ⟨-, -, -, hnamed, -, -, -, hat⟩ := (Spec.applies_iff hf).mp happ
  obtain ⟨hg, hn⟩ := and_e (Cond.before_iff.mp (show (Jvm.Cond.and given_1 narrow_1).before args s = true from hpre))
  obtain ⟨cg0, cq0⟩ := and_e hg
  obtain ⟨w0, w1, w2, rfl⟩ : ∃ w0 w1 w2 : Value, args = #[w0, w1, w2] := by
    have hs : args.size = 3 := by simpa [Cond.value, given_1] using cg0
    obtain ⟨L⟩ := args
    match L, hs with
    | [w0, w1, w2], _ => exact ⟨w0, w1, w2, rfl⟩
  have hw := fun d (hd : d ∈ tables_1) => atoms_spec (ws := Jvm.Cond.code x code maxLocals ret :: tables_1) hat d (List.mem_cons_of_mem _ hd)
  obtain ⟨ca0, cq1⟩ := and_e cq0
  obtain ⟨q0, eq0⟩ := is_v ca0
  obtain rfl : w0 = (.int q0) := Option.some.inj eq0
  obtain ⟨ca1, cq2⟩ := and_e cq1
  obtain ⟨q1, eq1⟩ := is_v ca1
  obtain rfl : w1 = (.int q1) := Option.some.inj eq1
  obtain ⟨q2, eq2⟩ := is_v cq2
  obtain rfl : w2 = (.int q2) := Option.some.inj eq2
  obtain ⟨n, o, h1, h2, h3, _, L, rfl, ⟨rfl, N⟩, hq⟩ := rm0 l s _ hw tables_1 q0 q1 q2 s.heap s.heap.size (Nat.le_refl _)  p e ha hc hk s m _ below hf ((Spec.applies_iff_loose hf).mp happ).1 ⟨rfl, State.Warmed39.refl s, rfl⟩ trivial
  refine ⟨n, _, h1, h2, h3, hpost _ _ _ _ _ _ ⟨Cond.after_iff.mpr rfl, Cond.after_iff.mpr (eq_i res_at (Term.int_eval (1)) rfl), trivial⟩ ⟨hq.1, hq.2.1, (hq.2.2.sift fun y hy => Or.inr (N y hy)).mono (by decide) (by decide)⟩⟩
theorem main_1_1 : Claimed_1_1 := comes_1 fun _ _ _ _ _ _ h hF => ⟨h.1, hF⟩
theorem main_1_2 : Claimed_1_2 := comes_1 fun _ _ _ _ _ _ h hF => ⟨h.2.1, hF⟩
end Jvm.Pilot.@@N@@
namespace Jvm.Pilot.@@N@@
open Jvm Jvm.ClassFile Sem Op Lib Jvm.Free Jvm.Stand Jvm.Pilot.@@N@@.Jvm.D
/-! MADE BY PROGRAM (witnessworld.py) out of the Statement's table words and the real class files: 9 classes; the members and pool entries that the words name. The judged class is class 1, her method 2. -/
namespace start1
open Jvm.ClassFile
def u (s : String) : CpInfo := .utf8 (stringToUtf16 s)
/-- a pool by its gaps: so many unusable entries, then the entry; so many at the end -/
def gap : Nat → List CpInfo → List CpInfo
  | 0, r => r
  | n + 1, r => .unusable :: gap n r
def poolList (es : List (Nat × CpInfo)) (last : Nat) : List CpInfo := es.foldr (fun e r => gap e.1 (e.2 :: r)) (gap last [])
def pool (es : List (Nat × CpInfo)) (last : Nat) : Array CpInfo := ⟨poolList es last⟩
def fileOf (pool : Array CpInfo) (this : Nat) (attrs : Array Attribute := #[]) (ms : Array MethodInfo := #[]) (fl : Nat := 33) (sup : Nat := 0) (ifs : Array Nat := #[]) (fds : Array FieldInfo := #[]) : ClassFile where
  minorVersion := 0
  majorVersion := 65
  constantPool := pool
  accessFlags := fl
  thisClass := this
  superClass := sup
  interfaces := ifs
  fields := fds
  methods := ms
  attributes := attrs
def plain (name : String) (sup : Option ClassId) : Class where
  name := name
  kind := .ordinary
  loader := none
  accessFlags := 33
  super := sup
  interfaces := #[]
  cf := none
  fields := #[]
  methods := #[]
  instanceTypes := #[]
  staticTypes := #[]
  resolved := #[]
  callSites := []
  init := .initialized
  statics := none
  mirror := none

def pool0 : Array CpInfo := pool [(5, u "<init>"), (0, u "()V"), (1, .class_ 10), (1, u "java/lang/Object")] 113

def k0m0 : Method := { name := "<init>", desc := "()V", sig := { parameters := [], returnType := none }, accessFlags := 1, code := none }
/-- java/lang/Object -/
def k0 : Class := { plain "java/lang/Object" none with
  accessFlags := 33
  interfaces := #[]
  cf := some (fileOf pool0 8 #[] #[{ accessFlags := 1, nameIndex := 5, descriptorIndex := 6, attributes := #[] }] 33 0 #[] #[])
  fields := #[]
  methods := #[k0m0]
  instanceTypes := #[]
  staticTypes := #[]
  resolved := Array.replicate 124 none
  statics := none }

def pool1 : Array CpInfo := pool [(2, .class_ 4), (1, u "java/lang/Object"), (0, u "<init>"), (0, u "()V"), (0, .integer 1114111), (0, .integer 55296), (0, .integer 57343), (0, .integer 65534), (0, .integer 65535), (0, .integer 55295), (0, .integer 57344), (0, .integer 65533), (0, .integer 65536), (0, .integer 1114112), (2, .integer 2147483648), (0, .integer 2147483647), (0, .methodref 22 23), (0, .class_ 24), (0, .nameAndType 25 26), (0, u "com/example/buccleuch/buccleuch/XmlChars"), (0, u "isChar"), (0, u "(I)Z"), (0, .methodref 28 29), (0, .class_ 30), (0, .nameAndType 31 26), (0, u "com/example/buccleuch/buccleuch/XmlCharsIsCharPinLaw"), (0, u "ref"), (3, u "law"), (0, u "(III)Z")] 4

def k1m0 : Method := { name := "<init>", desc := "()V", sig := { parameters := [], returnType := none }, accessFlags := 2, code := none }
def k1c1 : Code := { maxStack := 2, maxLocals := 1, code := method_2_code, exceptionTable := #[], attributes := #[] }
def k1m1 : Method := { name := "ref", desc := "(I)Z", sig := { parameters := [.int], returnType := some .boolean }, accessFlags := 10, code := some k1c1 }
def k1c2 : Code := { maxStack := 4, maxLocals := 5, code := code, exceptionTable := #[], attributes := #[] }
def k1m2 : Method := { name := "law", desc := "(III)Z", sig := { parameters := [.int, .int, .int], returnType := some .boolean }, accessFlags := 9, code := some k1c2 }
/-- com/example/buccleuch/buccleuch/XmlCharsIsCharPinLaw -/
def k1 : Class := { plain "com/example/buccleuch/buccleuch/XmlCharsIsCharPinLaw" (some 0) with
  accessFlags := 49
  interfaces := #[]
  cf := some (fileOf pool1 28 #[] #[{ accessFlags := 2, nameIndex := 5, descriptorIndex := 6, attributes := #[] }, { accessFlags := 10, nameIndex := 31, descriptorIndex := 26, attributes := #[] }, { accessFlags := 9, nameIndex := 35, descriptorIndex := 36, attributes := #[] }] 49 2 #[] #[])
  fields := #[]
  methods := #[k1m0, k1m1, k1m2]
  instanceTypes := #[]
  staticTypes := #[]
  resolved := Array.replicate 41 none
  statics := none }

def pool2 : Array CpInfo := pool [(2, .class_ 4), (1, u "java/lang/Object"), (0, u "<init>"), (0, u "()V"), (0, .integer 55295), (0, .integer 57344), (0, .integer 65533), (0, .integer 65536), (0, .integer 1114111), (1, .class_ 15), (1, u "com/example/buccleuch/buccleuch/XmlChars"), (0, u "ASCII_NAME_START"), (0, u "[Z"), (3, u "(I)Z"), (2, u "ASCII_NAME"), (15, u "PUBID_PUNCTUATION"), (0, u "Ljava/lang/String;"), (3, u "isChar")] 9

def k2m0 : Method := { name := "<init>", desc := "()V", sig := { parameters := [], returnType := none }, accessFlags := 2, code := none }
def k2c1 : Code := { maxStack := 2, maxLocals := 1, code := prog_100_method_2_code, exceptionTable := #[], attributes := #[] }
def k2m1 : Method := { name := "isChar", desc := "(I)Z", sig := { parameters := [.int], returnType := some .boolean }, accessFlags := 8, code := some k2c1 }
/-- com/example/buccleuch/buccleuch/XmlChars -/
def k2 : Class := { plain "com/example/buccleuch/buccleuch/XmlChars" (some 0) with
  accessFlags := 48
  interfaces := #[]
  cf := some (fileOf pool2 13 #[] #[{ accessFlags := 2, nameIndex := 5, descriptorIndex := 6, attributes := #[] }, { accessFlags := 8, nameIndex := 45, descriptorIndex := 21, attributes := #[] }] 48 2 #[] #[{ accessFlags := 26, nameIndex := 16, descriptorIndex := 17, attributes := #[] }, { accessFlags := 26, nameIndex := 24, descriptorIndex := 17, attributes := #[] }, { accessFlags := 26, nameIndex := 40, descriptorIndex := 41, attributes := #[] }])
  fields := #[{ name := "ASCII_NAME_START", type := (.array .boolean), accessFlags := 26, slot := 0, constantValue := 0 }, { name := "ASCII_NAME", type := (.array .boolean), accessFlags := 26, slot := 1, constantValue := 0 }, { name := "PUBID_PUNCTUATION", type := (.object "java/lang/String"), accessFlags := 26, slot := 2, constantValue := 0 }]
  methods := #[k2m0, k2m1]
  instanceTypes := #[]
  staticTypes := #[(.array .boolean), (.array .boolean), (.object "java/lang/String")]
  resolved := Array.replicate 55 none
  statics := none }

def pool3 : Array CpInfo := pool [(1, u "java/lang/Cloneable"), (0, .class_ 1), (0, u "java/lang/Object"), (0, .class_ 3)] 3

/-- java/lang/Cloneable -/
def k3 : Class := { plain "java/lang/Cloneable" (some 0) with
  accessFlags := 1537
  interfaces := #[]
  cf := some (fileOf pool3 2 #[] #[] 1537 4 #[] #[])
  fields := #[]
  methods := #[]
  instanceTypes := #[]
  staticTypes := #[]
  resolved := Array.replicate 8 none
  statics := none }

def pool4 : Array CpInfo := pool [(1, u "java/io/Serializable"), (0, .class_ 1), (0, u "java/lang/Object"), (0, .class_ 3)] 3

/-- java/io/Serializable -/
def k4 : Class := { plain "java/io/Serializable" (some 0) with
  accessFlags := 1537
  interfaces := #[]
  cf := some (fileOf pool4 2 #[] #[] 1537 4 #[] #[])
  fields := #[]
  methods := #[]
  instanceTypes := #[]
  staticTypes := #[]
  resolved := Array.replicate 8 none
  statics := none }

/-- the primitive byte -/
def k5 : Class := { plain "byte" none with kind := .primitive 'B', accessFlags := 0x411 }
/-- [B -/
def k6 : Class := { plain "[B" (some 0) with kind := .array 5 .byte, interfaces := #[3, 4], accessFlags := 1041 }

/-- the primitive int -/
def k7 : Class := { plain "int" none with kind := .primitive 'I', accessFlags := 0x411 }
/-- [I -/
def k8 : Class := { plain "[I" (some 0) with kind := .array 7 .int, interfaces := #[3, 4], accessFlags := 1041 }

def heap : Heap := #[]
def classes : Array Class := #[k0, k1, k2, k3, k4, k5, k6, k7, k8]
def interned : List (Array UInt16 × Addr) := []
def slotsUsed : Nat := 0
def theMethod : MethodId := ⟨1, 2⟩
def args0 : Array Value := #[.int 5, .int 3, .int 1]
def aboutOver (below : List Frame) : State where
  vm := { classes := classes, interned := interned.toArray }
  heap := heap
  slotsUsed := slotsUsed
  threads := #[{ frames := .invoking theMethod args0 :: below }]
def below0 : List Frame := [.native { method := ⟨0, 0⟩, args := #[] }]
def about1 : State := aboutOver below0
def p0 : Program := .bare "" "" ""
def e0 : Env := launch0.env 0 0 0
theorem w_frames : about1.frames = Frame.invoking theMethod args0 :: below0 := rfl
set_option maxRecDepth 65536 in
theorem w_args : argsFit about1.vm theMethod args0 = true := by decide +kernel
set_option maxRecDepth 65536 in
theorem w_heap : heapFits about1 = true := by decide +kernel
set_option maxRecDepth 65536 in
theorem w_runnable : about1.curStatus? = some .runnable := by decide +kernel
set_option maxRecDepth 65536 in
theorem w_alone : about1.alone = true := by decide +kernel
set_option maxRecDepth 65536 in
theorem w_named : about1.methodNamed? x = some theMethod := by decide +kernel
set_option maxRecDepth 65536 in
theorem w_hears : about1.hears theMethod below0 = true := by decide +kernel
set_option maxRecDepth 65536 in
theorem w_ripe : about1.ripe theMethod args0 below0 = true := by decide +kernel
theorem w_running : about1.status = .running := rfl
set_option maxRecDepth 65536 in
theorem w_room : about1.hasRoom e0.platform room_1 = true :=
  launch0.hasRoom_least _ room_1 (by decide +kernel) (by decide +kernel) (by decide +kernel) (by decide +kernel) (by decide +kernel) (by decide +kernel)
theorem allAtoms_all (ts : List Jvm.Cond) (a : Array Jvm.Value) (st : Jvm.State) : (allAtoms ts).before a st = ts.all (fun c => c.before a st) := by
  induction ts with
  | nil => rfl
  | cons c t ih =>
    show (Jvm.Cond.and c (allAtoms t)).before a st = _
    rw [Jvm.Cond.before_and, ih, List.all_cons]
def words1 : List Jvm.Cond := Jvm.Cond.code x code maxLocals ret :: tables_1
/-- a 'code' word, met by the world's own term for the bytes: nothing is compared byte by byte -/
theorem code_word {y : MethodName} {bytes : ByteArray} {mx : Nat} {rt : Option FieldType} {a : Array Value} {s : State} {m : MethodId} {meth : Method} {c : Code} (h1 : s.methodNamed? y = some m) (h2 : s.vm.method? m = some meth) (h3 : meth.code = some c) (h4 : c.code = bytes)
    (h5 : (c.maxLocals == mx && c.exceptionTable.isEmpty && decide (c.maxStack ≤ mostOperands) && decide (meth.sig.returnType = rt) && !meth.locks && decide (parseMethodDescriptor y.desc = some meth.sig)) = true) : (Jvm.Cond.code y bytes mx rt).before a s = true := by
  simp only [Bool.and_eq_true, beq_iff_eq, Bool.not_eq_true', decide_eq_true_eq] at h5
  obtain ⟨⟨⟨⟨⟨g1, g2⟩, g3⟩, g4⟩, g5⟩, g6⟩ := h5
  simp [Cond.before, Cond.holds, Cond.value, h1, h2, h3, h4, g1, g2, g3, g4, g5, g6]
def isCode : Jvm.Cond → Bool
  | .code _ _ _ _ => true
  | _ => false
theorem all_split {L : List Jvm.Cond} {P : Jvm.Cond → Bool} (h1 : L.all (fun c => isCode c || P c) = true) (h2 : ∀ c ∈ L.filter isCode, P c = true) : L.all P = true := by
  refine List.all_eq_true.mpr fun c hc => ?_
  have h := List.all_eq_true.mp h1 c hc
  rcases Bool.eq_false_or_eq_true (isCode c) with hi | hi
  · exact h2 c (List.mem_filter.mpr ⟨hc, hi⟩)
  · simpa [hi] using h
set_option maxRecDepth 65536 in
theorem w_c0 : (Jvm.Cond.code x code maxLocals ret).before args0 about1 = true := code_word (m := ⟨1, 2⟩) (meth := k1m2) (c := k1c2) (by decide +kernel) rfl rfl rfl (by decide +kernel)
set_option maxRecDepth 65536 in
theorem w_c1 : (Jvm.Cond.code ({ cls := "com/example/buccleuch/buccleuch/XmlChars", name := "isChar", desc := "(I)Z" } : Jvm.MethodName) prog_100_method_2_code (1 : Nat) (Option.some Jvm.ClassFile.FieldType.boolean)).before args0 about1 = true := code_word (m := ⟨2, 1⟩) (meth := k2m1) (c := k2c1) (by decide +kernel) rfl rfl rfl (by decide +kernel)
set_option maxRecDepth 65536 in
theorem w_c2 : (Jvm.Cond.code ({ cls := "com/example/buccleuch/buccleuch/XmlCharsIsCharPinLaw", name := "ref", desc := "(I)Z" } : Jvm.MethodName) method_2_code (1 : Nat) (Option.some Jvm.ClassFile.FieldType.boolean)).before args0 about1 = true := code_word (m := ⟨1, 1⟩) (meth := k1m1) (c := k1c1) (by decide +kernel) rfl rfl rfl (by decide +kernel)
def codes1 : List Jvm.Cond := [Jvm.Cond.code x code maxLocals ret, Jvm.Cond.code ({ cls := "com/example/buccleuch/buccleuch/XmlChars", name := "isChar", desc := "(I)Z" } : Jvm.MethodName) prog_100_method_2_code (1 : Nat) (Option.some Jvm.ClassFile.FieldType.boolean), Jvm.Cond.code ({ cls := "com/example/buccleuch/buccleuch/XmlCharsIsCharPinLaw", name := "ref", desc := "(I)Z" } : Jvm.MethodName) method_2_code (1 : Nat) (Option.some Jvm.ClassFile.FieldType.boolean)]
set_option maxRecDepth 65536 in
theorem codes_eq : words1.filter isCode = codes1 := rfl
theorem w_codes : ∀ c ∈ words1.filter isCode, c.before args0 about1 = true := by
  rw [codes_eq]
  intro c hc
  simp only [codes1, List.mem_cons, List.not_mem_nil, or_false] at hc
  rcases hc with rfl | rfl | rfl
  · exact w_c0
  · exact w_c1
  · exact w_c2
set_option maxRecDepth 65536 in
theorem w_t1 : (words1.take 24).all (fun c => isCode c || c.before args0 about1) = true := by decide +kernel
set_option maxRecDepth 65536 in
theorem w_t2 : (words1.drop 24).all (fun c => isCode c || c.before args0 about1) = true := by decide +kernel
theorem w_tables : (allAtoms (Jvm.Cond.code x code maxLocals ret :: tables_1)).before args0 about1 = true := by
  rw [allAtoms_all]
  show words1.all (fun c => c.before args0 about1) = true
  refine all_split ?_ w_codes
  rw [← List.take_append_drop 24 words1, List.all_append, w_t1, w_t2]
  rfl
set_option maxRecDepth 65536 in
theorem w_case : (Jvm.Cond.and given_1 narrow_1).before args0 about1 = true := by decide +kernel
theorem w_applies : (headSpec (Jvm.Cond.code x code maxLocals ret :: tables_1) room_1).applies x e0.platform about1 = true :=
  (Spec.applies_iff w_frames).mpr ⟨w_running, w_runnable, w_alone, w_named, w_hears, w_ripe, w_room, w_tables⟩
theorem atStart : AtStart classFile x code maxLocals ret World_1 tables_1 room_1 Calls_1 rest_1 Pre_1 launch0 p0 e0 about1 theMethod args0 below0 :=
  ⟨lists_1, trivial, launch0.admits_env _ _ _, launch0.least_env, fairChoices_fair.cas, fairChoices_fair.clock, w_frames, w_args, w_heap, w_applies, trivial, trivial, w_case⟩
end start1
theorem witness_1 : WitnessClaimed_1 := ⟨start1.p0, start1.e0, start1.about1, start1.theMethod, start1.args0, start1.below0, start1.atStart⟩
end Jvm.Pilot.@@N@@
