import JvmDerived
import JvmDerived.Pilot.@@N@@Statement
import JvmDerived.Pilot.@@N@@Code
set_option linter.unusedVariables false
set_option linter.unusedSimpArgs false
namespace Jvm.RoadKit
open Sem ClassFile Op Lib Jvm.Stand Jvm.Free Jvm.LawKit
section New
variable {p : Program} {l : Launch} {e : Env} {R : Room} {s : State} {m : MethodId} {args : Array Value} {below : List Frame} {meth : Method} {c : Code} {T : State} {locs : List Loc} {cells slots : Nat}
theorem retI (X : Stand p l e R s m args below meth c T locs cells slots) (hx : p.tables.exec = Jvm.exec) {pc : Nat} {Ls : Array Slot} {z : Int32} {rest : List Value} (hret : meth.sig.returnType = some .int) (hd : decode c.code pc = .ok (.ireturn, 1)) {fs : List Frame}
    (hl : ∀ (f : JFrame) (acts : List Action), f.method = m → f.locked = none → f.entered = [] → (doReturn e (T.setTop f) acts (some (.int z))).1 = T.setFrames fs) : Steps p.tables e below (T.setTop (mkF m pc Ls (.int z :: rest))) (T.setFrames fs) := by
  have hm' : T.vm.method? m = some meth := X.method'
  have hn : narrow .int (.int z) = .int z := rfl
  show Steps p.tables e below (T.setTop { method := m, pc := pc, locals := Ls, stack := _ :: rest, locked := none }) _
  jvm_step X.here [X.here.top, hx, hd, hm', hret, hn]
  first | (intro acts; rw [hl _ acts rfl rfl rfl]) | rw [hl _ _ rfl rfl rfl]
  exact Steps.refl _
end New
end Jvm.RoadKit
namespace Jvm.Pilot.@@N@@
open Jvm Jvm.ClassFile Sem Op Lib Jvm.Free Jvm.Stand Jvm.LawKit Jvm.RoadKit Bundle Jvm.Pilot.@@N@@.Jvm.D
/-! 0. the walk's goal: from the state S the body ends, and Q says what it leaves -/
def own_G (p : Program) (e : Env) (below : List Frame) (s : State) (Q : Option Value → Heap → List Loc → Prop) (k n : Nat) (S : State) : Prop :=
  ∃ s₂ o, Steps p.tables e below S s₂ ∧ s₂.status = .running ∧ Ended s₂ below o ∧ ∃ v L, o = .returned v ∧ Q v s₂.heap L ∧ FrameEnd s o s₂ L k n
theorem own_go {p : Program} {e : Env} {below : List Frame} {s : State} {Q : Option Value → Heap → List Loc → Prop} {k n : Nat} {S S' : State} (h : ∀ t, Steps p.tables e below S' t → Steps p.tables e below S t) (g : own_G p e below s Q k n S') : own_G p e below s Q k n S := by
  obtain ⟨t, o, h1, h2⟩ := g
  exact ⟨t, o, h t h1, h2⟩
theorem own_G0 {p : Program} {e : Env} {below : List Frame} {s : State} {Q : Option Value → Heap → List Loc → Prop} {k n : Nat} {S : State} (g : own_G p e below s Q k n S) :
    ∃ s₂ o, Steps p.tables e below S s₂ ∧ s₂.status = .running ∧ Ended s₂ below o ∧ ∃ v L, o = .returned v ∧ Q v s₂.heap L ∧ FrameEnd s o s₂ L k n := g
/-- a body that writes nothing and returns r -/
def own_Q (r : Option Value) (h0 : Heap) (v : Option Value) (h : Heap) (L : List Loc) : Prop := v = r ∧ L = [] ∧ h = h0
/-- Java's x % y, x >>> y on ints and longs, (char) x -/
def own_rem (x y : Int32) : Int32 := x - (x / y) * y
def own_us (x y : Int32) : Int32 := (x.toUInt32 >>> (y &&& 31).toUInt32).toInt32
def own_usL (x : Int64) (y : Int32) : Int64 := (x.toUInt64 >>> (y &&& 0x3f).toInt64.toUInt64).toInt64
def own_c (x : Int32) : Int32 := x.toUInt32.toUInt16.toUInt32.toInt32
theorem own_eq {p : Program} {e : Env} {below : List Frame} {s : State} {h0 : Heap} {k n : Nat} {S : State} {a b : Int32} (h : a = b) (g : own_G p e below s (own_Q (some (.int b)) h0) k n S) : own_G p e below s (own_Q (some (.int a)) h0) k n S := h ▸ g
section Own
variable {p : Program} {l : Launch} {e : Env} {R : Room} {s : State} {m : MethodId} {args : Array Value} {below : List Frame} {meth : Method} {c : Code} {T : State} {locs : List Loc} {cells slots : Nat} {Q : Option Value → Heap → List Loc → Prop} {k n : Nat}
theorem own_retI (X : Stand p l e R s m args below meth c T locs cells slots) (hx : p.tables.exec = Jvm.exec) (hlk : meth.locks = false) {pc : Nat} {Ls : Array Slot} {z : Int32} {rest : List Value} (hret : meth.sig.returnType = some .int) (hd : decode c.code pc = .ok (.ireturn, 1)) (hc : cells ≤ k) (hs : slots ≤ n) (hq : Q (some (.int z)) T.heap locs) :
    own_G p e below s Q k n (T.setTop (mkF m pc Ls (.int z :: rest))) := by
  obtain ⟨fs, hr, hrun, hended, hW, hsame⟩ := X.leave (v := some (.int z)) (fun h => by rw [hret] at h; cases h) hlk
  exact ⟨_, _, retI X hx hret hd hr, hrun, hended, _, _, rfl, hq, ⟨_, rfl⟩, hW, hsame.mono hc hs⟩
theorem own_retN (X : Stand p l e R s m args below meth c T locs cells slots) (hx : p.tables.exec = Jvm.exec) (hlk : meth.locks = false) {pc : Nat} {Ls : Array Slot} {z : Int32} {t : FieldType} {rest : List Value} (hret : meth.sig.returnType = some t) (ht : t = .boolean ∨ t = .byte ∨ t = .char ∨ t = .short) (hd : decode c.code pc = .ok (.ireturn, 1)) (hc : cells ≤ k) (hs : slots ≤ n) (hq : Q (some (.int (nar t z))) T.heap locs) :
    own_G p e below s Q k n (T.setTop (mkF m pc Ls (.int z :: rest))) := by
  obtain ⟨fs, hr, hrun, hended, hW, hsame⟩ := X.leave (v := some (.int (nar t z))) (fun h => by rw [hret] at h; cases h) hlk
  exact ⟨_, _, retN X hx hret ht hd hr, hrun, hended, _, _, rfl, hq, ⟨_, rfl⟩, hW, hsame.mono hc hs⟩
theorem own_retJ (X : Stand p l e R s m args below meth c T locs cells slots) (hx : p.tables.exec = Jvm.exec) (hlk : meth.locks = false) {pc : Nat} {Ls : Array Slot} {z : Int64} (hret : meth.sig.returnType = some .long) (hd : decode c.code pc = .ok (.lreturn, 1)) (hc : cells ≤ k) (hs : slots ≤ n) (hq : Q (some (.long z)) T.heap locs) :
    own_G p e below s Q k n (T.setTop (mkF m pc Ls [.long z])) := by
  obtain ⟨fs, hr, hrun, hended, hW, hsame⟩ := X.leave (v := some (.long z)) (fun h => by rw [hret] at h; cases h) hlk
  exact ⟨_, _, X.lreturnOut hx hret hd hr, hrun, hended, _, _, rfl, hq, ⟨_, rfl⟩, hW, hsame.mono hc hs⟩
theorem own_retA (X : Stand p l e R s m args below meth c T locs cells slots) (hx : p.tables.exec = Jvm.exec) (hlk : meth.locks = false) {pc : Nat} {Ls : Array Slot} {w : Value} {t : FieldType} (hw : w.isRef = true) (hret : meth.sig.returnType = some t) (ht : t.isReference = true) (hd : decode c.code pc = .ok (.areturn, 1)) (hc : cells ≤ k) (hs : slots ≤ n) (hq : Q (some w) T.heap locs) :
    own_G p e below s Q k n (T.setTop (mkF m pc Ls [w])) := by
  obtain ⟨fs, hr, hrun, hended, hW, hsame⟩ := X.leave (v := some w) (fun h => by rw [hret] at h; cases h) hlk
  exact ⟨_, _, X.areturnOut hx hw hret ht hd hr, hrun, hended, _, _, rfl, hq, ⟨_, rfl⟩, hW, hsame.mono hc hs⟩
theorem own_retV (X : Stand p l e R s m args below meth c T locs cells slots) (hx : p.tables.exec = Jvm.exec) (hlk : meth.locks = false) {pc : Nat} {Ls : Array Slot} (hret : meth.sig.returnType = none) (hd : decode c.code pc = .ok (.return_, 1)) (hc : cells ≤ k) (hs : slots ≤ n) (hq : Q none T.heap locs) :
    own_G p e below s Q k n (T.setTop (mkF m pc Ls [])) := by
  obtain ⟨fs, hr, hrun, hended, hW, hsame⟩ := X.leave (v := none) (fun _ => rfl) hlk
  exact ⟨_, _, X.returnOut hx hret hd hr, hrun, hended, _, _, rfl, hq, ⟨_, rfl⟩, hW, hsame.mono hc hs⟩
/-- a static call of a body that writes nothing -/
theorem own_call (X : Stand p l e R s m args below meth c T locs cells slots) (hx : p.tables.exec = Jvm.exec) {Z : State} (hZ : Z.Warmed39 s.vm) {a0 : Array Value} {own : String} {index : Nat} {y : MethodName} {bytes : ByteArray} {maxL : Nat} {ret : Option FieldType} {rm : Room} (hown : s.vm.findClass own = some m.cls)
    (w1 : (Cond.methodLink own index y).before a0 Z = true) (w2 : (Cond.static y).before a0 Z = true) (w3 : (Cond.initialized y.cls).before a0 Z = true) (w4 : (Cond.code y bytes maxL ret).before a0 Z = true) (hy : y.cls ≠ "java/lang/invoke/MethodHandle" ∧ y.cls ≠ "java/lang/invoke/VarHandle")
    {as' : Array Value} {h : Heap} {r : Option Value} (hM : MetFree l y (head1 [Cond.code y bytes maxL ret] rm) (fun a U => a = as' ∧ Z.Warmed39 U.vm ∧ U.heap = h) (fun _ _ _ _ _ => True) (fun _ U o U' => ∃ v L, o = .returned v ∧ own_Q r h v U'.heap L ∧ FrameEnd U o U' L rm.cells rm.slots)) (hc0 : rm.cells = 0) (hs0 : rm.slots = 0) (eT : T.heap = h)
    {W : Nat} (hf : rm.frames + 1 ≤ R.frames) (hl : W + (maxL + 11) + rm.locals ≤ R.locals) (hcR : cells ≤ R.cells) (hsR : slots ≤ R.slots) {g : JFrame} (hg : g.method = m) (hsize : g.locals.size = c.maxLocals) {argsL rest : List Value} (hlen : ∀ sig, parseMethodDescriptor y.desc = some sig → argsL.length = sig.parameters.length) (has : argsL.toArray = as') (hstack : g.stack = argsL.reverse ++ rest)
    (hW : 2 * g.monitorRoom + (rest.map fun v => v.category).sum ≤ W) (hdg : decode c.code g.pc = .ok (.invokestatic index, 3)) :
    ∃ T', Stand p l e R s m args below meth c T' locs cells slots ∧ T'.heap = h ∧ ∀ t, Steps p.tables e below (T'.setTop { g with pc := g.pc + 3, stack := r.toList ++ rest }) t → Steps p.tables e below (T.setTop g) t := by
  obtain ⟨_, _, ⟨T2, L2, k2, n2⟩, -, X2, ⟨Lc2, hQ2, l2, y2, z2⟩, st2⟩ := Jvm.LawKit.callS X hx hown (mvT hZ w1) (mvT hZ w2) (mvT hZ w3) (mvT hZ w4) hy (backOf (W := W) hM hZ w4 w3 hf hl) hg hsize hlen hstack hW hdg (fun _ _ => ⟨has, eT, (by show cells + rm.cells ≤ R.cells; rw [hc0]; exact hcR), (by show slots + rm.slots ≤ R.slots; rw [hs0]; exact hsR)⟩)
  dsimp only [Pt.U, Pt.locs, Pt.cells, Pt.slots] at X2 l2 y2 z2 st2 hQ2
  obtain ⟨rfl, rfl, e2⟩ := hQ2
  rw [hc0] at y2
  rw [hs0] at z2
  rw [List.append_nil] at l2
  subst l2 y2 z2
  exact ⟨T2, X2, e2, st2⟩
end Own

theorem d1_0 : decode prog_44_method_2_code 0 = .ok (.lload_n 0, 1) := by decide +kernel
theorem d1_1 : decode prog_44_method_2_code 1 = .ok (.lload_n 0, 1) := by decide +kernel
theorem d1_2 : decode prog_44_method_2_code 2 = .ok (.bipush 30, 2) := by decide +kernel
theorem d1_4 : decode prog_44_method_2_code 4 = .ok (.lushr, 1) := by decide +kernel
theorem d1_5 : decode prog_44_method_2_code 5 = .ok (.lxor, 1) := by decide +kernel
theorem d1_6 : decode prog_44_method_2_code 6 = .ok (.ldc2_w 7, 3) := by decide +kernel
theorem d1_9 : decode prog_44_method_2_code 9 = .ok (.lmul, 1) := by decide +kernel
theorem d1_10 : decode prog_44_method_2_code 10 = .ok (.lstore_n 0, 1) := by decide +kernel
theorem d1_11 : decode prog_44_method_2_code 11 = .ok (.lload_n 0, 1) := by decide +kernel
theorem d1_12 : decode prog_44_method_2_code 12 = .ok (.lload_n 0, 1) := by decide +kernel
theorem d1_13 : decode prog_44_method_2_code 13 = .ok (.bipush 27, 2) := by decide +kernel
theorem d1_15 : decode prog_44_method_2_code 15 = .ok (.lushr, 1) := by decide +kernel
theorem d1_16 : decode prog_44_method_2_code 16 = .ok (.lxor, 1) := by decide +kernel
theorem d1_17 : decode prog_44_method_2_code 17 = .ok (.ldc2_w 9, 3) := by decide +kernel
theorem d1_20 : decode prog_44_method_2_code 20 = .ok (.lmul, 1) := by decide +kernel
theorem d1_21 : decode prog_44_method_2_code 21 = .ok (.lstore_n 0, 1) := by decide +kernel
theorem d1_22 : decode prog_44_method_2_code 22 = .ok (.lload_n 0, 1) := by decide +kernel
theorem d1_23 : decode prog_44_method_2_code 23 = .ok (.lload_n 0, 1) := by decide +kernel
theorem d1_24 : decode prog_44_method_2_code 24 = .ok (.bipush 31, 2) := by decide +kernel
theorem d1_26 : decode prog_44_method_2_code 26 = .ok (.lushr, 1) := by decide +kernel
theorem d1_27 : decode prog_44_method_2_code 27 = .ok (.lxor, 1) := by decide +kernel
theorem d1_28 : decode prog_44_method_2_code 28 = .ok (.lreturn, 1) := by decide +kernel
def own_n1_10 (q : Int64) : Int64 := ((q ^^^ (own_usL q (30 : Int32))) * (-4658895280553007687 : Int64))
def own_n1_21 (q : Int64) : Int64 := (((own_n1_10 q) ^^^ (own_usL (own_n1_10 q) (27 : Int32))) * (-7723592293110705685 : Int64))
def own_v1_0 (q : Int64) : Int64 := ((own_n1_21 q) ^^^ (own_usL (own_n1_21 q) (31 : Int32)))
theorem pn_1 : plainName "com/example/firmground/firmground/core/SplitMix64" = true := by first | (simp [plainName, overriddenIn]; done) | decide +kernel
theorem ef_1 (m : MethodId) (q : Int64) : entryFrame m #[(.long q)] 2 = mkF m 0 #[.val (.long q), .second] [] := by first | (simp [entryFrame, mkF, argsToLocals, Value.category]; done) | rfl
set_option maxRecDepth 65536 in
set_option maxHeartbeats 40000000 in
theorem rm1 (l : Launch) (Z : State) (a0 : Array Value) (hw : ∀ d ∈ tables_1, d.before a0 Z = true) (ws : List Jvm.Cond) (q : Int64) (h0 : Heap)  :
    MetFree l (⟨"com/example/firmground/firmground/core/SplitMix64", "mix", "(J)J"⟩ : MethodName) (head1 (Jvm.Cond.code (⟨"com/example/firmground/firmground/core/SplitMix64", "mix", "(J)J"⟩ : MethodName) prog_44_method_2_code 2 (some .long) :: ws) ({ frames := 0, cells := 0, slots := 0, locals := 0 } : Room)) (fun a U => a = #[(.long q)] ∧ Z.Warmed39 U.vm ∧ U.heap = h0) (fun _ _ _ _ _ => True) (fun _ U o U' => ∃ v L, o = .returned v ∧ own_Q (some (.long (own_v1_0 q))) h0 v U'.heap L ∧ FrameEnd U o U' L ({ frames := 0, cells := 0, slots := 0, locals := 0 } : Room).cells ({ frames := 0, cells := 0, slots := 0, locals := 0 } : Room).slots) := by
  refine MetFree.of_bodySF (plainFor_of_name pn_1) hisR ?_
  intro p e s m args below meth c s₁ Bd hml0 hP hK
  obtain ⟨rfl, hZ, hh⟩ := hP
  have hx := Bd.exec
  have hby := Bd.bytes
  have hml : c.maxLocals = 2 := hml0
  have hlk : meth.locks = false := Bd.notSynchronized
  have hown : s.vm.findClass "com/example/firmground/firmground/core/SplitMix64" = some m.cls := findClass_of_methodNamed Bd.named
  have X0 : Stand p l e ({ frames := 0, cells := 0, slots := 0, locals := 0 } : Room) s m #[(.long q)] below meth c s₁ [] 0 0 := Stand.of_body Bd
  have e0 : s₁.heap = h0 := by rw [← hh, Bd.state]; rfl
  refine own_G0 (own_go (fun _ k => castTop (ef_1 m q) k) ?_)
  show own_G p e below s (own_Q (some (.long ((own_n1_21 q) ^^^ (own_usL (own_n1_21 q) (31 : Int32))))) h0) ({ frames := 0, cells := 0, slots := 0, locals := 0 } : Room).cells ({ frames := 0, cells := 0, slots := 0, locals := 0 } : Room).slots (s₁.setTop (mkF m 0 #[.val (.long q), .second] []))
  refine own_go (fun _ => XS.lloadN X0.here hx rfl (hb hby d1_0) rfl) ?_
  show own_G p e below s _ _ _ (s₁.setTop (mkF m 1 #[.val (.long q), .second] [(.long q)]))
  refine own_go (fun _ => XS.lloadN X0.here hx rfl (hb hby d1_1) rfl) ?_
  show own_G p e below s _ _ _ (s₁.setTop (mkF m 2 #[.val (.long q), .second] [(.long q), (.long q)]))
  refine own_go (fun _ => XS.bipush X0.here hx rfl (hb hby d1_2)) ?_
  show own_G p e below s _ _ _ (s₁.setTop (mkF m 4 #[.val (.long q), .second] [(.int (30 : Int32)), (.long q), (.long q)]))
  refine own_go (fun _ => XS.lushr X0.here hx rfl (hb hby d1_4) rfl) ?_
  show own_G p e below s _ _ _ (s₁.setTop (mkF m 5 #[.val (.long q), .second] [(.long (own_usL q (30 : Int32))), (.long q)]))
  refine own_go (fun _ => XS.lxor X0.here hx rfl (hb hby d1_5) rfl) ?_
  show own_G p e below s _ _ _ (s₁.setTop (mkF m 6 #[.val (.long q), .second] [(.long (q ^^^ (own_usL q (30 : Int32))))]))
  refine own_go (fun _ => X0.ldc2Long hx hown (mvT hZ (hw _ (List.mem_of_getElem? (i := 4) rfl))) (g := (mkF m 6 #[.val (.long q), .second] [(.long (q ^^^ (own_usL q (30 : Int32))))])) rfl (hb hby d1_6) _) ?_
  show own_G p e below s _ _ _ (s₁.setTop (mkF m 9 #[.val (.long q), .second] [(.long (-4658895280553007687 : Int64)), (.long (q ^^^ (own_usL q (30 : Int32))))]))
  refine own_go (fun _ => XS.lmul X0.here hx rfl (hb hby d1_9) rfl) ?_
  show own_G p e below s _ _ _ (s₁.setTop (mkF m 10 #[.val (.long q), .second] [(.long ((q ^^^ (own_usL q (30 : Int32))) * (-4658895280553007687 : Int64)))]))
  refine own_go (fun _ => XS.lstoreN X0.here hx rfl (hb hby d1_10) rfl (l' := #[.val (.long (own_n1_10 q)), .second]) rfl) ?_
  show own_G p e below s _ _ _ (s₁.setTop (mkF m 11 #[.val (.long (own_n1_10 q)), .second] []))
  refine own_go (fun _ => XS.lloadN X0.here hx rfl (hb hby d1_11) rfl) ?_
  show own_G p e below s _ _ _ (s₁.setTop (mkF m 12 #[.val (.long (own_n1_10 q)), .second] [(.long (own_n1_10 q))]))
  refine own_go (fun _ => XS.lloadN X0.here hx rfl (hb hby d1_12) rfl) ?_
  show own_G p e below s _ _ _ (s₁.setTop (mkF m 13 #[.val (.long (own_n1_10 q)), .second] [(.long (own_n1_10 q)), (.long (own_n1_10 q))]))
  refine own_go (fun _ => XS.bipush X0.here hx rfl (hb hby d1_13)) ?_
  show own_G p e below s _ _ _ (s₁.setTop (mkF m 15 #[.val (.long (own_n1_10 q)), .second] [(.int (27 : Int32)), (.long (own_n1_10 q)), (.long (own_n1_10 q))]))
  refine own_go (fun _ => XS.lushr X0.here hx rfl (hb hby d1_15) rfl) ?_
  show own_G p e below s _ _ _ (s₁.setTop (mkF m 16 #[.val (.long (own_n1_10 q)), .second] [(.long (own_usL (own_n1_10 q) (27 : Int32))), (.long (own_n1_10 q))]))
  refine own_go (fun _ => XS.lxor X0.here hx rfl (hb hby d1_16) rfl) ?_
  show own_G p e below s _ _ _ (s₁.setTop (mkF m 17 #[.val (.long (own_n1_10 q)), .second] [(.long ((own_n1_10 q) ^^^ (own_usL (own_n1_10 q) (27 : Int32))))]))
  refine own_go (fun _ => X0.ldc2Long hx hown (mvT hZ (hw _ (List.mem_of_getElem? (i := 5) rfl))) (g := (mkF m 17 #[.val (.long (own_n1_10 q)), .second] [(.long ((own_n1_10 q) ^^^ (own_usL (own_n1_10 q) (27 : Int32))))])) rfl (hb hby d1_17) _) ?_
  show own_G p e below s _ _ _ (s₁.setTop (mkF m 20 #[.val (.long (own_n1_10 q)), .second] [(.long (-7723592293110705685 : Int64)), (.long ((own_n1_10 q) ^^^ (own_usL (own_n1_10 q) (27 : Int32))))]))
  refine own_go (fun _ => XS.lmul X0.here hx rfl (hb hby d1_20) rfl) ?_
  show own_G p e below s _ _ _ (s₁.setTop (mkF m 21 #[.val (.long (own_n1_10 q)), .second] [(.long (((own_n1_10 q) ^^^ (own_usL (own_n1_10 q) (27 : Int32))) * (-7723592293110705685 : Int64)))]))
  refine own_go (fun _ => XS.lstoreN X0.here hx rfl (hb hby d1_21) rfl (l' := #[.val (.long (own_n1_21 q)), .second]) rfl) ?_
  show own_G p e below s _ _ _ (s₁.setTop (mkF m 22 #[.val (.long (own_n1_21 q)), .second] []))
  refine own_go (fun _ => XS.lloadN X0.here hx rfl (hb hby d1_22) rfl) ?_
  show own_G p e below s _ _ _ (s₁.setTop (mkF m 23 #[.val (.long (own_n1_21 q)), .second] [(.long (own_n1_21 q))]))
  refine own_go (fun _ => XS.lloadN X0.here hx rfl (hb hby d1_23) rfl) ?_
  show own_G p e below s _ _ _ (s₁.setTop (mkF m 24 #[.val (.long (own_n1_21 q)), .second] [(.long (own_n1_21 q)), (.long (own_n1_21 q))]))
  refine own_go (fun _ => XS.bipush X0.here hx rfl (hb hby d1_24)) ?_
  show own_G p e below s _ _ _ (s₁.setTop (mkF m 26 #[.val (.long (own_n1_21 q)), .second] [(.int (31 : Int32)), (.long (own_n1_21 q)), (.long (own_n1_21 q))]))
  refine own_go (fun _ => XS.lushr X0.here hx rfl (hb hby d1_26) rfl) ?_
  show own_G p e below s _ _ _ (s₁.setTop (mkF m 27 #[.val (.long (own_n1_21 q)), .second] [(.long (own_usL (own_n1_21 q) (31 : Int32))), (.long (own_n1_21 q))]))
  refine own_go (fun _ => XS.lxor X0.here hx rfl (hb hby d1_27) rfl) ?_
  show own_G p e below s _ _ _ (s₁.setTop (mkF m 28 #[.val (.long (own_n1_21 q)), .second] [(.long ((own_n1_21 q) ^^^ (own_usL (own_n1_21 q) (31 : Int32))))]))
  exact own_retJ X0 hx hlk Bd.returns (hb hby d1_28) (by decide) (by decide) ⟨rfl, rfl, e0⟩
theorem d3_0 : decode method_2_code 0 = .ok (.lload_n 0, 1) := by decide +kernel
theorem d3_1 : decode method_2_code 1 = .ok (.lstore_n 2, 1) := by decide +kernel
theorem d3_2 : decode method_2_code 2 = .ok (.lload_n 2, 1) := by decide +kernel
theorem d3_3 : decode method_2_code 3 = .ok (.ldc2_w 7, 3) := by decide +kernel
theorem d3_6 : decode method_2_code 6 = .ok (.lload_n 0, 1) := by decide +kernel
theorem d3_7 : decode method_2_code 7 = .ok (.lload_n 2, 1) := by decide +kernel
theorem d3_8 : decode method_2_code 8 = .ok (.lmul, 1) := by decide +kernel
theorem d3_9 : decode method_2_code 9 = .ok (.lsub, 1) := by decide +kernel
theorem d3_10 : decode method_2_code 10 = .ok (.lmul, 1) := by decide +kernel
theorem d3_11 : decode method_2_code 11 = .ok (.lstore_n 2, 1) := by decide +kernel
theorem d3_12 : decode method_2_code 12 = .ok (.lload_n 2, 1) := by decide +kernel
theorem d3_13 : decode method_2_code 13 = .ok (.ldc2_w 7, 3) := by decide +kernel
theorem d3_16 : decode method_2_code 16 = .ok (.lload_n 0, 1) := by decide +kernel
theorem d3_17 : decode method_2_code 17 = .ok (.lload_n 2, 1) := by decide +kernel
theorem d3_18 : decode method_2_code 18 = .ok (.lmul, 1) := by decide +kernel
theorem d3_19 : decode method_2_code 19 = .ok (.lsub, 1) := by decide +kernel
theorem d3_20 : decode method_2_code 20 = .ok (.lmul, 1) := by decide +kernel
theorem d3_21 : decode method_2_code 21 = .ok (.lstore_n 2, 1) := by decide +kernel
theorem d3_22 : decode method_2_code 22 = .ok (.lload_n 2, 1) := by decide +kernel
theorem d3_23 : decode method_2_code 23 = .ok (.ldc2_w 7, 3) := by decide +kernel
theorem d3_26 : decode method_2_code 26 = .ok (.lload_n 0, 1) := by decide +kernel
theorem d3_27 : decode method_2_code 27 = .ok (.lload_n 2, 1) := by decide +kernel
theorem d3_28 : decode method_2_code 28 = .ok (.lmul, 1) := by decide +kernel
theorem d3_29 : decode method_2_code 29 = .ok (.lsub, 1) := by decide +kernel
theorem d3_30 : decode method_2_code 30 = .ok (.lmul, 1) := by decide +kernel
theorem d3_31 : decode method_2_code 31 = .ok (.lstore_n 2, 1) := by decide +kernel
theorem d3_32 : decode method_2_code 32 = .ok (.lload_n 2, 1) := by decide +kernel
theorem d3_33 : decode method_2_code 33 = .ok (.ldc2_w 7, 3) := by decide +kernel
theorem d3_36 : decode method_2_code 36 = .ok (.lload_n 0, 1) := by decide +kernel
theorem d3_37 : decode method_2_code 37 = .ok (.lload_n 2, 1) := by decide +kernel
theorem d3_38 : decode method_2_code 38 = .ok (.lmul, 1) := by decide +kernel
theorem d3_39 : decode method_2_code 39 = .ok (.lsub, 1) := by decide +kernel
theorem d3_40 : decode method_2_code 40 = .ok (.lmul, 1) := by decide +kernel
theorem d3_41 : decode method_2_code 41 = .ok (.lstore_n 2, 1) := by decide +kernel
theorem d3_42 : decode method_2_code 42 = .ok (.lload_n 2, 1) := by decide +kernel
theorem d3_43 : decode method_2_code 43 = .ok (.ldc2_w 7, 3) := by decide +kernel
theorem d3_46 : decode method_2_code 46 = .ok (.lload_n 0, 1) := by decide +kernel
theorem d3_47 : decode method_2_code 47 = .ok (.lload_n 2, 1) := by decide +kernel
theorem d3_48 : decode method_2_code 48 = .ok (.lmul, 1) := by decide +kernel
theorem d3_49 : decode method_2_code 49 = .ok (.lsub, 1) := by decide +kernel
theorem d3_50 : decode method_2_code 50 = .ok (.lmul, 1) := by decide +kernel
theorem d3_51 : decode method_2_code 51 = .ok (.lstore_n 2, 1) := by decide +kernel
theorem d3_52 : decode method_2_code 52 = .ok (.lload_n 2, 1) := by decide +kernel
theorem d3_53 : decode method_2_code 53 = .ok (.lreturn, 1) := by decide +kernel
def own_n3_11 (q : Int64) : Int64 := (q * ((2 : Int64) - (q * q)))
def own_n3_21 (q : Int64) : Int64 := ((own_n3_11 q) * ((2 : Int64) - (q * (own_n3_11 q))))
def own_n3_31 (q : Int64) : Int64 := ((own_n3_21 q) * ((2 : Int64) - (q * (own_n3_21 q))))
def own_n3_41 (q : Int64) : Int64 := ((own_n3_31 q) * ((2 : Int64) - (q * (own_n3_31 q))))
def own_n3_51 (q : Int64) : Int64 := ((own_n3_41 q) * ((2 : Int64) - (q * (own_n3_41 q))))
def own_v3_0 (q : Int64) : Int64 := (own_n3_51 q)
theorem pn_3 : plainName "com/example/firmground/firmground/core/SplitMix64MixPinLaw" = true := by first | (simp [plainName, overriddenIn]; done) | decide +kernel
theorem ef_3 (m : MethodId) (q : Int64) : entryFrame m #[(.long q)] 4 = mkF m 0 #[.val (.long q), .second, .unset, .unset] [] := by first | (simp [entryFrame, mkF, argsToLocals, Value.category]; done) | rfl
set_option maxRecDepth 65536 in
set_option maxHeartbeats 40000000 in
theorem rm3 (l : Launch) (Z : State) (a0 : Array Value) (hw : ∀ d ∈ tables_1, d.before a0 Z = true) (ws : List Jvm.Cond) (q : Int64) (h0 : Heap)  :
    MetFree l (⟨"com/example/firmground/firmground/core/SplitMix64MixPinLaw", "inverseOdd", "(J)J"⟩ : MethodName) (head1 (Jvm.Cond.code (⟨"com/example/firmground/firmground/core/SplitMix64MixPinLaw", "inverseOdd", "(J)J"⟩ : MethodName) method_2_code 4 (some .long) :: ws) ({ frames := 0, cells := 0, slots := 0, locals := 0 } : Room)) (fun a U => a = #[(.long q)] ∧ Z.Warmed39 U.vm ∧ U.heap = h0) (fun _ _ _ _ _ => True) (fun _ U o U' => ∃ v L, o = .returned v ∧ own_Q (some (.long (own_v3_0 q))) h0 v U'.heap L ∧ FrameEnd U o U' L ({ frames := 0, cells := 0, slots := 0, locals := 0 } : Room).cells ({ frames := 0, cells := 0, slots := 0, locals := 0 } : Room).slots) := by
  refine MetFree.of_bodySF (plainFor_of_name pn_3) hisR ?_
  intro p e s m args below meth c s₁ Bd hml0 hP hK
  obtain ⟨rfl, hZ, hh⟩ := hP
  have hx := Bd.exec
  have hby := Bd.bytes
  have hml : c.maxLocals = 4 := hml0
  have hlk : meth.locks = false := Bd.notSynchronized
  have hown : s.vm.findClass "com/example/firmground/firmground/core/SplitMix64MixPinLaw" = some m.cls := findClass_of_methodNamed Bd.named
  have X0 : Stand p l e ({ frames := 0, cells := 0, slots := 0, locals := 0 } : Room) s m #[(.long q)] below meth c s₁ [] 0 0 := Stand.of_body Bd
  have e0 : s₁.heap = h0 := by rw [← hh, Bd.state]; rfl
  refine own_G0 (own_go (fun _ k => castTop (ef_3 m q) k) ?_)
  show own_G p e below s (own_Q (some (.long (own_n3_51 q))) h0) ({ frames := 0, cells := 0, slots := 0, locals := 0 } : Room).cells ({ frames := 0, cells := 0, slots := 0, locals := 0 } : Room).slots (s₁.setTop (mkF m 0 #[.val (.long q), .second, .unset, .unset] []))
  refine own_go (fun _ => XS.lloadN X0.here hx rfl (hb hby d3_0) rfl) ?_
  show own_G p e below s _ _ _ (s₁.setTop (mkF m 1 #[.val (.long q), .second, .unset, .unset] [(.long q)]))
  refine own_go (fun _ => XS.lstoreN X0.here hx rfl (hb hby d3_1) rfl (l' := #[.val (.long q), .second, .val (.long q), .second]) rfl) ?_
  show own_G p e below s _ _ _ (s₁.setTop (mkF m 2 #[.val (.long q), .second, .val (.long q), .second] []))
  refine own_go (fun _ => XS.lloadN X0.here hx rfl (hb hby d3_2) rfl) ?_
  show own_G p e below s _ _ _ (s₁.setTop (mkF m 3 #[.val (.long q), .second, .val (.long q), .second] [(.long q)]))
  refine own_go (fun _ => X0.ldc2Long hx hown (mvT hZ (hw _ (List.mem_of_getElem? (i := 14) rfl))) (g := (mkF m 3 #[.val (.long q), .second, .val (.long q), .second] [(.long q)])) rfl (hb hby d3_3) _) ?_
  show own_G p e below s _ _ _ (s₁.setTop (mkF m 6 #[.val (.long q), .second, .val (.long q), .second] [(.long (2 : Int64)), (.long q)]))
  refine own_go (fun _ => XS.lloadN X0.here hx rfl (hb hby d3_6) rfl) ?_
  show own_G p e below s _ _ _ (s₁.setTop (mkF m 7 #[.val (.long q), .second, .val (.long q), .second] [(.long q), (.long (2 : Int64)), (.long q)]))
  refine own_go (fun _ => XS.lloadN X0.here hx rfl (hb hby d3_7) rfl) ?_
  show own_G p e below s _ _ _ (s₁.setTop (mkF m 8 #[.val (.long q), .second, .val (.long q), .second] [(.long q), (.long q), (.long (2 : Int64)), (.long q)]))
  refine own_go (fun _ => XS.lmul X0.here hx rfl (hb hby d3_8) rfl) ?_
  show own_G p e below s _ _ _ (s₁.setTop (mkF m 9 #[.val (.long q), .second, .val (.long q), .second] [(.long (q * q)), (.long (2 : Int64)), (.long q)]))
  refine own_go (fun _ => XS.lsub X0.here hx rfl (hb hby d3_9) rfl) ?_
  show own_G p e below s _ _ _ (s₁.setTop (mkF m 10 #[.val (.long q), .second, .val (.long q), .second] [(.long ((2 : Int64) - (q * q))), (.long q)]))
  refine own_go (fun _ => XS.lmul X0.here hx rfl (hb hby d3_10) rfl) ?_
  show own_G p e below s _ _ _ (s₁.setTop (mkF m 11 #[.val (.long q), .second, .val (.long q), .second] [(.long (q * ((2 : Int64) - (q * q))))]))
  refine own_go (fun _ => XS.lstoreN X0.here hx rfl (hb hby d3_11) rfl (l' := #[.val (.long q), .second, .val (.long (own_n3_11 q)), .second]) rfl) ?_
  show own_G p e below s _ _ _ (s₁.setTop (mkF m 12 #[.val (.long q), .second, .val (.long (own_n3_11 q)), .second] []))
  refine own_go (fun _ => XS.lloadN X0.here hx rfl (hb hby d3_12) rfl) ?_
  show own_G p e below s _ _ _ (s₁.setTop (mkF m 13 #[.val (.long q), .second, .val (.long (own_n3_11 q)), .second] [(.long (own_n3_11 q))]))
  refine own_go (fun _ => X0.ldc2Long hx hown (mvT hZ (hw _ (List.mem_of_getElem? (i := 14) rfl))) (g := (mkF m 13 #[.val (.long q), .second, .val (.long (own_n3_11 q)), .second] [(.long (own_n3_11 q))])) rfl (hb hby d3_13) _) ?_
  show own_G p e below s _ _ _ (s₁.setTop (mkF m 16 #[.val (.long q), .second, .val (.long (own_n3_11 q)), .second] [(.long (2 : Int64)), (.long (own_n3_11 q))]))
  refine own_go (fun _ => XS.lloadN X0.here hx rfl (hb hby d3_16) rfl) ?_
  show own_G p e below s _ _ _ (s₁.setTop (mkF m 17 #[.val (.long q), .second, .val (.long (own_n3_11 q)), .second] [(.long q), (.long (2 : Int64)), (.long (own_n3_11 q))]))
  refine own_go (fun _ => XS.lloadN X0.here hx rfl (hb hby d3_17) rfl) ?_
  show own_G p e below s _ _ _ (s₁.setTop (mkF m 18 #[.val (.long q), .second, .val (.long (own_n3_11 q)), .second] [(.long (own_n3_11 q)), (.long q), (.long (2 : Int64)), (.long (own_n3_11 q))]))
  refine own_go (fun _ => XS.lmul X0.here hx rfl (hb hby d3_18) rfl) ?_
  show own_G p e below s _ _ _ (s₁.setTop (mkF m 19 #[.val (.long q), .second, .val (.long (own_n3_11 q)), .second] [(.long (q * (own_n3_11 q))), (.long (2 : Int64)), (.long (own_n3_11 q))]))
  refine own_go (fun _ => XS.lsub X0.here hx rfl (hb hby d3_19) rfl) ?_
  show own_G p e below s _ _ _ (s₁.setTop (mkF m 20 #[.val (.long q), .second, .val (.long (own_n3_11 q)), .second] [(.long ((2 : Int64) - (q * (own_n3_11 q)))), (.long (own_n3_11 q))]))
  refine own_go (fun _ => XS.lmul X0.here hx rfl (hb hby d3_20) rfl) ?_
  show own_G p e below s _ _ _ (s₁.setTop (mkF m 21 #[.val (.long q), .second, .val (.long (own_n3_11 q)), .second] [(.long ((own_n3_11 q) * ((2 : Int64) - (q * (own_n3_11 q)))))]))
  refine own_go (fun _ => XS.lstoreN X0.here hx rfl (hb hby d3_21) rfl (l' := #[.val (.long q), .second, .val (.long (own_n3_21 q)), .second]) rfl) ?_
  show own_G p e below s _ _ _ (s₁.setTop (mkF m 22 #[.val (.long q), .second, .val (.long (own_n3_21 q)), .second] []))
  refine own_go (fun _ => XS.lloadN X0.here hx rfl (hb hby d3_22) rfl) ?_
  show own_G p e below s _ _ _ (s₁.setTop (mkF m 23 #[.val (.long q), .second, .val (.long (own_n3_21 q)), .second] [(.long (own_n3_21 q))]))
  refine own_go (fun _ => X0.ldc2Long hx hown (mvT hZ (hw _ (List.mem_of_getElem? (i := 14) rfl))) (g := (mkF m 23 #[.val (.long q), .second, .val (.long (own_n3_21 q)), .second] [(.long (own_n3_21 q))])) rfl (hb hby d3_23) _) ?_
  show own_G p e below s _ _ _ (s₁.setTop (mkF m 26 #[.val (.long q), .second, .val (.long (own_n3_21 q)), .second] [(.long (2 : Int64)), (.long (own_n3_21 q))]))
  refine own_go (fun _ => XS.lloadN X0.here hx rfl (hb hby d3_26) rfl) ?_
  show own_G p e below s _ _ _ (s₁.setTop (mkF m 27 #[.val (.long q), .second, .val (.long (own_n3_21 q)), .second] [(.long q), (.long (2 : Int64)), (.long (own_n3_21 q))]))
  refine own_go (fun _ => XS.lloadN X0.here hx rfl (hb hby d3_27) rfl) ?_
  show own_G p e below s _ _ _ (s₁.setTop (mkF m 28 #[.val (.long q), .second, .val (.long (own_n3_21 q)), .second] [(.long (own_n3_21 q)), (.long q), (.long (2 : Int64)), (.long (own_n3_21 q))]))
  refine own_go (fun _ => XS.lmul X0.here hx rfl (hb hby d3_28) rfl) ?_
  show own_G p e below s _ _ _ (s₁.setTop (mkF m 29 #[.val (.long q), .second, .val (.long (own_n3_21 q)), .second] [(.long (q * (own_n3_21 q))), (.long (2 : Int64)), (.long (own_n3_21 q))]))
  refine own_go (fun _ => XS.lsub X0.here hx rfl (hb hby d3_29) rfl) ?_
  show own_G p e below s _ _ _ (s₁.setTop (mkF m 30 #[.val (.long q), .second, .val (.long (own_n3_21 q)), .second] [(.long ((2 : Int64) - (q * (own_n3_21 q)))), (.long (own_n3_21 q))]))
  refine own_go (fun _ => XS.lmul X0.here hx rfl (hb hby d3_30) rfl) ?_
  show own_G p e below s _ _ _ (s₁.setTop (mkF m 31 #[.val (.long q), .second, .val (.long (own_n3_21 q)), .second] [(.long ((own_n3_21 q) * ((2 : Int64) - (q * (own_n3_21 q)))))]))
  refine own_go (fun _ => XS.lstoreN X0.here hx rfl (hb hby d3_31) rfl (l' := #[.val (.long q), .second, .val (.long (own_n3_31 q)), .second]) rfl) ?_
  show own_G p e below s _ _ _ (s₁.setTop (mkF m 32 #[.val (.long q), .second, .val (.long (own_n3_31 q)), .second] []))
  refine own_go (fun _ => XS.lloadN X0.here hx rfl (hb hby d3_32) rfl) ?_
  show own_G p e below s _ _ _ (s₁.setTop (mkF m 33 #[.val (.long q), .second, .val (.long (own_n3_31 q)), .second] [(.long (own_n3_31 q))]))
  refine own_go (fun _ => X0.ldc2Long hx hown (mvT hZ (hw _ (List.mem_of_getElem? (i := 14) rfl))) (g := (mkF m 33 #[.val (.long q), .second, .val (.long (own_n3_31 q)), .second] [(.long (own_n3_31 q))])) rfl (hb hby d3_33) _) ?_
  show own_G p e below s _ _ _ (s₁.setTop (mkF m 36 #[.val (.long q), .second, .val (.long (own_n3_31 q)), .second] [(.long (2 : Int64)), (.long (own_n3_31 q))]))
  refine own_go (fun _ => XS.lloadN X0.here hx rfl (hb hby d3_36) rfl) ?_
  show own_G p e below s _ _ _ (s₁.setTop (mkF m 37 #[.val (.long q), .second, .val (.long (own_n3_31 q)), .second] [(.long q), (.long (2 : Int64)), (.long (own_n3_31 q))]))
  refine own_go (fun _ => XS.lloadN X0.here hx rfl (hb hby d3_37) rfl) ?_
  show own_G p e below s _ _ _ (s₁.setTop (mkF m 38 #[.val (.long q), .second, .val (.long (own_n3_31 q)), .second] [(.long (own_n3_31 q)), (.long q), (.long (2 : Int64)), (.long (own_n3_31 q))]))
  refine own_go (fun _ => XS.lmul X0.here hx rfl (hb hby d3_38) rfl) ?_
  show own_G p e below s _ _ _ (s₁.setTop (mkF m 39 #[.val (.long q), .second, .val (.long (own_n3_31 q)), .second] [(.long (q * (own_n3_31 q))), (.long (2 : Int64)), (.long (own_n3_31 q))]))
  refine own_go (fun _ => XS.lsub X0.here hx rfl (hb hby d3_39) rfl) ?_
  show own_G p e below s _ _ _ (s₁.setTop (mkF m 40 #[.val (.long q), .second, .val (.long (own_n3_31 q)), .second] [(.long ((2 : Int64) - (q * (own_n3_31 q)))), (.long (own_n3_31 q))]))
  refine own_go (fun _ => XS.lmul X0.here hx rfl (hb hby d3_40) rfl) ?_
  show own_G p e below s _ _ _ (s₁.setTop (mkF m 41 #[.val (.long q), .second, .val (.long (own_n3_31 q)), .second] [(.long ((own_n3_31 q) * ((2 : Int64) - (q * (own_n3_31 q)))))]))
  refine own_go (fun _ => XS.lstoreN X0.here hx rfl (hb hby d3_41) rfl (l' := #[.val (.long q), .second, .val (.long (own_n3_41 q)), .second]) rfl) ?_
  show own_G p e below s _ _ _ (s₁.setTop (mkF m 42 #[.val (.long q), .second, .val (.long (own_n3_41 q)), .second] []))
  refine own_go (fun _ => XS.lloadN X0.here hx rfl (hb hby d3_42) rfl) ?_
  show own_G p e below s _ _ _ (s₁.setTop (mkF m 43 #[.val (.long q), .second, .val (.long (own_n3_41 q)), .second] [(.long (own_n3_41 q))]))
  refine own_go (fun _ => X0.ldc2Long hx hown (mvT hZ (hw _ (List.mem_of_getElem? (i := 14) rfl))) (g := (mkF m 43 #[.val (.long q), .second, .val (.long (own_n3_41 q)), .second] [(.long (own_n3_41 q))])) rfl (hb hby d3_43) _) ?_
  show own_G p e below s _ _ _ (s₁.setTop (mkF m 46 #[.val (.long q), .second, .val (.long (own_n3_41 q)), .second] [(.long (2 : Int64)), (.long (own_n3_41 q))]))
  refine own_go (fun _ => XS.lloadN X0.here hx rfl (hb hby d3_46) rfl) ?_
  show own_G p e below s _ _ _ (s₁.setTop (mkF m 47 #[.val (.long q), .second, .val (.long (own_n3_41 q)), .second] [(.long q), (.long (2 : Int64)), (.long (own_n3_41 q))]))
  refine own_go (fun _ => XS.lloadN X0.here hx rfl (hb hby d3_47) rfl) ?_
  show own_G p e below s _ _ _ (s₁.setTop (mkF m 48 #[.val (.long q), .second, .val (.long (own_n3_41 q)), .second] [(.long (own_n3_41 q)), (.long q), (.long (2 : Int64)), (.long (own_n3_41 q))]))
  refine own_go (fun _ => XS.lmul X0.here hx rfl (hb hby d3_48) rfl) ?_
  show own_G p e below s _ _ _ (s₁.setTop (mkF m 49 #[.val (.long q), .second, .val (.long (own_n3_41 q)), .second] [(.long (q * (own_n3_41 q))), (.long (2 : Int64)), (.long (own_n3_41 q))]))
  refine own_go (fun _ => XS.lsub X0.here hx rfl (hb hby d3_49) rfl) ?_
  show own_G p e below s _ _ _ (s₁.setTop (mkF m 50 #[.val (.long q), .second, .val (.long (own_n3_41 q)), .second] [(.long ((2 : Int64) - (q * (own_n3_41 q)))), (.long (own_n3_41 q))]))
  refine own_go (fun _ => XS.lmul X0.here hx rfl (hb hby d3_50) rfl) ?_
  show own_G p e below s _ _ _ (s₁.setTop (mkF m 51 #[.val (.long q), .second, .val (.long (own_n3_41 q)), .second] [(.long ((own_n3_41 q) * ((2 : Int64) - (q * (own_n3_41 q)))))]))
  refine own_go (fun _ => XS.lstoreN X0.here hx rfl (hb hby d3_51) rfl (l' := #[.val (.long q), .second, .val (.long (own_n3_51 q)), .second]) rfl) ?_
  show own_G p e below s _ _ _ (s₁.setTop (mkF m 52 #[.val (.long q), .second, .val (.long (own_n3_51 q)), .second] []))
  refine own_go (fun _ => XS.lloadN X0.here hx rfl (hb hby d3_52) rfl) ?_
  show own_G p e below s _ _ _ (s₁.setTop (mkF m 53 #[.val (.long q), .second, .val (.long (own_n3_51 q)), .second] [(.long (own_n3_51 q))]))
  exact own_retJ X0 hx hlk Bd.returns (hb hby d3_53) (by decide) (by decide) ⟨rfl, rfl, e0⟩
theorem d2_0 : decode method_3_code 0 = .ok (.lload_n 0, 1) := by decide +kernel
theorem d2_1 : decode method_3_code 1 = .ok (.lload_n 0, 1) := by decide +kernel
theorem d2_2 : decode method_3_code 2 = .ok (.bipush 31, 2) := by decide +kernel
theorem d2_4 : decode method_3_code 4 = .ok (.lushr, 1) := by decide +kernel
theorem d2_5 : decode method_3_code 5 = .ok (.lxor, 1) := by decide +kernel
theorem d2_6 : decode method_3_code 6 = .ok (.lload_n 0, 1) := by decide +kernel
theorem d2_7 : decode method_3_code 7 = .ok (.bipush 62, 2) := by decide +kernel
theorem d2_9 : decode method_3_code 9 = .ok (.lushr, 1) := by decide +kernel
theorem d2_10 : decode method_3_code 10 = .ok (.lxor, 1) := by decide +kernel
theorem d2_11 : decode method_3_code 11 = .ok (.lstore_n 2, 1) := by decide +kernel
theorem d2_12 : decode method_3_code 12 = .ok (.lload_n 2, 1) := by decide +kernel
theorem d2_13 : decode method_3_code 13 = .ok (.ldc2_w 9, 3) := by decide +kernel
theorem d2_16 : decode method_3_code 16 = .ok (.invokestatic 11, 3) := by decide +kernel
theorem d2_19 : decode method_3_code 19 = .ok (.lmul, 1) := by decide +kernel
theorem d2_20 : decode method_3_code 20 = .ok (.lstore 4, 2) := by decide +kernel
theorem d2_22 : decode method_3_code 22 = .ok (.lload 4, 2) := by decide +kernel
theorem d2_24 : decode method_3_code 24 = .ok (.lload 4, 2) := by decide +kernel
theorem d2_26 : decode method_3_code 26 = .ok (.bipush 27, 2) := by decide +kernel
theorem d2_28 : decode method_3_code 28 = .ok (.lushr, 1) := by decide +kernel
theorem d2_29 : decode method_3_code 29 = .ok (.lxor, 1) := by decide +kernel
theorem d2_30 : decode method_3_code 30 = .ok (.lload 4, 2) := by decide +kernel
theorem d2_32 : decode method_3_code 32 = .ok (.bipush 54, 2) := by decide +kernel
theorem d2_34 : decode method_3_code 34 = .ok (.lushr, 1) := by decide +kernel
theorem d2_35 : decode method_3_code 35 = .ok (.lxor, 1) := by decide +kernel
theorem d2_36 : decode method_3_code 36 = .ok (.lstore 6, 2) := by decide +kernel
theorem d2_38 : decode method_3_code 38 = .ok (.lload 6, 2) := by decide +kernel
theorem d2_40 : decode method_3_code 40 = .ok (.ldc2_w 17, 3) := by decide +kernel
theorem d2_43 : decode method_3_code 43 = .ok (.invokestatic 11, 3) := by decide +kernel
theorem d2_46 : decode method_3_code 46 = .ok (.lmul, 1) := by decide +kernel
theorem d2_47 : decode method_3_code 47 = .ok (.lstore 8, 2) := by decide +kernel
theorem d2_49 : decode method_3_code 49 = .ok (.lload 8, 2) := by decide +kernel
theorem d2_51 : decode method_3_code 51 = .ok (.lload 8, 2) := by decide +kernel
theorem d2_53 : decode method_3_code 53 = .ok (.bipush 30, 2) := by decide +kernel
theorem d2_55 : decode method_3_code 55 = .ok (.lushr, 1) := by decide +kernel
theorem d2_56 : decode method_3_code 56 = .ok (.lxor, 1) := by decide +kernel
theorem d2_57 : decode method_3_code 57 = .ok (.lload 8, 2) := by decide +kernel
theorem d2_59 : decode method_3_code 59 = .ok (.bipush 60, 2) := by decide +kernel
theorem d2_61 : decode method_3_code 61 = .ok (.lushr, 1) := by decide +kernel
theorem d2_62 : decode method_3_code 62 = .ok (.lxor, 1) := by decide +kernel
theorem d2_63 : decode method_3_code 63 = .ok (.lreturn, 1) := by decide +kernel
def own_n2_11 (q : Int64) : Int64 := ((q ^^^ (own_usL q (31 : Int32))) ^^^ (own_usL q (62 : Int32)))
def own_n2_20 (q : Int64) : Int64 := ((own_n2_11 q) * (own_v3_0 (-7723592293110705685 : Int64)))
def own_n2_36 (q : Int64) : Int64 := (((own_n2_20 q) ^^^ (own_usL (own_n2_20 q) (27 : Int32))) ^^^ (own_usL (own_n2_20 q) (54 : Int32)))
def own_n2_47 (q : Int64) : Int64 := ((own_n2_36 q) * (own_v3_0 (-4658895280553007687 : Int64)))
def own_v2_0 (q : Int64) : Int64 := (((own_n2_47 q) ^^^ (own_usL (own_n2_47 q) (30 : Int32))) ^^^ (own_usL (own_n2_47 q) (60 : Int32)))
theorem pn_2 : plainName "com/example/firmground/firmground/core/SplitMix64MixPinLaw" = true := by first | (simp [plainName, overriddenIn]; done) | decide +kernel
theorem ef_2 (m : MethodId) (q : Int64) : entryFrame m #[(.long q)] 10 = mkF m 0 #[.val (.long q), .second, .unset, .unset, .unset, .unset, .unset, .unset, .unset, .unset] [] := by first | (simp [entryFrame, mkF, argsToLocals, Value.category]; done) | rfl
set_option maxRecDepth 65536 in
set_option maxHeartbeats 40000000 in
theorem rm2 (l : Launch) (Z : State) (a0 : Array Value) (hw : ∀ d ∈ tables_1, d.before a0 Z = true) (ws : List Jvm.Cond) (q : Int64) (h0 : Heap)  :
    MetFree l (⟨"com/example/firmground/firmground/core/SplitMix64MixPinLaw", "unmix", "(J)J"⟩ : MethodName) (head1 (Jvm.Cond.code (⟨"com/example/firmground/firmground/core/SplitMix64MixPinLaw", "unmix", "(J)J"⟩ : MethodName) method_3_code 10 (some .long) :: ws) ({ frames := 1, cells := 0, slots := 0, locals := 17 } : Room)) (fun a U => a = #[(.long q)] ∧ Z.Warmed39 U.vm ∧ U.heap = h0) (fun _ _ _ _ _ => True) (fun _ U o U' => ∃ v L, o = .returned v ∧ own_Q (some (.long (own_v2_0 q))) h0 v U'.heap L ∧ FrameEnd U o U' L ({ frames := 1, cells := 0, slots := 0, locals := 17 } : Room).cells ({ frames := 1, cells := 0, slots := 0, locals := 17 } : Room).slots) := by
  refine MetFree.of_bodySF (plainFor_of_name pn_2) hisR ?_
  intro p e s m args below meth c s₁ Bd hml0 hP hK
  obtain ⟨rfl, hZ, hh⟩ := hP
  have hx := Bd.exec
  have hby := Bd.bytes
  have hml : c.maxLocals = 10 := hml0
  have hlk : meth.locks = false := Bd.notSynchronized
  have hown : s.vm.findClass "com/example/firmground/firmground/core/SplitMix64MixPinLaw" = some m.cls := findClass_of_methodNamed Bd.named
  have X0 : Stand p l e ({ frames := 1, cells := 0, slots := 0, locals := 17 } : Room) s m #[(.long q)] below meth c s₁ [] 0 0 := Stand.of_body Bd
  have e0 : s₁.heap = h0 := by rw [← hh, Bd.state]; rfl
  refine own_G0 (own_go (fun _ k => castTop (ef_2 m q) k) ?_)
  show own_G p e below s (own_Q (some (.long (((own_n2_47 q) ^^^ (own_usL (own_n2_47 q) (30 : Int32))) ^^^ (own_usL (own_n2_47 q) (60 : Int32))))) h0) ({ frames := 1, cells := 0, slots := 0, locals := 17 } : Room).cells ({ frames := 1, cells := 0, slots := 0, locals := 17 } : Room).slots (s₁.setTop (mkF m 0 #[.val (.long q), .second, .unset, .unset, .unset, .unset, .unset, .unset, .unset, .unset] []))
  refine own_go (fun _ => XS.lloadN X0.here hx rfl (hb hby d2_0) rfl) ?_
  show own_G p e below s _ _ _ (s₁.setTop (mkF m 1 #[.val (.long q), .second, .unset, .unset, .unset, .unset, .unset, .unset, .unset, .unset] [(.long q)]))
  refine own_go (fun _ => XS.lloadN X0.here hx rfl (hb hby d2_1) rfl) ?_
  show own_G p e below s _ _ _ (s₁.setTop (mkF m 2 #[.val (.long q), .second, .unset, .unset, .unset, .unset, .unset, .unset, .unset, .unset] [(.long q), (.long q)]))
  refine own_go (fun _ => XS.bipush X0.here hx rfl (hb hby d2_2)) ?_
  show own_G p e below s _ _ _ (s₁.setTop (mkF m 4 #[.val (.long q), .second, .unset, .unset, .unset, .unset, .unset, .unset, .unset, .unset] [(.int (31 : Int32)), (.long q), (.long q)]))
  refine own_go (fun _ => XS.lushr X0.here hx rfl (hb hby d2_4) rfl) ?_
  show own_G p e below s _ _ _ (s₁.setTop (mkF m 5 #[.val (.long q), .second, .unset, .unset, .unset, .unset, .unset, .unset, .unset, .unset] [(.long (own_usL q (31 : Int32))), (.long q)]))
  refine own_go (fun _ => XS.lxor X0.here hx rfl (hb hby d2_5) rfl) ?_
  show own_G p e below s _ _ _ (s₁.setTop (mkF m 6 #[.val (.long q), .second, .unset, .unset, .unset, .unset, .unset, .unset, .unset, .unset] [(.long (q ^^^ (own_usL q (31 : Int32))))]))
  refine own_go (fun _ => XS.lloadN X0.here hx rfl (hb hby d2_6) rfl) ?_
  show own_G p e below s _ _ _ (s₁.setTop (mkF m 7 #[.val (.long q), .second, .unset, .unset, .unset, .unset, .unset, .unset, .unset, .unset] [(.long q), (.long (q ^^^ (own_usL q (31 : Int32))))]))
  refine own_go (fun _ => XS.bipush X0.here hx rfl (hb hby d2_7)) ?_
  show own_G p e below s _ _ _ (s₁.setTop (mkF m 9 #[.val (.long q), .second, .unset, .unset, .unset, .unset, .unset, .unset, .unset, .unset] [(.int (62 : Int32)), (.long q), (.long (q ^^^ (own_usL q (31 : Int32))))]))
  refine own_go (fun _ => XS.lushr X0.here hx rfl (hb hby d2_9) rfl) ?_
  show own_G p e below s _ _ _ (s₁.setTop (mkF m 10 #[.val (.long q), .second, .unset, .unset, .unset, .unset, .unset, .unset, .unset, .unset] [(.long (own_usL q (62 : Int32))), (.long (q ^^^ (own_usL q (31 : Int32))))]))
  refine own_go (fun _ => XS.lxor X0.here hx rfl (hb hby d2_10) rfl) ?_
  show own_G p e below s _ _ _ (s₁.setTop (mkF m 11 #[.val (.long q), .second, .unset, .unset, .unset, .unset, .unset, .unset, .unset, .unset] [(.long ((q ^^^ (own_usL q (31 : Int32))) ^^^ (own_usL q (62 : Int32))))]))
  refine own_go (fun _ => XS.lstoreN X0.here hx rfl (hb hby d2_11) rfl (l' := #[.val (.long q), .second, .val (.long (own_n2_11 q)), .second, .unset, .unset, .unset, .unset, .unset, .unset]) rfl) ?_
  show own_G p e below s _ _ _ (s₁.setTop (mkF m 12 #[.val (.long q), .second, .val (.long (own_n2_11 q)), .second, .unset, .unset, .unset, .unset, .unset, .unset] []))
  refine own_go (fun _ => XS.lloadN X0.here hx rfl (hb hby d2_12) rfl) ?_
  show own_G p e below s _ _ _ (s₁.setTop (mkF m 13 #[.val (.long q), .second, .val (.long (own_n2_11 q)), .second, .unset, .unset, .unset, .unset, .unset, .unset] [(.long (own_n2_11 q))]))
  refine own_go (fun _ => X0.ldc2Long hx hown (mvT hZ (hw _ (List.mem_of_getElem? (i := 10) rfl))) (g := (mkF m 13 #[.val (.long q), .second, .val (.long (own_n2_11 q)), .second, .unset, .unset, .unset, .unset, .unset, .unset] [(.long (own_n2_11 q))])) rfl (hb hby d2_13) _) ?_
  show own_G p e below s _ _ _ (s₁.setTop (mkF m 16 #[.val (.long q), .second, .val (.long (own_n2_11 q)), .second, .unset, .unset, .unset, .unset, .unset, .unset] [(.long (-7723592293110705685 : Int64)), (.long (own_n2_11 q))]))
  obtain ⟨T1, X1, e1, st1⟩ := own_call X0 hx hZ hown (hw _ (List.mem_of_getElem? (i := 11) rfl)) (hw _ (List.mem_of_getElem? (i := 12) rfl)) (hw _ (List.mem_of_getElem? (i := 8) rfl)) (hw _ (List.mem_of_getElem? (i := 13) rfl)) (by decide) (rm3 l Z a0 hw [] (-7723592293110705685 : Int64) h0) rfl rfl e0 (W := 2) (by decide) (by decide) (by decide) (by decide) (g := (mkF m 16 #[.val (.long q), .second, .val (.long (own_n2_11 q)), .second, .unset, .unset, .unset, .unset, .unset, .unset] [(.long (-7723592293110705685 : Int64)), (.long (own_n2_11 q))])) rfl (by rw [hml]; rfl) (argsL := [(.long (-7723592293110705685 : Int64))]) (rest := [(.long (own_n2_11 q))]) (lenOf (by decide +kernel : parseMethodDescriptor "(J)J" = some ⟨[.long], some .long⟩) rfl) rfl rfl (by show 2 * 0 + _ ≤ _; exact Nat.le_of_eq rfl) (hb hby d2_16)
  refine own_go (fun _ => st1 _) ?_
  show own_G p e below s _ _ _ (T1.setTop (mkF m 19 #[.val (.long q), .second, .val (.long (own_n2_11 q)), .second, .unset, .unset, .unset, .unset, .unset, .unset] [(.long (own_v3_0 (-7723592293110705685 : Int64))), (.long (own_n2_11 q))]))
  refine own_go (fun _ => XS.lmul X1.here hx rfl (hb hby d2_19) rfl) ?_
  show own_G p e below s _ _ _ (T1.setTop (mkF m 20 #[.val (.long q), .second, .val (.long (own_n2_11 q)), .second, .unset, .unset, .unset, .unset, .unset, .unset] [(.long ((own_n2_11 q) * (own_v3_0 (-7723592293110705685 : Int64))))]))
  refine own_go (fun _ => XS.lstore X1.here hx rfl (hb hby d2_20) rfl (l' := #[.val (.long q), .second, .val (.long (own_n2_11 q)), .second, .val (.long (own_n2_20 q)), .second, .unset, .unset, .unset, .unset]) rfl) ?_
  show own_G p e below s _ _ _ (T1.setTop (mkF m 22 #[.val (.long q), .second, .val (.long (own_n2_11 q)), .second, .val (.long (own_n2_20 q)), .second, .unset, .unset, .unset, .unset] []))
  refine own_go (fun _ => XS.lload X1.here hx rfl (hb hby d2_22) rfl) ?_
  show own_G p e below s _ _ _ (T1.setTop (mkF m 24 #[.val (.long q), .second, .val (.long (own_n2_11 q)), .second, .val (.long (own_n2_20 q)), .second, .unset, .unset, .unset, .unset] [(.long (own_n2_20 q))]))
  refine own_go (fun _ => XS.lload X1.here hx rfl (hb hby d2_24) rfl) ?_
  show own_G p e below s _ _ _ (T1.setTop (mkF m 26 #[.val (.long q), .second, .val (.long (own_n2_11 q)), .second, .val (.long (own_n2_20 q)), .second, .unset, .unset, .unset, .unset] [(.long (own_n2_20 q)), (.long (own_n2_20 q))]))
  refine own_go (fun _ => XS.bipush X1.here hx rfl (hb hby d2_26)) ?_
  show own_G p e below s _ _ _ (T1.setTop (mkF m 28 #[.val (.long q), .second, .val (.long (own_n2_11 q)), .second, .val (.long (own_n2_20 q)), .second, .unset, .unset, .unset, .unset] [(.int (27 : Int32)), (.long (own_n2_20 q)), (.long (own_n2_20 q))]))
  refine own_go (fun _ => XS.lushr X1.here hx rfl (hb hby d2_28) rfl) ?_
  show own_G p e below s _ _ _ (T1.setTop (mkF m 29 #[.val (.long q), .second, .val (.long (own_n2_11 q)), .second, .val (.long (own_n2_20 q)), .second, .unset, .unset, .unset, .unset] [(.long (own_usL (own_n2_20 q) (27 : Int32))), (.long (own_n2_20 q))]))
  refine own_go (fun _ => XS.lxor X1.here hx rfl (hb hby d2_29) rfl) ?_
  show own_G p e below s _ _ _ (T1.setTop (mkF m 30 #[.val (.long q), .second, .val (.long (own_n2_11 q)), .second, .val (.long (own_n2_20 q)), .second, .unset, .unset, .unset, .unset] [(.long ((own_n2_20 q) ^^^ (own_usL (own_n2_20 q) (27 : Int32))))]))
  refine own_go (fun _ => XS.lload X1.here hx rfl (hb hby d2_30) rfl) ?_
  show own_G p e below s _ _ _ (T1.setTop (mkF m 32 #[.val (.long q), .second, .val (.long (own_n2_11 q)), .second, .val (.long (own_n2_20 q)), .second, .unset, .unset, .unset, .unset] [(.long (own_n2_20 q)), (.long ((own_n2_20 q) ^^^ (own_usL (own_n2_20 q) (27 : Int32))))]))
  refine own_go (fun _ => XS.bipush X1.here hx rfl (hb hby d2_32)) ?_
  show own_G p e below s _ _ _ (T1.setTop (mkF m 34 #[.val (.long q), .second, .val (.long (own_n2_11 q)), .second, .val (.long (own_n2_20 q)), .second, .unset, .unset, .unset, .unset] [(.int (54 : Int32)), (.long (own_n2_20 q)), (.long ((own_n2_20 q) ^^^ (own_usL (own_n2_20 q) (27 : Int32))))]))
  refine own_go (fun _ => XS.lushr X1.here hx rfl (hb hby d2_34) rfl) ?_
  show own_G p e below s _ _ _ (T1.setTop (mkF m 35 #[.val (.long q), .second, .val (.long (own_n2_11 q)), .second, .val (.long (own_n2_20 q)), .second, .unset, .unset, .unset, .unset] [(.long (own_usL (own_n2_20 q) (54 : Int32))), (.long ((own_n2_20 q) ^^^ (own_usL (own_n2_20 q) (27 : Int32))))]))
  refine own_go (fun _ => XS.lxor X1.here hx rfl (hb hby d2_35) rfl) ?_
  show own_G p e below s _ _ _ (T1.setTop (mkF m 36 #[.val (.long q), .second, .val (.long (own_n2_11 q)), .second, .val (.long (own_n2_20 q)), .second, .unset, .unset, .unset, .unset] [(.long (((own_n2_20 q) ^^^ (own_usL (own_n2_20 q) (27 : Int32))) ^^^ (own_usL (own_n2_20 q) (54 : Int32))))]))
  refine own_go (fun _ => XS.lstore X1.here hx rfl (hb hby d2_36) rfl (l' := #[.val (.long q), .second, .val (.long (own_n2_11 q)), .second, .val (.long (own_n2_20 q)), .second, .val (.long (own_n2_36 q)), .second, .unset, .unset]) rfl) ?_
  show own_G p e below s _ _ _ (T1.setTop (mkF m 38 #[.val (.long q), .second, .val (.long (own_n2_11 q)), .second, .val (.long (own_n2_20 q)), .second, .val (.long (own_n2_36 q)), .second, .unset, .unset] []))
  refine own_go (fun _ => XS.lload X1.here hx rfl (hb hby d2_38) rfl) ?_
  show own_G p e below s _ _ _ (T1.setTop (mkF m 40 #[.val (.long q), .second, .val (.long (own_n2_11 q)), .second, .val (.long (own_n2_20 q)), .second, .val (.long (own_n2_36 q)), .second, .unset, .unset] [(.long (own_n2_36 q))]))
  refine own_go (fun _ => X1.ldc2Long hx hown (mvT hZ (hw _ (List.mem_of_getElem? (i := 15) rfl))) (g := (mkF m 40 #[.val (.long q), .second, .val (.long (own_n2_11 q)), .second, .val (.long (own_n2_20 q)), .second, .val (.long (own_n2_36 q)), .second, .unset, .unset] [(.long (own_n2_36 q))])) rfl (hb hby d2_40) _) ?_
  show own_G p e below s _ _ _ (T1.setTop (mkF m 43 #[.val (.long q), .second, .val (.long (own_n2_11 q)), .second, .val (.long (own_n2_20 q)), .second, .val (.long (own_n2_36 q)), .second, .unset, .unset] [(.long (-4658895280553007687 : Int64)), (.long (own_n2_36 q))]))
  obtain ⟨T2, X2, e2, st2⟩ := own_call X1 hx hZ hown (hw _ (List.mem_of_getElem? (i := 11) rfl)) (hw _ (List.mem_of_getElem? (i := 12) rfl)) (hw _ (List.mem_of_getElem? (i := 8) rfl)) (hw _ (List.mem_of_getElem? (i := 13) rfl)) (by decide) (rm3 l Z a0 hw [] (-4658895280553007687 : Int64) h0) rfl rfl e1 (W := 2) (by decide) (by decide) (by decide) (by decide) (g := (mkF m 43 #[.val (.long q), .second, .val (.long (own_n2_11 q)), .second, .val (.long (own_n2_20 q)), .second, .val (.long (own_n2_36 q)), .second, .unset, .unset] [(.long (-4658895280553007687 : Int64)), (.long (own_n2_36 q))])) rfl (by rw [hml]; rfl) (argsL := [(.long (-4658895280553007687 : Int64))]) (rest := [(.long (own_n2_36 q))]) (lenOf (by decide +kernel : parseMethodDescriptor "(J)J" = some ⟨[.long], some .long⟩) rfl) rfl rfl (by show 2 * 0 + _ ≤ _; exact Nat.le_of_eq rfl) (hb hby d2_43)
  refine own_go (fun _ => st2 _) ?_
  show own_G p e below s _ _ _ (T2.setTop (mkF m 46 #[.val (.long q), .second, .val (.long (own_n2_11 q)), .second, .val (.long (own_n2_20 q)), .second, .val (.long (own_n2_36 q)), .second, .unset, .unset] [(.long (own_v3_0 (-4658895280553007687 : Int64))), (.long (own_n2_36 q))]))
  refine own_go (fun _ => XS.lmul X2.here hx rfl (hb hby d2_46) rfl) ?_
  show own_G p e below s _ _ _ (T2.setTop (mkF m 47 #[.val (.long q), .second, .val (.long (own_n2_11 q)), .second, .val (.long (own_n2_20 q)), .second, .val (.long (own_n2_36 q)), .second, .unset, .unset] [(.long ((own_n2_36 q) * (own_v3_0 (-4658895280553007687 : Int64))))]))
  refine own_go (fun _ => XS.lstore X2.here hx rfl (hb hby d2_47) rfl (l' := #[.val (.long q), .second, .val (.long (own_n2_11 q)), .second, .val (.long (own_n2_20 q)), .second, .val (.long (own_n2_36 q)), .second, .val (.long (own_n2_47 q)), .second]) rfl) ?_
  show own_G p e below s _ _ _ (T2.setTop (mkF m 49 #[.val (.long q), .second, .val (.long (own_n2_11 q)), .second, .val (.long (own_n2_20 q)), .second, .val (.long (own_n2_36 q)), .second, .val (.long (own_n2_47 q)), .second] []))
  refine own_go (fun _ => XS.lload X2.here hx rfl (hb hby d2_49) rfl) ?_
  show own_G p e below s _ _ _ (T2.setTop (mkF m 51 #[.val (.long q), .second, .val (.long (own_n2_11 q)), .second, .val (.long (own_n2_20 q)), .second, .val (.long (own_n2_36 q)), .second, .val (.long (own_n2_47 q)), .second] [(.long (own_n2_47 q))]))
  refine own_go (fun _ => XS.lload X2.here hx rfl (hb hby d2_51) rfl) ?_
  show own_G p e below s _ _ _ (T2.setTop (mkF m 53 #[.val (.long q), .second, .val (.long (own_n2_11 q)), .second, .val (.long (own_n2_20 q)), .second, .val (.long (own_n2_36 q)), .second, .val (.long (own_n2_47 q)), .second] [(.long (own_n2_47 q)), (.long (own_n2_47 q))]))
  refine own_go (fun _ => XS.bipush X2.here hx rfl (hb hby d2_53)) ?_
  show own_G p e below s _ _ _ (T2.setTop (mkF m 55 #[.val (.long q), .second, .val (.long (own_n2_11 q)), .second, .val (.long (own_n2_20 q)), .second, .val (.long (own_n2_36 q)), .second, .val (.long (own_n2_47 q)), .second] [(.int (30 : Int32)), (.long (own_n2_47 q)), (.long (own_n2_47 q))]))
  refine own_go (fun _ => XS.lushr X2.here hx rfl (hb hby d2_55) rfl) ?_
  show own_G p e below s _ _ _ (T2.setTop (mkF m 56 #[.val (.long q), .second, .val (.long (own_n2_11 q)), .second, .val (.long (own_n2_20 q)), .second, .val (.long (own_n2_36 q)), .second, .val (.long (own_n2_47 q)), .second] [(.long (own_usL (own_n2_47 q) (30 : Int32))), (.long (own_n2_47 q))]))
  refine own_go (fun _ => XS.lxor X2.here hx rfl (hb hby d2_56) rfl) ?_
  show own_G p e below s _ _ _ (T2.setTop (mkF m 57 #[.val (.long q), .second, .val (.long (own_n2_11 q)), .second, .val (.long (own_n2_20 q)), .second, .val (.long (own_n2_36 q)), .second, .val (.long (own_n2_47 q)), .second] [(.long ((own_n2_47 q) ^^^ (own_usL (own_n2_47 q) (30 : Int32))))]))
  refine own_go (fun _ => XS.lload X2.here hx rfl (hb hby d2_57) rfl) ?_
  show own_G p e below s _ _ _ (T2.setTop (mkF m 59 #[.val (.long q), .second, .val (.long (own_n2_11 q)), .second, .val (.long (own_n2_20 q)), .second, .val (.long (own_n2_36 q)), .second, .val (.long (own_n2_47 q)), .second] [(.long (own_n2_47 q)), (.long ((own_n2_47 q) ^^^ (own_usL (own_n2_47 q) (30 : Int32))))]))
  refine own_go (fun _ => XS.bipush X2.here hx rfl (hb hby d2_59)) ?_
  show own_G p e below s _ _ _ (T2.setTop (mkF m 61 #[.val (.long q), .second, .val (.long (own_n2_11 q)), .second, .val (.long (own_n2_20 q)), .second, .val (.long (own_n2_36 q)), .second, .val (.long (own_n2_47 q)), .second] [(.int (60 : Int32)), (.long (own_n2_47 q)), (.long ((own_n2_47 q) ^^^ (own_usL (own_n2_47 q) (30 : Int32))))]))
  refine own_go (fun _ => XS.lushr X2.here hx rfl (hb hby d2_61) rfl) ?_
  show own_G p e below s _ _ _ (T2.setTop (mkF m 62 #[.val (.long q), .second, .val (.long (own_n2_11 q)), .second, .val (.long (own_n2_20 q)), .second, .val (.long (own_n2_36 q)), .second, .val (.long (own_n2_47 q)), .second] [(.long (own_usL (own_n2_47 q) (60 : Int32))), (.long ((own_n2_47 q) ^^^ (own_usL (own_n2_47 q) (30 : Int32))))]))
  refine own_go (fun _ => XS.lxor X2.here hx rfl (hb hby d2_62) rfl) ?_
  show own_G p e below s _ _ _ (T2.setTop (mkF m 63 #[.val (.long q), .second, .val (.long (own_n2_11 q)), .second, .val (.long (own_n2_20 q)), .second, .val (.long (own_n2_36 q)), .second, .val (.long (own_n2_47 q)), .second] [(.long (((own_n2_47 q) ^^^ (own_usL (own_n2_47 q) (30 : Int32))) ^^^ (own_usL (own_n2_47 q) (60 : Int32))))]))
  exact own_retJ X2 hx hlk Bd.returns (hb hby d2_63) (by decide) (by decide) ⟨rfl, rfl, e2⟩
theorem own_xs (x : BitVec 64) (k : Nat) (hk : 64 ≤ 3 * k) : (x ^^^ (x >>> k)) ^^^ ((x ^^^ (x >>> k)) >>> k) ^^^ ((x ^^^ (x >>> k)) >>> (2 * k)) = x := by
  apply BitVec.eq_of_getLsbD_eq
  intro i hi
  simp only [BitVec.getLsbD_xor, BitVec.getLsbD_ushiftRight]
  rw [show k + (k + i) = 2 * k + i by omega, show k + (2 * k + i) = 3 * k + i by omega, BitVec.getLsbD_of_ge x (3 * k + i) (by omega)]
  cases x.getLsbD i <;> cases x.getLsbD (k + i) <;> cases x.getLsbD (2 * k + i) <;> rfl
theorem own_sh (x : Int64) (k : Int32) (n : Nat) (h : ((k &&& 0x3f).toInt64.toUInt64.toBitVec.toNat % 64) = n) : (own_usL x k).toBitVec = x.toBitVec >>> n := by
  subst h
  simp [own_usL, BitVec.ushiftRight_eq', UInt64.toBitVec_shiftRight]
theorem own_back (x : Int64) (a b : Int32) (k : Nat) (hk : 64 ≤ 3 * k) (ha : ((a &&& 0x3f).toInt64.toUInt64.toBitVec.toNat % 64) = k) (hb : ((b &&& 0x3f).toInt64.toUInt64.toBitVec.toNat % 64) = 2 * k) : (x ^^^ own_usL x a) ^^^ own_usL (x ^^^ own_usL x a) a ^^^ own_usL (x ^^^ own_usL x a) b = x := by
  apply Int64.toBitVec_inj.mp
  rw [Int64.toBitVec_xor, Int64.toBitVec_xor, own_sh _ a k ha, own_sh _ b (2 * k) hb, Int64.toBitVec_xor, own_sh _ a k ha]
  exact own_xs x.toBitVec k hk
theorem own_i1 : (-4658895280553007687 : Int64) * own_v3_0 (-4658895280553007687 : Int64) = 1 := by decide +kernel
theorem own_i2 : (-7723592293110705685 : Int64) * own_v3_0 (-7723592293110705685 : Int64) = 1 := by decide +kernel
theorem own_plain (z : Int64) : own_v2_0 (own_v1_0 z) = z := by
  have h1 : own_n2_11 (own_v1_0 z) = own_n1_21 z := own_back (own_n1_21 z) 31 62 31 (by decide) (by decide +kernel) (by decide +kernel)
  have h2 : own_n2_20 (own_v1_0 z) = (own_n1_10 z ^^^ own_usL (own_n1_10 z) 27) := by
    rw [own_n2_20, h1, own_n1_21, Int64.mul_assoc, own_i2, Int64.mul_one]
  have h3 : own_n2_36 (own_v1_0 z) = own_n1_10 z := by
    rw [own_n2_36, h2]
    exact own_back (own_n1_10 z) 27 54 27 (by decide) (by decide +kernel) (by decide +kernel)
  have h4 : own_n2_47 (own_v1_0 z) = (z ^^^ own_usL z 30) := by
    rw [own_n2_47, h3, own_n1_10, Int64.mul_assoc, own_i1, Int64.mul_one]
  rw [own_v2_0, h4]
  exact own_back z 30 60 30 (by decide) (by decide +kernel) (by decide +kernel)
def own_Q1 (n0 : Nat) (v : Option Value) (h : Heap) (L : List Loc) : Prop := v = some (.int (1 : Int32)) ∧ Fr n0 L
theorem pn_0 : plainName "com/example/firmground/firmground/core/SplitMix64MixPinLaw" = true := by first | (simp [plainName, overriddenIn]; done) | decide +kernel
theorem ef_0 (m : MethodId) (q1 : Int64) : entryFrame m #[(.long q1)] maxLocals = mkF m 0 #[.val (.long q1), .second] [] := by first | (simp [entryFrame, mkF, argsToLocals, Value.category, maxLocals]; done) | rfl
set_option maxRecDepth 65536 in
set_option maxHeartbeats 40000000 in
theorem rm0 (l : Launch) (Z : State) (a0 : Array Value) (hw : ∀ d ∈ tables_1, d.before a0 Z = true) (ws : List Jvm.Cond) (q1 : Int64) (h0 : Heap) (n0 : Nat) (Z0 : n0 ≤ h0.size) :
    MetFree l x (head1 (Jvm.Cond.code x code maxLocals ret :: ws) room_1) (fun a U => a = #[(.long q1)] ∧ Z.Warmed39 U.vm ∧ U.heap = h0) (fun _ _ _ _ _ => True) (fun _ U o U' => ∃ v L, o = .returned v ∧ own_Q1 n0 v U'.heap L ∧ FrameEnd U o U' L room_1.cells room_1.slots) := by
  refine MetFree.of_bodySF (plainFor_of_name pn_0) hisR ?_
  intro p e s m args below meth c s₁ Bd hml0 hP hK
  obtain ⟨rfl, hZ, hh⟩ := hP
  have hx := Bd.exec
  have hby := Bd.bytes
  have hml : c.maxLocals = 2 := hml0
  have hlk : meth.locks = false := Bd.notSynchronized
  have hown : s.vm.findClass "com/example/firmground/firmground/core/SplitMix64MixPinLaw" = some m.cls := findClass_of_methodNamed Bd.named
  have X0 : Stand p l e room_1 s m #[(.long q1)] below meth c s₁ [] 0 0 := Stand.of_body Bd
  have e0 : s₁.heap = h0 := by rw [← hh, Bd.state]; rfl
  refine own_G0 (own_go (fun _ k => castTop (ef_0 m q1) k) ?_)
  show own_G p e below s (own_Q1 n0) room_1.cells room_1.slots (s₁.setTop (mkF m 0 #[.val (.long q1), .second] []))
  refine own_go (fun _ => XS.lloadN X0.here hx rfl (hb hby at_0) rfl) ?_
  show own_G p e below s _ _ _ (s₁.setTop (mkF m 1 #[.val (.long q1), .second] [(.long q1)]))
  obtain ⟨T1, X1, e1, st1⟩ := own_call X0 hx hZ hown (hw _ (List.mem_of_getElem? (i := 0) rfl)) (hw _ (List.mem_of_getElem? (i := 1) rfl)) (hw _ (List.mem_of_getElem? (i := 2) rfl)) (hw _ (List.mem_of_getElem? (i := 3) rfl)) (by decide) (rm1 l Z a0 hw [] q1 h0) rfl rfl e0 (W := 0) (by decide) (by decide) (by decide) (by decide) (g := (mkF m 1 #[.val (.long q1), .second] [(.long q1)])) rfl (by rw [hml]; rfl) (argsL := [(.long q1)]) (rest := []) (lenOf (by decide +kernel : parseMethodDescriptor "(J)J" = some ⟨[.long], some .long⟩) rfl) rfl rfl (by show 2 * 0 + _ ≤ _; exact Nat.le_of_eq rfl) (hb hby at_1)
  refine own_go (fun _ => st1 _) ?_
  show own_G p e below s _ _ _ (T1.setTop (mkF m 4 #[.val (.long q1), .second] [(.long (own_v1_0 q1))]))
  obtain ⟨T2, X2, e2, st2⟩ := own_call X1 hx hZ hown (hw _ (List.mem_of_getElem? (i := 6) rfl)) (hw _ (List.mem_of_getElem? (i := 7) rfl)) (hw _ (List.mem_of_getElem? (i := 8) rfl)) (hw _ (List.mem_of_getElem? (i := 9) rfl)) (by decide) (rm2 l Z a0 hw [] (own_v1_0 q1) h0) rfl rfl e1 (W := 0) (by decide) (by decide) (by decide) (by decide) (g := (mkF m 4 #[.val (.long q1), .second] [(.long (own_v1_0 q1))])) rfl (by rw [hml]; rfl) (argsL := [(.long (own_v1_0 q1))]) (rest := []) (lenOf (by decide +kernel : parseMethodDescriptor "(J)J" = some ⟨[.long], some .long⟩) rfl) rfl rfl (by show 2 * 0 + _ ≤ _; exact Nat.le_of_eq rfl) (hb hby at_4)
  refine own_go (fun _ => st2 _) ?_
  show own_G p e below s _ _ _ (T2.setTop (mkF m 7 #[.val (.long q1), .second] [(.long (own_v2_0 (own_v1_0 q1)))]))
  refine own_go (fun _ => XS.lloadN X2.here hx rfl (hb hby at_7) rfl) ?_
  show own_G p e below s _ _ _ (T2.setTop (mkF m 8 #[.val (.long q1), .second] [(.long q1), (.long (own_v2_0 (own_v1_0 q1)))]))
  refine own_go (fun _ => XS.lcmp X2.here hx rfl (hb hby at_8) rfl) ?_
  show own_G p e below s _ _ _ (T2.setTop (mkF m 9 #[.val (.long q1), .second] [(.int (lcmpW (own_v2_0 (own_v1_0 q1)) q1))]))
  refine own_go (fun _ => XS.ifNo X2.here hx rfl (hb hby at_9) rfl ((if0 _ _).trans (teq ((lw_eq _ _).2 (own_plain q1))).2)) ?_
  show own_G p e below s _ _ _ (T2.setTop (mkF m 12 #[.val (.long q1), .second] []))
  refine own_go (fun _ => XS.iconst X2.here hx rfl (hb hby at_12)) ?_
  show own_G p e below s _ _ _ (T2.setTop (mkF m 13 #[.val (.long q1), .second] [(.int (1 : Int32))]))
  refine own_go (fun _ => XS.goto X2.here hx rfl (pc0 := 13) (pc' := 17) rfl (hb hby at_13) (by decide) (by decide)) ?_
  show own_G p e below s _ _ _ (T2.setTop (mkF m 17 #[.val (.long q1), .second] [(.int (1 : Int32))]))
  exact own_retN X2 hx hlk (t := .boolean) Bd.returns (by simp) (hb hby at_17) (by decide) (by decide) ⟨rfl, Fr.nil n0⟩
set_option maxRecDepth 65536 in
set_option maxHeartbeats 40000000 in
theorem comes_1 {Post : Tables → Env → Array Value → State → Outcome → State → Prop} (hpost : ∀ tb e args s v u, (limb_1_1.after args s (.returned v) u = true ∧ limb_1_2.after args s (.returned v) u = true ∧ True) → FrameEnd s (.returned v) u (Jvm.fieldLocs frame_1_writes args s ++ Jvm.arrayLocs frame_1_arrays args s ++ Jvm.staticLocs frame_1_statics s) 0 0 → Post tb e args s (.returned v) u) :
    ArmFor flags0 classFile x code maxLocals ret World_1 tables_1 room_1 Calls_1 rest_1 Pre_1 Post := by
  intro l hfl _ _ p e ha hc hk s m args below hf hA hF happ hP
  obtain ⟨hcalls, hrest, hpre⟩ := hP
  obtain ⟨-, -, -, hnamed, -, -, -, hat⟩ := (Spec.applies_iff hf).mp happ
  obtain ⟨hg, hn⟩ := and_e (Cond.before_iff.mp (show (Jvm.Cond.and given_1 narrow_1).before args s = true from hpre))
  obtain ⟨g0, q0⟩ := and_e hg
  obtain ⟨w0, rfl⟩ : ∃ w0 : Value, args = #[w0] := by
    have hs : args.size = 1 := by simpa [Cond.value, given_1] using g0
    obtain ⟨L⟩ := args
    match L, hs with
    | [w0], _ => exact ⟨w0, rfl⟩
  have hw := fun d (hd : d ∈ tables_1) => atoms_spec (ws := Jvm.Cond.code x code maxLocals ret :: tables_1) hat d (List.mem_cons_of_mem _ hd)
  obtain ⟨q1, eq1⟩ := isL_v q0
  obtain rfl : w0 = (.long q1) := Option.some.inj eq1
  obtain ⟨n, o, h1, h2, h3, _, L, rfl, ⟨rfl, N⟩, hq⟩ := rm0 l s _ hw tables_1 q1 s.heap s.heap.size (Nat.le_refl _)  p e ha hc hk s m _ below hf ((Spec.applies_iff_loose hf).mp happ).1 ⟨rfl, State.Warmed39.refl s, rfl⟩ trivial
  refine ⟨n, _, h1, h2, h3, hpost _ _ _ _ _ _ ⟨Cond.after_iff.mpr rfl, Cond.after_iff.mpr (eq_i res_at (Term.int_eval (1)) rfl), trivial⟩ ⟨hq.1, hq.2.1, (hq.2.2.sift fun y hy => Or.inr (N y hy)).mono (by decide) (by decide)⟩⟩
theorem main_1_1 : Claimed_1_1 := comes_1 fun _ _ _ _ _ _ h hF => ⟨h.1, hF⟩
theorem main_1_2 : Claimed_1_2 := comes_1 fun _ _ _ _ _ _ h hF => ⟨h.2.1, hF⟩
end Jvm.Pilot.@@N@@
namespace Jvm.Pilot.@@N@@
open Jvm Jvm.ClassFile Sem Op Lib Jvm.Free Jvm.Stand Jvm.Pilot.@@N@@.Jvm.D
/-! MADE BY PROGRAM (witnessworld.py) out of the Statement's table words and the real class files: 9 classes; the members and pool entries that the words name. The judged class is class 1, her method 3. -/
namespace start1
open Jvm.ClassFile
def u (s : String) : CpInfo := .utf8 (stringToUtf16 s)
/-- a pool by its gaps: so many unusable entries, then the entry; so many at the end -/
def gap : Nat → List CpInfo → List CpInfo
  | 0, r => r
  | n + 1, r => .unusable :: gap n r
def poolList (es : List (Nat × CpInfo)) (last : Nat) : List CpInfo := es.foldr (fun e r => gap e.1 (e.2 :: r)) (gap last [])
def pool (es : List (Nat × CpInfo)) (last : Nat) : Array CpInfo := ⟨poolList es last⟩
def fileOf (pool : Array CpInfo) (this : Nat) (attrs : Array Attribute := #[]) (ms : Array MethodInfo := #[]) (fl : Nat := 33) (sup : Nat := 0) (ifs : Array Nat := #[]) (fds : Array FieldInfo := #[]) : ClassFile where
  minorVersion := 0
  majorVersion := 65
  constantPool := pool
  accessFlags := fl
  thisClass := this
  superClass := sup
  interfaces := ifs
  fields := fds
  methods := ms
  attributes := attrs
def plain (name : String) (sup : Option ClassId) : Class where
  name := name
  kind := .ordinary
  loader := none
  accessFlags := 33
  super := sup
  interfaces := #[]
  cf := none
  fields := #[]
  methods := #[]
  instanceTypes := #[]
  staticTypes := #[]
  resolved := #[]
  callSites := []
  init := .initialized
  statics := none
  mirror := none

def pool0 : Array CpInfo := pool [(5, u "<init>"), (0, u "()V"), (1, .class_ 10), (1, u "java/lang/Object")] 113

def k0m0 : Method := { name := "<init>", desc := "()V", sig := { parameters := [], returnType := none }, accessFlags := 1, code := none }
/-- java/lang/Object -/
def k0 : Class := { plain "java/lang/Object" none with
  accessFlags := 33
  interfaces := #[]
  cf := some (fileOf pool0 8 #[] #[{ accessFlags := 1, nameIndex := 5, descriptorIndex := 6, attributes := #[] }] 33 0 #[] #[])
  fields := #[]
  methods := #[k0m0]
  instanceTypes := #[]
  staticTypes := #[]
  resolved := Array.replicate 124 none
  statics := none }

def pool1 : Array CpInfo := pool [(2, .class_ 4), (1, u "java/lang/Object"), (0, u "<init>"), (0, u "()V"), (0, .long 2), (1, .long 10723151780598845931), (1, .methodref 12 13), (0, .class_ 14), (0, .nameAndType 15 16), (0, u "com/example/firmground/firmground/core/SplitMix64MixPinLaw"), (0, u "inverseOdd"), (0, u "(J)J"), (0, .long 13787848793156543929), (1, .methodref 20 21), (0, .class_ 22), (0, .nameAndType 23 16), (0, u "com/example/firmground/firmground/core/SplitMix64"), (0, u "mix"), (0, .methodref 12 25), (0, .nameAndType 26 16), (0, u "unmix"), (2, u "law"), (0, u "(J)Z")] 3

def k1m0 : Method := { name := "<init>", desc := "()V", sig := { parameters := [], returnType := none }, accessFlags := 2, code := none }
def k1c1 : Code := { maxStack := 8, maxLocals := 4, code := method_2_code, exceptionTable := #[], attributes := #[] }
def k1m1 : Method := { name := "inverseOdd", desc := "(J)J", sig := { parameters := [.long], returnType := some .long }, accessFlags := 10, code := some k1c1 }
def k1c2 : Code := { maxStack := 5, maxLocals := 10, code := method_3_code, exceptionTable := #[], attributes := #[] }
def k1m2 : Method := { name := "unmix", desc := "(J)J", sig := { parameters := [.long], returnType := some .long }, accessFlags := 10, code := some k1c2 }
def k1c3 : Code := { maxStack := 4, maxLocals := 2, code := code, exceptionTable := #[], attributes := #[] }
def k1m3 : Method := { name := "law", desc := "(J)Z", sig := { parameters := [.long], returnType := some .boolean }, accessFlags := 9, code := some k1c3 }
/-- com/example/firmground/firmground/core/SplitMix64MixPinLaw -/
def k1 : Class := { plain "com/example/firmground/firmground/core/SplitMix64MixPinLaw" (some 0) with
  accessFlags := 49
  interfaces := #[]
  cf := some (fileOf pool1 12 #[] #[{ accessFlags := 2, nameIndex := 5, descriptorIndex := 6, attributes := #[] }, { accessFlags := 10, nameIndex := 15, descriptorIndex := 16, attributes := #[] }, { accessFlags := 10, nameIndex := 26, descriptorIndex := 16, attributes := #[] }, { accessFlags := 9, nameIndex := 29, descriptorIndex := 30, attributes := #[] }] 49 2 #[] #[])
  fields := #[]
  methods := #[k1m0, k1m1, k1m2, k1m3]
  instanceTypes := #[]
  staticTypes := #[]
  resolved := Array.replicate 34 none
  statics := none }

def pool2 : Array CpInfo := pool [(2, .class_ 4), (1, u "java/lang/Object"), (0, u "<init>"), (0, u "()V"), (0, .long 13787848793156543929), (1, .long 10723151780598845931), (1, .class_ 12), (0, u "com/example/firmground/firmground/core/SplitMix64"), (2, u "mix"), (0, u "(J)J")] 2

def k2m0 : Method := { name := "<init>", desc := "()V", sig := { parameters := [], returnType := none }, accessFlags := 2, code := none }
def k2c1 : Code := { maxStack := 5, maxLocals := 2, code := prog_44_method_2_code, exceptionTable := #[], attributes := #[] }
def k2m1 : Method := { name := "mix", desc := "(J)J", sig := { parameters := [.long], returnType := some .long }, accessFlags := 9, code := some k2c1 }
/-- com/example/firmground/firmground/core/SplitMix64 -/
def k2 : Class := { plain "com/example/firmground/firmground/core/SplitMix64" (some 0) with
  accessFlags := 49
  interfaces := #[]
  cf := some (fileOf pool2 11 #[] #[{ accessFlags := 2, nameIndex := 5, descriptorIndex := 6, attributes := #[] }, { accessFlags := 9, nameIndex := 15, descriptorIndex := 16, attributes := #[] }] 49 2 #[] #[])
  fields := #[]
  methods := #[k2m0, k2m1]
  instanceTypes := #[]
  staticTypes := #[]
  resolved := Array.replicate 19 none
  statics := none }

def pool3 : Array CpInfo := pool [(1, u "java/lang/Cloneable"), (0, .class_ 1), (0, u "java/lang/Object"), (0, .class_ 3)] 3

/-- java/lang/Cloneable -/
def k3 : Class := { plain "java/lang/Cloneable" (some 0) with
  accessFlags := 1537
  interfaces := #[]
  cf := some (fileOf pool3 2 #[] #[] 1537 4 #[] #[])
  fields := #[]
  methods := #[]
  instanceTypes := #[]
  staticTypes := #[]
  resolved := Array.replicate 8 none
  statics := none }

def pool4 : Array CpInfo := pool [(1, u "java/io/Serializable"), (0, .class_ 1), (0, u "java/lang/Object"), (0, .class_ 3)] 3

/-- java/io/Serializable -/
def k4 : Class := { plain "java/io/Serializable" (some 0) with
  accessFlags := 1537
  interfaces := #[]
  cf := some (fileOf pool4 2 #[] #[] 1537 4 #[] #[])
  fields := #[]
  methods := #[]
  instanceTypes := #[]
  staticTypes := #[]
  resolved := Array.replicate 8 none
  statics := none }

/-- the primitive byte -/
def k5 : Class := { plain "byte" none with kind := .primitive 'B', accessFlags := 0x411 }
/-- [B -/
def k6 : Class := { plain "[B" (some 0) with kind := .array 5 .byte, interfaces := #[3, 4], accessFlags := 1041 }

/-- the primitive int -/
def k7 : Class := { plain "int" none with kind := .primitive 'I', accessFlags := 0x411 }
/-- [I -/
def k8 : Class := { plain "[I" (some 0) with kind := .array 7 .int, interfaces := #[3, 4], accessFlags := 1041 }

def heap : Heap := #[]
def classes : Array Class := #[k0, k1, k2, k3, k4, k5, k6, k7, k8]
def interned : List (Array UInt16 × Addr) := []
def slotsUsed : Nat := 0
def theMethod : MethodId := ⟨1, 3⟩
def args0 : Array Value := #[.long 5]
def aboutOver (below : List Frame) : State where
  vm := { classes := classes, interned := interned.toArray }
  heap := heap
  slotsUsed := slotsUsed
  threads := #[{ frames := .invoking theMethod args0 :: below }]
def below0 : List Frame := [.native { method := ⟨0, 0⟩, args := #[] }]
def about1 : State := aboutOver below0
def p0 : Program := .bare "" "" ""
def e0 : Env := launch0.env 0 0 0
theorem w_frames : about1.frames = Frame.invoking theMethod args0 :: below0 := rfl
set_option maxRecDepth 65536 in
theorem w_args : argsFit about1.vm theMethod args0 = true := by decide +kernel
set_option maxRecDepth 65536 in
theorem w_heap : heapFits about1 = true := by decide +kernel
set_option maxRecDepth 65536 in
theorem w_runnable : about1.curStatus? = some .runnable := by decide +kernel
set_option maxRecDepth 65536 in
theorem w_alone : about1.alone = true := by decide +kernel
set_option maxRecDepth 65536 in
theorem w_named : about1.methodNamed? x = some theMethod := by decide +kernel
set_option maxRecDepth 65536 in
theorem w_hears : about1.hears theMethod below0 = true := by decide +kernel
set_option maxRecDepth 65536 in
theorem w_ripe : about1.ripe theMethod args0 below0 = true := by decide +kernel
theorem w_running : about1.status = .running := rfl
set_option maxRecDepth 65536 in
theorem w_room : about1.hasRoom e0.platform room_1 = true :=
  launch0.hasRoom_least _ room_1 (by decide +kernel) (by decide +kernel) (by decide +kernel) (by decide +kernel) (by decide +kernel) (by decide +kernel)
theorem allAtoms_all (ts : List Jvm.Cond) (a : Array Jvm.Value) (st : Jvm.State) : (allAtoms ts).before a st = ts.all (fun c => c.before a st) := by
  induction ts with
  | nil => rfl
  | cons c t ih =>
    show (Jvm.Cond.and c (allAtoms t)).before a st = _
    rw [Jvm.Cond.before_and, ih, List.all_cons]
def words1 : List Jvm.Cond := Jvm.Cond.code x code maxLocals ret :: tables_1
/-- a 'code' word, met by the world's own term for the bytes: nothing is compared byte by byte -/
theorem code_word {y : MethodName} {bytes : ByteArray} {mx : Nat} {rt : Option FieldType} {a : Array Value} {s : State} {m : MethodId} {meth : Method} {c : Code} (h1 : s.methodNamed? y = some m) (h2 : s.vm.method? m = some meth) (h3 : meth.code = some c) (h4 : c.code = bytes)
    (h5 : (c.maxLocals == mx && c.exceptionTable.isEmpty && decide (c.maxStack ≤ mostOperands) && decide (meth.sig.returnType = rt) && !meth.locks && decide (parseMethodDescriptor y.desc = some meth.sig)) = true) : (Jvm.Cond.code y bytes mx rt).before a s = true := by
  simp only [Bool.and_eq_true, beq_iff_eq, Bool.not_eq_true', decide_eq_true_eq] at h5
  obtain ⟨⟨⟨⟨⟨g1, g2⟩, g3⟩, g4⟩, g5⟩, g6⟩ := h5
  simp [Cond.before, Cond.holds, Cond.value, h1, h2, h3, h4, g1, g2, g3, g4, g5, g6]
def isCode : Jvm.Cond → Bool
  | .code _ _ _ _ => true
  | _ => false
theorem all_split {L : List Jvm.Cond} {P : Jvm.Cond → Bool} (h1 : L.all (fun c => isCode c || P c) = true) (h2 : ∀ c ∈ L.filter isCode, P c = true) : L.all P = true := by
  refine List.all_eq_true.mpr fun c hc => ?_
  have h := List.all_eq_true.mp h1 c hc
  rcases Bool.eq_false_or_eq_true (isCode c) with hi | hi
  · exact h2 c (List.mem_filter.mpr ⟨hc, hi⟩)
  · simpa [hi] using h
set_option maxRecDepth 65536 in
theorem w_c0 : (Jvm.Cond.code x code maxLocals ret).before args0 about1 = true := code_word (m := ⟨1, 3⟩) (meth := k1m3) (c := k1c3) (by decide +kernel) rfl rfl rfl (by decide +kernel)
set_option maxRecDepth 65536 in
theorem w_c1 : (Jvm.Cond.code ({ cls := "com/example/firmground/firmground/core/SplitMix64", name := "mix", desc := "(J)J" } : Jvm.MethodName) prog_44_method_2_code (2 : Nat) (Option.some Jvm.ClassFile.FieldType.long)).before args0 about1 = true := code_word (m := ⟨2, 1⟩) (meth := k2m1) (c := k2c1) (by decide +kernel) rfl rfl rfl (by decide +kernel)
set_option maxRecDepth 65536 in
theorem w_c2 : (Jvm.Cond.code ({ cls := "com/example/firmground/firmground/core/SplitMix64MixPinLaw", name := "unmix", desc := "(J)J" } : Jvm.MethodName) method_3_code (10 : Nat) (Option.some Jvm.ClassFile.FieldType.long)).before args0 about1 = true := code_word (m := ⟨1, 2⟩) (meth := k1m2) (c := k1c2) (by decide +kernel) rfl rfl rfl (by decide +kernel)
set_option maxRecDepth 65536 in
theorem w_c3 : (Jvm.Cond.code ({ cls := "com/example/firmground/firmground/core/SplitMix64MixPinLaw", name := "inverseOdd", desc := "(J)J" } : Jvm.MethodName) method_2_code (4 : Nat) (Option.some Jvm.ClassFile.FieldType.long)).before args0 about1 = true := code_word (m := ⟨1, 1⟩) (meth := k1m1) (c := k1c1) (by decide +kernel) rfl rfl rfl (by decide +kernel)
def codes1 : List Jvm.Cond := [Jvm.Cond.code x code maxLocals ret, Jvm.Cond.code ({ cls := "com/example/firmground/firmground/core/SplitMix64", name := "mix", desc := "(J)J" } : Jvm.MethodName) prog_44_method_2_code (2 : Nat) (Option.some Jvm.ClassFile.FieldType.long), Jvm.Cond.code ({ cls := "com/example/firmground/firmground/core/SplitMix64MixPinLaw", name := "unmix", desc := "(J)J" } : Jvm.MethodName) method_3_code (10 : Nat) (Option.some Jvm.ClassFile.FieldType.long), Jvm.Cond.code ({ cls := "com/example/firmground/firmground/core/SplitMix64MixPinLaw", name := "inverseOdd", desc := "(J)J" } : Jvm.MethodName) method_2_code (4 : Nat) (Option.some Jvm.ClassFile.FieldType.long)]
set_option maxRecDepth 65536 in
theorem codes_eq : words1.filter isCode = codes1 := rfl
theorem w_codes : ∀ c ∈ words1.filter isCode, c.before args0 about1 = true := by
  rw [codes_eq]
  intro c hc
  simp only [codes1, List.mem_cons, List.not_mem_nil, or_false] at hc
  rcases hc with rfl | rfl | rfl | rfl
  · exact w_c0
  · exact w_c1
  · exact w_c2
  · exact w_c3
set_option maxRecDepth 65536 in
theorem w_t1 : words1.all (fun c => isCode c || c.before args0 about1) = true := by decide +kernel
theorem w_tables : (allAtoms (Jvm.Cond.code x code maxLocals ret :: tables_1)).before args0 about1 = true := by
  rw [allAtoms_all]
  show words1.all (fun c => c.before args0 about1) = true
  refine all_split ?_ w_codes
  rw [w_t1]
set_option maxRecDepth 65536 in
theorem w_case : (Jvm.Cond.and given_1 narrow_1).before args0 about1 = true := by decide +kernel
theorem w_applies : (headSpec (Jvm.Cond.code x code maxLocals ret :: tables_1) room_1).applies x e0.platform about1 = true :=
  (Spec.applies_iff w_frames).mpr ⟨w_running, w_runnable, w_alone, w_named, w_hears, w_ripe, w_room, w_tables⟩
theorem atStart : AtStart classFile x code maxLocals ret World_1 tables_1 room_1 Calls_1 rest_1 Pre_1 launch0 p0 e0 about1 theMethod args0 below0 :=
  ⟨lists_1, trivial, launch0.admits_env _ _ _, launch0.least_env, fairChoices_fair.cas, fairChoices_fair.clock, w_frames, w_args, w_heap, w_applies, trivial, trivial, w_case⟩
end start1
theorem witness_1 : WitnessClaimed_1 := ⟨start1.p0, start1.e0, start1.about1, start1.theMethod, start1.args0, start1.below0, start1.atStart⟩
end Jvm.Pilot.@@N@@
