import JvmDerived
import JvmDerived.Pilot.@@N@@Statement
import JvmDerived.Pilot.@@N@@Code
set_option linter.unusedVariables false
set_option linter.unusedSimpArgs false
namespace Jvm.Pilot.@@N@@
open Jvm Jvm.ClassFile Sem Op Lib Jvm.Free Jvm.Stand Jvm.LawKit Jvm.RoadKit Bundle Jvm.Pilot.@@N@@.Jvm.D
/-! own laws: the run from a state to the return, in continuation form -/
section OwnG
variable {p : Program} {l : Launch} {e : Env} {R : Room} {s : State} {m : MethodId} {args : Array Value} {below : List Frame} {meth : Method} {c : Code} {T : State} {locs : List Loc} {cells slots : Nat} {Z : State} {a0 : Array Value} {h : Heap} {Q : Option Value → Heap → List Loc → Prop} {ck sk : Nat}
def own_G (p : Program) (e : Env) (below : List Frame) (s : State) (Q : Option Value → Heap → List Loc → Prop) (ck sk : Nat) (U : State) : Prop :=
  ∃ s₂ o, Steps p.tables e below U s₂ ∧ s₂.status = .running ∧ Ended s₂ below o ∧ ∃ v L, o = .returned v ∧ Q v s₂.heap L ∧ FrameEnd s o s₂ L ck sk
theorem own_via {U U' : State} (k : ∀ t, Steps p.tables e below U' t → Steps p.tables e below U t) (g : own_G p e below s Q ck sk U') : own_G p e below s Q ck sk U := by
  obtain ⟨s2, o, h1, r⟩ := g
  exact ⟨s2, o, k _ h1, r⟩
theorem own_vF {U : State} (m : MethodId) (T' : State) (pc : Nat) (L : Array Slot) (S : List Value) (k : ∀ t, Steps p.tables e below (T'.setTop (mkF m pc L S)) t → Steps p.tables e below U t) (g : own_G p e below s Q ck sk (T'.setTop (mkF m pc L S))) : own_G p e below s Q ck sk U := own_via k g
theorem own_mono {Q' : Option Value → Heap → List Loc → Prop} {U : State} (k : ∀ v h L, Q v h L → Q' v h L) (g : own_G p e below s Q ck sk U) : own_G p e below s Q' ck sk U := by
  obtain ⟨s2, o, h1, h2, h3, v, L, h4, h5, h6⟩ := g
  exact ⟨s2, o, h1, h2, h3, v, L, h4, k _ _ _ h5, h6⟩
theorem own_ret (X : Stand p l e R s m args below meth c T locs cells slots) {v : Option Value} (hv : meth.sig.returnType = none → v = none) (hlk : meth.locks = false) {f : JFrame}
    (st : ∀ fs, (∀ (f : JFrame) (acts : List Action), f.method = m → f.locked = none → f.entered = [] → (doReturn e (T.setTop f) acts v).1 = T.setFrames fs) → Steps p.tables e below (T.setTop f) (T.setFrames fs))
    (hQ : Q v T.heap locs) (hc : cells ≤ ck) (hs : slots ≤ sk) : own_G p e below s Q ck sk (T.setTop f) := by
  obtain ⟨fs, hr, hrun, hended, hW, hsame⟩ := X.leave (v := v) hv hlk
  exact ⟨_, _, st fs hr, hrun, hended, _, _, rfl, hQ, ⟨_, rfl⟩, hW, hsame.mono hc hs⟩
theorem own_callS (X : Stand p l e R s m args below meth c T locs cells slots) (hx : p.tables.exec = Jvm.exec) (hZ : Z.Warmed39 s.vm) {own : String} {index : Nat} {y : MethodName} {bytes : ByteArray} {maxL : Nat} {ret : Option FieldType} {rm : Room} {as' : Array Value} {W : Nat}
    (hown : s.vm.findClass own = some m.cls) (w1 : (Jvm.Cond.methodLink own index y).before a0 Z = true) (w2 : (Jvm.Cond.static y).before a0 Z = true) (w3 : (Jvm.Cond.initialized y.cls).before a0 Z = true) (w4 : (Jvm.Cond.code y bytes maxL ret).before a0 Z = true)
    (hy : y.cls ≠ "java/lang/invoke/MethodHandle" ∧ y.cls ≠ "java/lang/invoke/VarHandle")
    (hM : MetFree l y (head1 [Jvm.Cond.code y bytes maxL ret] rm) (fun a U => a = as' ∧ Z.Warmed39 U.vm ∧ U.heap = h) (fun _ _ _ _ _ => True) (fun _ U o U' => ∃ v L, o = .returned v ∧ Q v U'.heap L ∧ FrameEnd U o U' L rm.cells rm.slots))
    (hf : rm.frames + 1 ≤ R.frames) (hl : W + (maxL + 11) + rm.locals ≤ R.locals) (eT : T.heap = h)
    {g : JFrame} (hg : g.method = m) (hsize : g.locals.size = c.maxLocals) {argsL rest : List Value} (has : argsL.toArray = as') (hlen : ∀ sig, parseMethodDescriptor y.desc = some sig → argsL.length = sig.parameters.length)
    (hstack : g.stack = argsL.reverse ++ rest) (hW : 2 * g.monitorRoom + (rest.map fun v => v.category).sum ≤ W) (hdg : decode c.code g.pc = .ok (.invokestatic index, 3))
    (hcells : cells + rm.cells ≤ R.cells) (hslots : slots + rm.slots ≤ R.slots) :
    ∃ v T' L', Stand p l e R s m args below meth c T' (locs ++ L') (cells + rm.cells) (slots + rm.slots) ∧ Q v T'.heap L' ∧ ∀ t, Steps p.tables e below (T'.setTop { g with pc := g.pc + 3, stack := v.toList ++ rest }) t → Steps p.tables e below (T.setTop g) t := by
  obtain ⟨v, vm1, ⟨T', L', k', n'⟩, -, X', ⟨Lc, hQ, q1, q2, q3⟩, st⟩ := Jvm.LawKit.callS X hx hown (mvT hZ w1) (mvT hZ w2) (mvT hZ w3) (mvT hZ w4) hy (backOf (W := W) hM hZ w4 w3 hf hl) hg hsize hlen hstack hW hdg (fun _ _ => ⟨has, eT, hcells, hslots⟩)
  dsimp only [Pt.U, Pt.locs, Pt.cells, Pt.slots] at X' q1 q2 q3 st hQ
  subst q1 q2 q3
  exact ⟨v, T', Lc, X', hQ, st⟩
theorem own_callI (X : Stand p l e R s m args below meth c T locs cells slots) (hx : p.tables.exec = Jvm.exec) (hZ : Z.Warmed39 s.vm) {own : String} {index : Nat} {y : MethodName} (hy1 : y.name = "<init>") {bytes : ByteArray} {maxL : Nat} {rm : Room} {as' : Array Value} {W : Nat}
    (hown : s.vm.findClass own = some m.cls) (w1 : (Jvm.Cond.methodLink own index y).before a0 Z = true) (w2 : (Jvm.Cond.instanceMethod y).before a0 Z = true) (w3 : (Jvm.Cond.initialized y.cls).before a0 Z = true) (w4 : (Jvm.Cond.code y bytes maxL none).before a0 Z = true)
    (hy : y.cls ≠ "java/lang/invoke/MethodHandle" ∧ y.cls ≠ "java/lang/invoke/VarHandle")
    (hM : MetFree l y (head1 [Jvm.Cond.code y bytes maxL none] rm) (fun a U => a = as' ∧ Z.Warmed39 U.vm ∧ U.heap = h) (fun _ _ _ _ _ => True) (fun _ U o U' => ∃ v L, o = .returned v ∧ Q v U'.heap L ∧ FrameEnd U o U' L rm.cells rm.slots))
    (hf : rm.frames + 1 ≤ R.frames) (hl : W + (maxL + 11) + rm.locals ≤ R.locals) (eT : T.heap = h)
    {g : JFrame} (hg : g.method = m) (hsize : g.locals.size = c.maxLocals) {a : Addr} {argsL rest : List Value} (has : (.ref a :: argsL).toArray = as') (hlen : ∀ sig, parseMethodDescriptor y.desc = some sig → argsL.length = sig.parameters.length)
    (hstack : g.stack = argsL.reverse ++ .ref a :: rest) (hW : 2 * g.monitorRoom + (rest.map fun v => v.category).sum ≤ W) (hdg : decode c.code g.pc = .ok (.invokespecial index, 3))
    (hcells : cells + rm.cells ≤ R.cells) (hslots : slots + rm.slots ≤ R.slots) :
    ∃ v T' L', Stand p l e R s m args below meth c T' (locs ++ L') (cells + rm.cells) (slots + rm.slots) ∧ Q v T'.heap L' ∧ ∀ t, Steps p.tables e below (T'.setTop { g with pc := g.pc + 3, stack := v.toList ++ rest }) t → Steps p.tables e below (T.setTop g) t := by
  obtain ⟨v, vm1, ⟨T', L', k', n'⟩, -, X', ⟨Lc, hQ, q1, q2, q3⟩, st⟩ := X.specialBack hx hy1 hown (mvT hZ w1) (mvT hZ w2) (mvT hZ w4) hy (backOf (W := W) hM hZ w4 w3 hf hl) hg hsize (Steps.refl _) hlen hstack hW hdg (fun _ _ => ⟨has, eT, hcells, hslots⟩)
  dsimp only [Pt.U, Pt.locs, Pt.cells, Pt.slots] at X' q1 q2 q3 st hQ
  subst q1 q2 q3
  exact ⟨v, T', Lc, X', hQ, fun t k => st.trans k⟩
theorem own_callV (X : Stand p l e R s m args below meth c T locs cells slots) (hx : p.tables.exec = Jvm.exec) (hZ : Z.Warmed39 s.vm) {own : String} {index : Nat} {y : MethodName} {bytes : ByteArray} {maxL : Nat} {ret : Option FieldType} {rm : Room} {as' : Array Value} {W : Nat} {C : String}
    (hown : s.vm.findClass own = some m.cls) (w1 : (Jvm.Cond.methodLink own index y).before a0 Z = true) (w2 : (Jvm.Cond.declares y).before a0 Z = true) (w5 : (Jvm.Cond.selects C y y).before a0 Z = true) (w6 : (Jvm.Cond.instanceMethod y).before a0 Z = true) (w3 : (Jvm.Cond.initialized y.cls).before a0 Z = true) (w4 : (Jvm.Cond.code y bytes maxL ret).before a0 Z = true)
    (hy : y.cls ≠ "java/lang/invoke/MethodHandle" ∧ y.cls ≠ "java/lang/invoke/VarHandle")
    (hM : MetFree l y (head1 [Jvm.Cond.code y bytes maxL ret] rm) (fun a U => a = as' ∧ Z.Warmed39 U.vm ∧ U.heap = h) (fun _ _ _ _ _ => True) (fun _ U o U' => ∃ v L, o = .returned v ∧ Q v U'.heap L ∧ FrameEnd U o U' L rm.cells rm.slots))
    (hf : rm.frames + 1 ≤ R.frames) (hl : W + (maxL + 11) + rm.locals ≤ R.locals) (eT : T.heap = h) {b : Addr} (E : Exa Z h b C)
    {g : JFrame} (hg : g.method = m) (hsize : g.locals.size = c.maxLocals) {argsL rest : List Value} (has : (.ref b :: argsL).toArray = as') (hlen : ∀ sig, parseMethodDescriptor y.desc = some sig → argsL.length = sig.parameters.length)
    (hstack : g.stack = argsL.reverse ++ .ref b :: rest) (hW : 2 * g.monitorRoom + (rest.map fun v => v.category).sum ≤ W) (hdg : decode c.code g.pc = .ok (.invokevirtual index, 3))
    (hcells : cells + rm.cells ≤ R.cells) (hslots : slots + rm.slots ≤ R.slots) :
    ∃ v T' L', Stand p l e R s m args below meth c T' (locs ++ L') (cells + rm.cells) (slots + rm.slots) ∧ Q v T'.heap L' ∧ ∀ t, Steps p.tables e below (T'.setTop { g with pc := g.pc + 3, stack := v.toList ++ rest }) t → Steps p.tables e below (T.setTop g) t := by
  obtain ⟨cq, kq, qa, qb, qc⟩ := isOf hZ eT E
  obtain ⟨v, vm1, ⟨T', L', k', n'⟩, -, X', ⟨Lc, hQ, q1, q2, q3⟩, st⟩ := X.virtualBack hx hown (mvT hZ w1) (mvT hZ w2) (notFace_of_selects (args := #[]) (mvT hZ w5)) (mvT hZ w5) (mvT hZ w6) hy (backOf (W := W) hM hZ w4 w3 hf hl) qa qc hg hsize (Steps.refl _) hlen hstack hW hdg (fun _ _ => ⟨has, eT, hcells, hslots⟩)
  dsimp only [Pt.U, Pt.locs, Pt.cells, Pt.slots] at X' q1 q2 q3 st hQ
  subst q1 q2 q3
  exact ⟨v, T', Lc, X', hQ, fun t k => st.trans k⟩
end OwnG
theorem own_jlt {x y : Int64} (h : x < y) : ifCond.holds .lt (lcmpW x y) = true ∧ ifCond.holds .ge (lcmpW x y) = false := by
  have q := (lw_lt x y).mpr h
  exact ⟨(if0 _ _).trans (tlt q).1, (if0 _ _).trans (tlt q).2.1⟩
theorem own_jnlt {x y : Int64} (h : ¬ x < y) : ifCond.holds .lt (lcmpW x y) = false ∧ ifCond.holds .ge (lcmpW x y) = true := by
  have q := fun z => h ((lw_lt x y).mp z)
  exact ⟨(if0 _ _).trans (flt q).1, (if0 _ _).trans (flt q).2.1⟩
theorem own_jgt {x y : Int64} (h : y < x) : ifCond.holds .gt (lcmpW x y) = true ∧ ifCond.holds .le (lcmpW x y) = false := by
  have q := (lw_gt x y).mpr h
  exact ⟨(if0 _ _).trans (tlt q).2.2.1, (if0 _ _).trans (tlt q).2.2.2⟩
theorem own_jngt {x y : Int64} (h : ¬ y < x) : ifCond.holds .gt (lcmpW x y) = false ∧ ifCond.holds .le (lcmpW x y) = true := by
  have q := fun z => h ((lw_gt x y).mp z)
  exact ⟨(if0 _ _).trans (flt q).2.2.1, (if0 _ _).trans (flt q).2.2.2⟩
theorem own_jeq {x y : Int64} (h : x = y) : ifCond.holds .eq (lcmpW x y) = true ∧ ifCond.holds .ne (lcmpW x y) = false := by
  have q := (lw_eq x y).mpr h
  exact ⟨(if0 _ _).trans (teq q).1, (if0 _ _).trans (teq q).2⟩
theorem own_jne {x y : Int64} (h : ¬ x = y) : ifCond.holds .eq (lcmpW x y) = false ∧ ifCond.holds .ne (lcmpW x y) = true := by
  have q := fun z => h ((lw_eq x y).mp z)
  exact ⟨(if0 _ _).trans (feq q).1, (if0 _ _).trans (feq q).2⟩
theorem own_sta_keep {Z : State} {h h' : Heap} {C n d : String} {v : Value} {ws : List Addr} (F : Sta Z h C n d v) (K : Keep h h' ws) (q : ∀ x ∈ ws, ∃ cell : Cell, h[x]? = some cell ∧ cell.vm.isStatics = false) : Sta Z h' C n d v := by
  obtain ⟨cf, i, k, f, st, cell, h1, h2, h3, h4, h5, h6, h7⟩ := F
  refine ⟨cf, i, k, f, st, cell, h1, h2, h3, h4, K.2.1 st cell h5 (fun hm => ?_), h6, h7⟩
  obtain ⟨c', e1, e2⟩ := q st hm
  cases h5.symm.trans e1
  rw [e2] at h6; cases h6
theorem own_exa_ns {Z : State} {h : Heap} {a : Addr} {C : String} (E : Exa Z h a C) : ∃ cell : Cell, h[a]? = some cell ∧ cell.vm.isStatics = false := by
  obtain ⟨cell, k, h1, -, -, h4, -⟩ := E
  exact ⟨cell, h1, h4⟩
theorem own_arv_ns {Z : State} {h : Heap} {a : Addr} {k : ClassId} {ty : FieldType} {z : Int32} {vs : List Value} {dv : Value} (F : Arv Z h a k ty z vs dv) : ∃ cell : Cell, h[a]? = some cell ∧ cell.vm.isStatics = false := by
  obtain ⟨c, A, -⟩ := F
  exact ⟨c, A.1, A.plain⟩
theorem own_seg {tb : Tables} {e : Env} {below : List Frame} {U U' t : State} (a : Steps tb e below U' t → Steps tb e below U t) (b : Steps tb e below U' t) : Steps tb e below U t := a b
theorem own_NSroot {Z : State} {a0 : Array Value} {O K : String} {n : Nat} (w : (Jvm.Cond.noSuperclass O).before a0 Z = true) (wk : (Jvm.Cond.instantiable K n).before a0 Z = true) (hn : O ≠ K) : NS Z O K := by
  obtain ⟨c, k, h1, h2, h3, -, -⟩ := Cond.noSuperclass_spec w
  obtain ⟨t, kt, g1, -⟩ := Cond.instantiable_spec wk
  refine ⟨c, t, h1, g1, fun fuel => ?_⟩
  have ne := ids_ne h1 g1 hn
  cases fuel <;> simp [Vm.isSubclassAux, ne, h2, h3]
theorem own_NSno {Z : State} {a0 : Array Value} {C S K : String} {n : Nat} (w : (Jvm.Cond.superclass C S).before a0 Z = true) (wk : (Jvm.Cond.instantiable K n).before a0 Z = true) (nn : NS Z C K) (hn : C ≠ K) : ∃ c t, Z.vm.findClass C = some c ∧ Z.vm.findClass K = some t ∧ Z.vm.assignable c t = false := by
  obtain ⟨c, t, h0, g0, n3⟩ := nn
  obtain ⟨p, k, kp, h1, h2, h3, h4, h5, -, h7⟩ := Cond.superclass_spec h0 w
  obtain ⟨t', kt, g1, g2, g3, g4, -⟩ := Cond.instantiable_spec wk
  cases g0.symm.trans g1
  have g7 : kt.isInterface = false := by cases q : kt.isInterface <;> simp [q] at g4 ⊢
  have ne := ids_ne h0 g0 hn
  refine ⟨c, t, h0, g0, ?_⟩
  show Z.vm.assignableAux (255 + 1) c t = false
  simp [Vm.assignableAux, ne, h2, g2, h5, g3, g7, Vm.isSubclass, n3]
/-! own laws: the same, for methods that may intern a literal -/
section OwnS
variable {p : Program} {l : Launch} {e : Env} {R : Room} {s : State} {m : MethodId} {args : Array Value} {below : List Frame} {meth : Method} {c : Code} {T : State} {locs : List Loc} {cells slots : Nat} {Z : State} {a0 : Array Value} {h : Heap} {Q : Option Value → Heap → List Loc → Prop} {ck sk : Nat} {EL : List (String × Nat)}
def own_GW (p : Program) (e : Env) (below : List Frame) (s : State) (Q : Option Value → Heap → List Loc → Prop) (ck sk : Nat) (U : State) : Prop :=
  ∃ s₂ o, Steps p.tables e below U s₂ ∧ s₂.status = .running ∧ Ended s₂ below o ∧ ∃ v L, o = .returned v ∧ Q v s₂.heap L ∧ ReturnedEndW s o s₂ L ck sk
theorem own_viaW {U U' : State} (k : ∀ t, Steps p.tables e below U' t → Steps p.tables e below U t) (g : own_GW p e below s Q ck sk U') : own_GW p e below s Q ck sk U := by
  obtain ⟨s2, o, h1, r⟩ := g
  exact ⟨s2, o, k _ h1, r⟩
theorem own_vFW {U : State} (m : MethodId) (T' : State) (pc : Nat) (L : Array Slot) (S : List Value) (k : ∀ t, Steps p.tables e below (T'.setTop (mkF m pc L S)) t → Steps p.tables e below U t) (g : own_GW p e below s Q ck sk (T'.setTop (mkF m pc L S))) : own_GW p e below s Q ck sk U := own_viaW k g
theorem own_retW {vm0 : Vm} {k0 : Nat} (X : Stand p l e R (s.setVm vm0) m args below meth c T locs cells slots) (hS : s.Since vm0 k0) (hk : k0 ≤ T.heap.size) {v : Option Value} (hv : meth.sig.returnType = none → v = none) (hlk : meth.locks = false) {f : JFrame}
    (st : ∀ fs, (∀ (f : JFrame) (acts : List Action), f.method = m → f.locked = none → f.entered = [] → (doReturn e (T.setTop f) acts v).1 = T.setFrames fs) → Steps p.tables e below (T.setTop f) (T.setFrames fs))
    (hQ : Q v T.heap locs) (hc : cells ≤ ck) (hs : slots ≤ sk) : own_GW p e below s Q ck sk (T.setTop f) := by
  obtain ⟨fs, hr, hrun, hended, hE1, hE2, hE3, hE4⟩ := X.leaveW hS hk (v := v) hv hlk
  exact ⟨_, _, st fs hr, hrun, hended, _, _, rfl, hQ, hE1, hE2, hE3, hE4.mono hc hs⟩
theorem own_retN (X : Stand p l e R s m args below meth c T locs cells slots) {v : Option Value} (hv : meth.sig.returnType = none → v = none) (hlk : meth.locks = false) {f : JFrame}
    (st : ∀ fs, (∀ (f : JFrame) (acts : List Action), f.method = m → f.locked = none → f.entered = [] → (doReturn e (T.setTop f) acts v).1 = T.setFrames fs) → Steps p.tables e below (T.setTop f) (T.setFrames fs))
    (hQ : Q v T.heap locs) (hc : cells ≤ ck) (hs : slots ≤ sk) : own_GW p e below s Q ck sk (T.setTop f) := by
  obtain ⟨fs, hr, hrun, hended, hW, hsame⟩ := X.leave (v := v) hv hlk
  exact ⟨_, _, st fs hr, hrun, hended, _, _, rfl, hQ, ReturnedEndW.of_narrow ⟨_, rfl⟩ hW (hsame.mono hc hs)⟩
theorem own_nf {s : State} {args : Array Value} {C : String} {x y : MethodName} (hc : x.cls = y.cls) (hsel : (Jvm.Cond.selects C x x).before args s = true) : NotFace s y := fun r0 h0 => by
  obtain ⟨c2, r2, m2, q1, q2, q3, q4, kP, hkP, hkPi⟩ := Cond.selects_spec hsel
  have e1 := findClass_of_methodNamed h0
  have e2 := findClass_of_methodNamed q3
  rw [hc] at e2
  exact ⟨kP, by rw [Option.some.inj (e1.symm.trans e2)]; exact hkP, hkPi⟩
theorem own_same {Z : State} {a0 : Array Value} {C : String} {x y : MethodName} (hc : x.cls = y.cls) (w : (Jvm.Cond.declares y).before a0 Z = true) (hsel : (Jvm.Cond.selects C x x).before a0 Z = true) (hy : y.cls ≠ "java/lang/invoke/MethodHandle" ∧ y.cls ≠ "java/lang/invoke/VarHandle") : (Jvm.Cond.sameMethod y.cls y.cls y.name y.desc).before a0 Z = true := by
  obtain ⟨r0, r, hn, hrm, hstR, hsigR⟩ := Cond.declares_spec w
  obtain ⟨kr, hkr, hni⟩ := own_nf hc hsel r0 hn
  have f1 := findClass_of_methodNamed hn
  have f2 := State.methodFound?_of_named hn hy
  have hn' : Z.methodNamed? ⟨y.cls, y.name, y.desc⟩ = some r0 := hn
  simp [Cond.before, Cond.holds, Cond.value, f1, f2, hn', hkr, hni]
theorem own_callP (X : Stand p l e R s m args below meth c T locs cells slots) (hx : p.tables.exec = Jvm.exec) (hZ : Z.Warmed39 s.vm) {own : String} {index : Nat} {y : MethodName} {bytes : ByteArray} {maxL : Nat} {ret : Option FieldType} {rm : Room} {as' : Array Value} {W : Nat} {C : String}
    (hown : s.vm.findClass own = some m.cls) (w1 : (Jvm.Cond.methodLink own index y).before a0 Z = true) (w2 : (Jvm.Cond.privateMethod y).before a0 Z = true) (w5 : (Jvm.Cond.selects C y y).before a0 Z = true) (w6 : (Jvm.Cond.instanceMethod y).before a0 Z = true) (w3 : (Jvm.Cond.initialized y.cls).before a0 Z = true) (w4 : (Jvm.Cond.code y bytes maxL ret).before a0 Z = true)
    (hy : y.cls ≠ "java/lang/invoke/MethodHandle" ∧ y.cls ≠ "java/lang/invoke/VarHandle")
    (hM : MetFree l y (head1 [Jvm.Cond.code y bytes maxL ret] rm) (fun a U => a = as' ∧ Z.Warmed39 U.vm ∧ U.heap = h) (fun _ _ _ _ _ => True) (fun _ U o U' => ∃ v L, o = .returned v ∧ Q v U'.heap L ∧ FrameEnd U o U' L rm.cells rm.slots))
    (hf : rm.frames + 1 ≤ R.frames) (hl : W + (maxL + 11) + rm.locals ≤ R.locals) (eT : T.heap = h) {b : Addr} (E : Exa Z h b C)
    {g : JFrame} (hg : g.method = m) (hsize : g.locals.size = c.maxLocals) {argsL rest : List Value} (has : (.ref b :: argsL).toArray = as') (hlen : ∀ sig, parseMethodDescriptor y.desc = some sig → argsL.length = sig.parameters.length)
    (hstack : g.stack = argsL.reverse ++ .ref b :: rest) (hW : 2 * g.monitorRoom + (rest.map fun v => v.category).sum ≤ W) (hdg : decode c.code g.pc = .ok (.invokevirtual index, 3))
    (hcells : cells + rm.cells ≤ R.cells) (hslots : slots + rm.slots ≤ R.slots) :
    ∃ v T' L', Stand p l e R s m args below meth c T' (locs ++ L') (cells + rm.cells) (slots + rm.slots) ∧ Q v T'.heap L' ∧ ∀ t, Steps p.tables e below (T'.setTop { g with pc := g.pc + 3, stack := v.toList ++ rest }) t → Steps p.tables e below (T.setTop g) t := by
  obtain ⟨cq, qk, qa⟩ := E.cell
  obtain ⟨mk, methM, hnamed, hmethM, hstM, habM⟩ := Cond.instanceMethod_spec (mvT (args := args) hZ w6)
  obtain ⟨methM', cM, hmethM', -, -, -, -, -, -, hsigM⟩ := Cond.code_spec hnamed (mvT (args := args) hZ w4)
  cases hmethM.symm.trans hmethM'
  obtain ⟨c2, r2, m2, -, -, q3, -, kP, hkP, hkPi⟩ := Cond.selects_spec (mvT (args := args) hZ w5)
  cases hnamed.symm.trans q3
  have hselP : selectMethod e.platform s.vm cq.cls mk = .method mk := selectMethod_private hmethM (Cond.privateMethod_at (mvP (args := args) hZ w2) mk methM hnamed hmethM)
  obtain ⟨vm1, X1, hstep1⟩ := X.invokevirtual hx hown (mvT hZ w1) hnamed hmethM hstM hkP hkPi hy (a := b) (cell := cq) (by rw [eT]; exact qk) qa hselP hmethM habM hkP hkPi (g := g) hg (argsL := argsL) (rest := rest) (hlen _ hsigM) hstack hdg
  obtain ⟨v, ⟨T', L', k', n'⟩, X', ⟨Lc, hQ, q1, q2, q3⟩, st⟩ := (backOf (W := W) hM hZ w4 w3 hf hl) m meth c ⟨T.setVm vm1, locs, cells, slots⟩ { g with stack := rest } (.invokevirtual index) mk (.ref b :: argsL).toArray X1 hg hsize hdg hW (X1.named hnamed) ⟨has, eT, hcells, hslots⟩
  dsimp only [Pt.U, Pt.locs, Pt.cells, Pt.slots] at X' q1 q2 q3 st hQ
  subst q1 q2 q3
  exact ⟨v, T', Lc, X', hQ, fun t k => ((hstep1 _ fun acts => by rw [doInvoke_state]; exact Steps.refl _).trans st).trans k⟩
theorem own_callVZ (X : Stand p l e R s m args below meth c T locs cells slots) (hx : p.tables.exec = Jvm.exec) (hZ : Z.Warmed39 s.vm) {own : String} {index : Nat} {x y z : MethodName} {bytes : ByteArray} {maxL : Nat} {ret : Option FieldType} {rm : Room} {as' : Array Value} {W : Nat} {C : String}
    (hown : s.vm.findClass own = some m.cls) (w1 : (Jvm.Cond.methodLink own index y).before a0 Z = true) (w2 : (Jvm.Cond.declares y).before a0 Z = true) (hc0 : x.cls = y.cls) (w7 : (Jvm.Cond.selects C x x).before a0 Z = true) (w5 : (Jvm.Cond.selects C y z).before a0 Z = true) (w6 : (Jvm.Cond.instanceMethod z).before a0 Z = true) (w3 : (Jvm.Cond.initialized z.cls).before a0 Z = true) (w4 : (Jvm.Cond.code z bytes maxL ret).before a0 Z = true)
    (hy : y.cls ≠ "java/lang/invoke/MethodHandle" ∧ y.cls ≠ "java/lang/invoke/VarHandle")
    (hM : MetFree l z (head1 [Jvm.Cond.code z bytes maxL ret] rm) (fun a U => a = as' ∧ Z.Warmed39 U.vm ∧ U.heap = h) (fun _ _ _ _ _ => True) (fun _ U o U' => ∃ v L, o = .returned v ∧ Q v U'.heap L ∧ FrameEnd U o U' L rm.cells rm.slots))
    (hf : rm.frames + 1 ≤ R.frames) (hl : W + (maxL + 11) + rm.locals ≤ R.locals) (eT : T.heap = h) {b : Addr} (E : Exa Z h b C)
    {g : JFrame} (hg : g.method = m) (hsize : g.locals.size = c.maxLocals) {argsL rest : List Value} (has : (.ref b :: argsL).toArray = as') (hlen : ∀ sig, parseMethodDescriptor y.desc = some sig → argsL.length = sig.parameters.length)
    (hstack : g.stack = argsL.reverse ++ .ref b :: rest) (hW : 2 * g.monitorRoom + (rest.map fun v => v.category).sum ≤ W) (hdg : decode c.code g.pc = .ok (.invokevirtual index, 3))
    (hcells : cells + rm.cells ≤ R.cells) (hslots : slots + rm.slots ≤ R.slots) :
    ∃ v T' L', Stand p l e R s m args below meth c T' (locs ++ L') (cells + rm.cells) (slots + rm.slots) ∧ Q v T'.heap L' ∧ ∀ t, Steps p.tables e below (T'.setTop { g with pc := g.pc + 3, stack := v.toList ++ rest }) t → Steps p.tables e below (T.setTop g) t := by
  obtain ⟨cq, kq, qa, qb, qc⟩ := isOf hZ eT E
  obtain ⟨v, vm1, ⟨T', L', k', n'⟩, -, X', ⟨Lc, hQ, q1, q2, q3⟩, st⟩ := X.virtualBack hx hown (mvT hZ w1) (mvT hZ w2) (own_nf (args := #[]) hc0 (mvT hZ w7)) (mvT hZ w5) (mvT hZ w6) hy (backOf (W := W) hM hZ w4 w3 hf hl) qa qc hg hsize (Steps.refl _) hlen hstack hW hdg (fun _ _ => ⟨has, eT, hcells, hslots⟩)
  dsimp only [Pt.U, Pt.locs, Pt.cells, Pt.slots] at X' q1 q2 q3 st hQ
  subst q1 q2 q3
  exact ⟨v, T', Lc, X', hQ, fun t k => st.trans k⟩
theorem own_callU (X : Stand p l e R s m args below meth c T locs cells slots) (hx : p.tables.exec = Jvm.exec) (hZ : Z.Warmed39 s.vm) {own : String} {index : Nat} {x y : MethodName} (hn1 : y.name ≠ "<init>") {bytes : ByteArray} {maxL : Nat} {ret : Option FieldType} {rm : Room} {as' : Array Value} {W : Nat} {C : String}
    (hown : s.vm.findClass own = some m.cls) (w1 : (Jvm.Cond.methodLink own index y).before a0 Z = true) (w2 : (Jvm.Cond.declares y).before a0 Z = true) (hc0 : x.cls = y.cls) (w7 : (Jvm.Cond.selects C x x).before a0 Z = true) (w5 : (Jvm.Cond.superclass own y.cls).before a0 Z = true) (w6 : (Jvm.Cond.instanceMethod y).before a0 Z = true) (w3 : (Jvm.Cond.initialized y.cls).before a0 Z = true) (w4 : (Jvm.Cond.code y bytes maxL ret).before a0 Z = true)
    (hy : y.cls ≠ "java/lang/invoke/MethodHandle" ∧ y.cls ≠ "java/lang/invoke/VarHandle")
    (hM : MetFree l y (head1 [Jvm.Cond.code y bytes maxL ret] rm) (fun a U => a = as' ∧ Z.Warmed39 U.vm ∧ U.heap = h) (fun _ _ _ _ _ => True) (fun _ U o U' => ∃ v L, o = .returned v ∧ Q v U'.heap L ∧ FrameEnd U o U' L rm.cells rm.slots))
    (hf : rm.frames + 1 ≤ R.frames) (hl : W + (maxL + 11) + rm.locals ≤ R.locals) (eT : T.heap = h) {b : Addr} (E : Exa Z h b C)
    {g : JFrame} (hg : g.method = m) (hsize : g.locals.size = c.maxLocals) {argsL rest : List Value} (has : (.ref b :: argsL).toArray = as') (hlen : ∀ sig, parseMethodDescriptor y.desc = some sig → argsL.length = sig.parameters.length)
    (hstack : g.stack = argsL.reverse ++ .ref b :: rest) (hW : 2 * g.monitorRoom + (rest.map fun v => v.category).sum ≤ W) (hdg : decode c.code g.pc = .ok (.invokespecial index, 3))
    (hcells : cells + rm.cells ≤ R.cells) (hslots : slots + rm.slots ≤ R.slots) :
    ∃ v T' L', Stand p l e R s m args below meth c T' (locs ++ L') (cells + rm.cells) (slots + rm.slots) ∧ Q v T'.heap L' ∧ ∀ t, Steps p.tables e below (T'.setTop { g with pc := g.pc + 3, stack := v.toList ++ rest }) t → Steps p.tables e below (T.setTop g) t := by
  obtain ⟨v, vm1, ⟨T', L', k', n'⟩, -, X', ⟨Lc, hQ, q1, q2, q3⟩, st⟩ := superBack X hx hZ (K := C) hown w1 (own_same hc0 w2 w7 hy) w6 w5 hn1 (backOf (W := W) hM hZ w4 w3 hf hl) eT (Ins.self E) hg hsize w4 hlen hstack hW hdg (fun _ _ => ⟨has, eT, hcells, hslots⟩)
  dsimp only [Pt.U, Pt.locs, Pt.cells, Pt.slots] at X' q1 q2 q3 st hQ
  subst q1 q2 q3
  exact ⟨v, T', Lc, X', hQ, fun t k => st.trans k⟩
theorem own_backX {vm0 : Vm} {y : MethodName} {bytes : ByteArray} {maxL : Nat} {ret : Option FieldType} {rm : Room} {len W : Nat} {as' : Array Value}
    (hM : MetFree l y (head1 [Jvm.Cond.code y bytes maxL ret] rm) (fun a U => a = as' ∧ Z.Warmed39 U.vm ∧ U.heap = h ∧ CHv Z EL U.vm h) (fun _ _ _ _ _ => True) (fun _ U o U' => ∃ v L, o = .returned v ∧ Q v U'.heap L ∧ ReturnedEndW U o U' L rm.cells rm.slots))
    (hZ : Z.Warmed39 vm0) (wc : (Jvm.Cond.code y bytes maxL ret).before a0 Z = true) (wz : (Jvm.Cond.initialized y.cls).before a0 Z = true) (hf : rm.frames + 1 ≤ R.frames) (hl : W + (maxL + 11) + rm.locals ≤ R.locals) (hEL : EW Z a0 EL) (H : CHv Z EL vm0 h) :
    BackS l R p e below (s.setVm vm0) args y len W (fun A a => a = as' ∧ A.U.heap = h ∧ A.cells + rm.cells ≤ R.cells ∧ A.slots + rm.slots ≤ R.slots)
      (fun A _ v B => ∃ L, Q v B.U.heap L ∧ B.locs = A.locs ++ L ∧ B.cells = A.cells + rm.cells ∧ B.slots = A.slots + rm.slots) :=
  BackS.of_freeW (bytes := bytes) (maxL := maxL) (ret := ret) (E := fun _ _ o t L k n => k = rm.cells ∧ n = rm.slots ∧ ∃ v, o = .returned v ∧ Q v t.heap L) hM hf hl
    (fun m meth c A a Y hp => have hU : Z.Warmed39 A.U.vm := wtrans (s := s.setVm vm0) hZ Y.warmed
      ⟨by show (Jvm.Cond.and _ .tt).before a A.U = true; rw [Cond.before_and, mv hU wc]; rfl, mv hU wc, mv hU wz, hp.2.2.1, hp.2.2.2⟩)
    (fun m meth c A a g mk Y hp => ⟨hp.1, wtrans (s := s.setVm vm0) hZ Y.warmed, hp.2.1, (CHv.at Y hZ hEL H).1⟩) (fun _ _ _ _ _ _ _ _ _ => trivial)
    (fun _ _ _ _ ⟨v, L, h1, h2, h3⟩ => ⟨L, _, _, h3, rfl, rfl, v, h1, h2⟩)
    (fun m meth c A a g mk v t L k n Y hp _ _ ⟨e1, e2, v', e3, e4⟩ => by cases e3; subst e1 e2; exact ⟨L, e4, rfl, rfl, rfl⟩)
theorem own_callIX {vm0 : Vm} (X : Stand p l e R (s.setVm vm0) m args below meth c T locs cells slots) (hx : p.tables.exec = Jvm.exec) (hZ : Z.Warmed39 vm0) (hEL : EW Z a0 EL) (H : CHv Z EL vm0 h) {own : String} {index : Nat} {y : MethodName} (hy1 : y.name = "<init>") {bytes : ByteArray} {maxL : Nat} {rm : Room} {as' : Array Value} {W : Nat}
    (hown : vm0.findClass own = some m.cls) (w1 : (Jvm.Cond.methodLink own index y).before a0 Z = true) (w2 : (Jvm.Cond.instanceMethod y).before a0 Z = true) (w3 : (Jvm.Cond.initialized y.cls).before a0 Z = true) (w4 : (Jvm.Cond.code y bytes maxL none).before a0 Z = true)
    (hy : y.cls ≠ "java/lang/invoke/MethodHandle" ∧ y.cls ≠ "java/lang/invoke/VarHandle")
    (hM : MetFree l y (head1 [Jvm.Cond.code y bytes maxL none] rm) (fun a U => a = as' ∧ Z.Warmed39 U.vm ∧ U.heap = h ∧ CHv Z EL U.vm h) (fun _ _ _ _ _ => True) (fun _ U o U' => ∃ v L, o = .returned v ∧ Q v U'.heap L ∧ ReturnedEndW U o U' L rm.cells rm.slots))
    (hf : rm.frames + 1 ≤ R.frames) (hl : W + (maxL + 11) + rm.locals ≤ R.locals) (eT : T.heap = h)
    {g : JFrame} (hg : g.method = m) (hsize : g.locals.size = c.maxLocals) {a : Addr} {argsL rest : List Value} (has : (.ref a :: argsL).toArray = as') (hlen : ∀ sig, parseMethodDescriptor y.desc = some sig → argsL.length = sig.parameters.length)
    (hstack : g.stack = argsL.reverse ++ .ref a :: rest) (hW : 2 * g.monitorRoom + (rest.map fun v => v.category).sum ≤ W) (hdg : decode c.code g.pc = .ok (.invokespecial index, 3))
    (hcells : cells + rm.cells ≤ R.cells) (hslots : slots + rm.slots ≤ R.slots) :
    ∃ v T' L', Stand p l e R (s.setVm T'.vm) m args below meth c T' (locs ++ L') (cells + rm.cells) (slots + rm.slots) ∧ (s.setVm vm0).Since T'.vm T'.heap.size ∧ Z.Warmed39 (s.setVm T'.vm).vm ∧ (s.setVm T'.vm).vm.findClass own = some m.cls ∧ Q v T'.heap L' ∧ ∀ t, Steps p.tables e below (T'.setTop { g with pc := g.pc + 3, stack := v.toList ++ rest }) t → Steps p.tables e below (T.setTop g) t := by
  obtain ⟨v, vm1, ⟨T', L', k', n'⟩, -, X', hS, -, ⟨Lc, hQ, q1, q2, q3⟩, st⟩ := X.specialBackS hx hy1 (own := own) hown (mvT (s := s.setVm vm0) hZ w1) (mvT (s := s.setVm vm0) hZ w2) (mvT (s := s.setVm vm0) hZ w4) hy (own_backX (W := W) hM hZ w4 w3 hf hl hEL H) hg hsize (Steps.refl _) hlen hstack hW hdg (fun _ _ => ⟨has, eT, hcells, hslots⟩)
  dsimp only [Pt.U, Pt.locs, Pt.cells, Pt.slots] at X' hS q1 q2 q3 st hQ
  subst q1 q2 q3
  exact ⟨v, T', Lc, X', hS, State.Warmed39.trans (t := s.setVm vm0) hZ hS.1, by rw [show (s.setVm T'.vm).vm = T'.vm from rfl, hS.1.alike.findClass]; exact hown, hQ, fun t k => st.trans k⟩
def own_By (Z : State) (h : Heap) (b : Addr) (n : Int32) : Prop := ∃ (k : ClassId) (vs : List Value), Arv Z h b k .byte n vs (.int 0) ∧ n.toNatClampNeg ≤ vs.length
theorem own_By.of {b : Addr} {n : Int32} {k : ClassId} {vs : List Value} (V : Arv Z h b k .byte n vs (.int 0)) (q : n.toNatClampNeg ≤ vs.length) : own_By Z h b n := ⟨k, vs, V, q⟩
theorem own_By.ext {h' : Heap} {b : Addr} {n : Int32} (B : own_By Z h b n) (E : Ext h h') : own_By Z h' b n := by obtain ⟨k, vs, V, q⟩ := B; exact ⟨k, vs, V.ext E, q⟩
theorem own_By.other {h' : Heap} {a b : Addr} {sl : Nat} {v : Value} {n : Int32} (B : own_By Z h b n) (W : Wr h h' a sl v) (q : b ≠ a) : own_By Z h' b n := by obtain ⟨k, vs, V, r⟩ := B; exact ⟨k, vs, V.other W q, r⟩
theorem own_By.keep {h' : Heap} {b : Addr} {ws : List Addr} {n : Int32} (B : own_By Z h b n) (K : Keep h h' ws) (q : b ∉ ws) : own_By Z h' b n := by obtain ⟨k, vs, V, r⟩ := B; exact ⟨k, vs, V.keep K q, r⟩
theorem own_By.lt {b : Addr} {n : Int32} (B : own_By Z h b n) : b < h.size := by obtain ⟨k, vs, V, r⟩ := B; exact V.lt
theorem own_By.new {b : Addr} {n : Int32} {k : ClassId} (A : Arr Z h b (newA k .byte n) .byte) (q : ¬ n < 0) : own_By Z h b n :=
  ⟨k, List.replicate n.toNatClampNeg (.int 0), (Arv.new A q).pad (fun i => by rw [List.getD_eq_getElem?_getD, List.getElem?_replicate]; split <;> rfl), by rw [List.length_replicate]; exact Nat.le_refl _⟩
theorem own_By.ne {a b : Addr} {n : Int32} {C : String} {j : Nat} (B : own_By Z h b n) (E : Exa Z h a C) (w : (Jvm.Cond.instantiable C j).before a0 Z = true) : a ≠ b := by obtain ⟨k, vs, V, r⟩ := B; exact Exa.neArv E V w
theorem own_by_ns {b : Addr} {n : Int32} (B : own_By Z h b n) : ∃ cell : Cell, h[b]? = some cell ∧ cell.vm.isStatics = false := by obtain ⟨k, vs, V, r⟩ := B; exact own_arv_ns V
theorem own_cpB (X : Stand p l e R s m args below meth c T locs cells slots) (hx : p.tables.exec = Jvm.exec) (hZ : Z.Warmed39 s.vm) {own : String} {index : Nat} (hown : s.vm.findClass own = some m.cls)
    (w1 : (Jvm.Cond.methodLink own index Jvm.Stand.acN).before a0 Z = true) (w2 : (Jvm.Cond.native Jvm.Stand.acN).before a0 Z = true) (w3 : (Jvm.Cond.static Jvm.Stand.acN).before a0 Z = true) (w4 : (Jvm.Cond.initialized "java/lang/System").before a0 Z = true) (eT : T.heap = h)
    {a b : Addr} {z z' sp dp nn : Int32} (A : own_By Z h a z) (B : own_By Z h b z')
    (h1 : ¬ sp < 0) (h2 : ¬ dp < 0) (h3 : ¬ nn < 0) (h4 : sp.toNatClampNeg + nn.toNatClampNeg ≤ z.toNatClampNeg) (h5 : dp.toNatClampNeg + nn.toNatClampNeg ≤ z'.toNatClampNeg) {n0 : Nat} (N : Fr n0 locs) (ge : n0 ≤ b)
    {g : JFrame} (hg : g.method = m) (hsize : g.locals.size = c.maxLocals) {rest : List Value} (hs : g.stack = .int nn :: .int dp :: .ref b :: .int sp :: .ref a :: rest) (hd : decode c.code g.pc = .ok (.invokestatic index, 3))
    (hf : 1 ≤ R.frames) {W : Nat} (hW : 2 * g.monitorRoom + (rest.map fun v => v.category).sum ≤ W) (hlo : W + (nativeFrameWords "java/lang/System" "arraycopy" 5 + 11) ≤ R.locals) :
    ∃ T' h' L, Stand p l e R s m args below meth c T' L cells slots ∧ T'.heap = h' ∧ Fr n0 L ∧ Keep h h' [b] ∧ own_By Z h' b z' ∧
      ∀ target, Steps p.tables e below (T'.setTop { g with pc := g.pc + 3, stack := rest }) target → Steps p.tables e below (T.setTop g) target := by
  obtain ⟨k, vs, A, la⟩ := A
  obtain ⟨k', vd, B, lb⟩ := B
  obtain ⟨T', h', L, r1, r2, r3, r4, r5, r6⟩ := cpA X hx hZ hown w1 w2 w3 w4 eT A B (Or.inl ⟨rfl, rfl⟩) h1 h2 h3 h4 h5 rfl (Nat.le_trans h5 lb) N ge hg hsize hs hd hf hW hlo
  exact ⟨T', h', L, r1, r2, r3, r4, ⟨_, _, r5, by simp only [List.length_append, List.length_take, List.length_drop, List.length_map, List.length_range]; omega⟩, r6⟩
def own_At (Z : State) (h : Heap) (a : Addr) (j v : Int32) : Prop := ∃ cl : Cell, Arr Z h a cl .int ∧ ¬ (j < 0 ∨ cl.slots.size ≤ j.toNatClampNeg) ∧ cl.slots[j.toNatClampNeg]? = some (.int v)
theorem own_At.ext {h' : Heap} {a : Addr} {j v : Int32} (B : own_At Z h a j v) (E : Ext h h') : own_At Z h' a j v := by obtain ⟨cl, A, q, r⟩ := B; exact ⟨cl, A.ext E, q, r⟩
end OwnS
def own_EL : List (String × Nat) := [("com/example/lightpath_planner/lightpathplanner/ModulationFormat", 7), ("com/example/lightpath_planner/lightpathplanner/ModulationFormat", 37), ("com/example/lightpath_planner/lightpathplanner/ModulationFormat", 57), ("com/example/lightpath_planner/lightpathplanner/ModulationFormatReachesPinLaw", 12)]
abbrev vI (x : Int32) : Slot := .val (.int x)
abbrev vR (x : Addr) : Slot := .val (.ref x)
theorem own_mt {α : Type} {L : List α} (i : Nat) {a : α} (h : L[i]? = some a) : a ∈ L := List.mem_of_getElem? h
theorem own_w0 {n : Nat} : 2 * 0 + n ≤ n := Nat.le_of_eq (by omega)
abbrev own_MG (l : Launch) (Z : State) (y : MethodName) (B : ByteArray) (mL : Nat) (rt : Option FieldType) (rm : Room) (A : Array Value) (h0 : Heap) (Q : Option Value → Heap → List Loc → Prop) : Prop :=
  MetFree l y (head1 [Jvm.Cond.code y B mL rt] rm) (fun a U => a = A ∧ Z.Warmed39 U.vm ∧ U.heap = h0) (fun _ _ _ _ _ => True) (fun _ U o V => ∃ v L, o = .returned v ∧ Q v V.heap L ∧ FrameEnd U o V L rm.cells rm.slots)
abbrev own_MX (l : Launch) (Z : State) (y : MethodName) (B : ByteArray) (mL : Nat) (rt : Option FieldType) (rm : Room) (A : Array Value) (h0 : Heap) (Q : Option Value → Heap → List Loc → Prop) : Prop :=
  MetFree l y (head1 [Jvm.Cond.code y B mL rt] rm) (fun a U => a = A ∧ Z.Warmed39 U.vm ∧ U.heap = h0 ∧ CHv Z own_EL U.vm h0) (fun _ _ _ _ _ => True) (fun _ U o V => ∃ v L, o = .returned v ∧ Q v V.heap L ∧ ReturnedEndW U o V L rm.cells rm.slots)
theorem own_mkG {l : Launch} {Z : State} {y : MethodName} {B : ByteArray} {mL : Nat} {rt : Option FieldType} {rm : Room} {A : Array Value} {h0 : Heap} {Q : Option Value → Heap → List Loc → Prop} (hp : plainFor y = true)
    (H : ∀ (p : Program) (e : Env) (s : State) (m : MethodId) (below : List Frame) (meth : Method) (c : Code) (T : State), Stand p l e rm s m A below meth c T [] 0 0 → p.tables.exec = Jvm.exec → c.code = B → c.maxLocals = mL → s.vm.findClass y.cls = some m.cls → meth.name = y.name → meth.sig.returnType = rt → meth.locks = false → Z.Warmed39 s.vm → T.heap = h0 → own_G p e below s Q rm.cells rm.slots (T.setTop (entryFrame m A mL))) : own_MG l Z y B mL rt rm A h0 Q := by
  refine MetFree.of_bodySF hp hisR ?_
  intro p e s m args below meth c s₁ Bd hml0 hP hK
  obtain ⟨rfl, hZ, hh⟩ := hP
  exact H p e s m below meth c s₁ (Stand.of_body Bd) Bd.exec Bd.bytes hml0 (findClass_of_methodNamed Bd.named) (name_of_methodNamed Bd.named Bd.method).1 Bd.returns Bd.notSynchronized hZ (by rw [← hh, Bd.state]; rfl)
theorem own_mkX {l : Launch} {Z : State} {y : MethodName} {B : ByteArray} {mL : Nat} {rt : Option FieldType} {rm : Room} {A : Array Value} {h0 : Heap} {Q : Option Value → Heap → List Loc → Prop} (hp : plainFor y = true)
    (H : ∀ (p : Program) (e : Env) (s : State) (m : MethodId) (below : List Frame) (meth : Method) (c : Code) (T : State), Stand p l e rm s m A below meth c T [] 0 0 → p.tables.exec = Jvm.exec → c.code = B → c.maxLocals = mL → s.vm.findClass y.cls = some m.cls → meth.name = y.name → meth.sig.returnType = rt → meth.locks = false → Z.Warmed39 s.vm → T.heap = h0 → CHv Z own_EL s.vm h0 → own_GW p e below s Q rm.cells rm.slots (T.setTop (entryFrame m A mL))) : own_MX l Z y B mL rt rm A h0 Q := by
  refine MetFree.of_bodySF hp hisR ?_
  intro p e s m args below meth c s₁ Bd hml0 hP hK
  obtain ⟨rfl, hZ, hh, hCH⟩ := hP
  exact H p e s m below meth c s₁ (Stand.of_body Bd) Bd.exec Bd.bytes hml0 (findClass_of_methodNamed Bd.named) (name_of_methodNamed Bd.named Bd.method).1 Bd.returns Bd.notSynchronized hZ (by rw [← hh, Bd.state]; rfl) hCH
open Jvm.Free.Fl
open Jvm.FP.Core in
theorem own_oshift (s t : Bool) (c d : Nat) (q r : Int) (u : Int) : order (.fin s c (q + u)) (.fin t d (r + u)) = order (.fin s c q) (.fin t d r) := by
  simp only [order, inUnits]
  rw [show min (q + u) (r + u) = min q r + u by omega, show q + u - (min q r + u) = q - min q r by omega, show r + u - (min q r + u) = r - min q r by omega]
open Jvm.FP.Core in
theorem own_ozero (s t : Bool) (c : Nat) (q q' r : Int) : order (.fin s c q) (.fin t 0 r) = order (.fin s c q') (.fin t 0 r) := by
  have key : ∀ q, order (.fin s c q) (.fin t 0 r) = some (compare (signed s c) 0) := fun q => by
    simp only [order, inUnits, Nat.zero_mul, signed_zero]
    have hn : c * 2 ^ (q - min q r).toNat = 0 ↔ c = 0 := by
      have := Nat.two_pow_pos (q - min q r).toNat
      constructor
      · intro h; rcases Nat.mul_eq_zero.mp h with h | h <;> omega
      · intro h; rw [h, Nat.zero_mul]
    generalize c * 2 ^ (q - min q r).toNat = n at hn
    congr 1
    apply compare_congr <;> unfold signed <;> cases s <;> simp <;> omega
  rw [key, key]
open Jvm.FP.Core in
theorem own_half {v : Int64} (hv : Small53 v) (h0 : v.toInt ≠ 0) : ∃ s c q, val64 (l2d v) = .fin s c q ∧ val64 (ddiv (l2d v) 4611686018427387904) = .fin s c (q - 1) := by
  have hW := l2d_whole hv
  have hF := val64_fits (l2d v)
  rw [val64_ddiv, show val64 4611686018427387904 = .fin false (2 ^ 52) (-51) from by decide +kernel]
  cases hd : val64 (l2d v) with
  | nan => rw [hd] at hW; exact hW.elim
  | inf s => rw [hd] at hW; exact hW.elim
  | fin s c q =>
    rw [hd] at hW hF
    have hqm : b64.qmin = -1074 := by decide
    have hp : b64.p = 53 := rfl
    obtain ⟨f1, f2, f3, f4⟩ := hF
    have hW : signed s (c * 2 ^ q.toNat) = v.toInt * ((2 ^ (-q).toNat : Nat) : Int) := hW
    have hq : b64.qmin < q := by
      rcases Int.lt_or_eq_of_le f2 with h | h
      · exact h
      · exfalso
        have hq0 : q = -1074 := by omega
        rw [hq0] at hW
        have k2 := congrArg Int.natAbs hW
        rw [natAbs_signed, Int.natAbs_mul, Int.natAbs_natCast, show (-(-1074 : Int)).toNat = 1074 from rfl, show (-1074 : Int).toNat = 0 from rfl, Nat.pow_zero, Nat.mul_one] at k2
        have k3 : 1 ≤ v.toInt.natAbs := by omega
        have k4 : 2 ^ 53 ≤ v.toInt.natAbs * 2 ^ 1074 := Nat.le_trans (Nat.pow_le_pow_right (by decide) (by decide)) (Nat.le_mul_of_pos_left _ k3)
        rw [hp] at f1
        generalize v.toInt.natAbs * 2 ^ 1074 = X at *
        omega
    refine ⟨s, c, q, rfl, ?_⟩
    have hs : (s != false) = s := by cases s <;> rfl
    have f5 : b64.tails ≤ c := by omega
    simp only [quotient, hs]
    rw [if_neg (by decide)]
    refine roundRatio_exact good_b64 (by decide) ⟨f1, by omega, by omega, Or.inr f5⟩ ?_
    rw [show (q - -51 - (q - 1)).toNat = 52 by omega, show (q - 1 - (q - -51)).toNat = 0 by omega]; simp
open Jvm.FP.Core in
theorem own_hz : ddiv (l2d 0) 4611686018427387904 = l2d 0 := by decide +kernel
open Jvm.FP.Core in
theorem own_hcmp {a b : Int64} (ha : Small53 a) (hb : Small53 b) (a0 : a.toInt ≠ 0) : dcmp (ddiv (l2d a) 4611686018427387904) (ddiv (l2d b) 4611686018427387904) = dcmp (l2d a) (l2d b) := by
  obtain ⟨s, c, q, e1, e2⟩ := own_half ha a0
  by_cases b0 : b.toInt = 0
  · have hb0 : b = 0 := Int64.toInt_inj.mp b0
    subst hb0
    rw [own_hz]
    show order (val64 _) (val64 _) = order (val64 _) (val64 _)
    rw [e2, e1, Jvm.FP.Core.l2d_zero, show val64 0 = .fin false 0 b64.qmin from by decide +kernel]
    exact own_ozero _ _ _ _ _ _
  · obtain ⟨t, d, r, g1, g2⟩ := own_half hb b0
    show order (val64 _) (val64 _) = order (val64 _) (val64 _)
    rw [e2, e1, g2, g1]
    exact own_oshift s t c d q r (-1)
open Jvm.FP.Core in
theorem own_hfinC {v : Int64} (hv : Small53 v) : DFin (ddiv (l2d v) 4611686018427387904) := by
  by_cases h : v.toInt = 0
  · have h0 : v = 0 := Int64.toInt_inj.mp h
    subst h0
    rw [own_hz]; exact l2d_fin 0
  · obtain ⟨s, c, q, -, e⟩ := own_half hv h
    exact ⟨_, _, _, e⟩

theorem own_r (x : Int32) : 1 ≤ ((x &&& (1073741823 : Int32)) + (1 : Int32)).toInt := by
  have h1 := c_mask x 1073741823 30 (by decide) (by decide)
  rw [Int32.toInt_add]
  have h2 : (1 : Int32).toInt = 1 := rfl
  rw [h2]
  have h3 : ((x &&& (1073741823 : Int32)).toInt + 1).bmod (2 ^ 32) = (x &&& (1073741823 : Int32)).toInt + 1 := Int.bmod_eq_of_le (by omega) (by omega)
  omega
theorem own_b32 (r : Int32) : B53 r.toInt64 := by
  have h1 := r.le_toInt
  have h2 := r.toInt_lt
  unfold B53
  rw [Int32.toInt_toInt64]
  omega
theorem own_bs (r z : Int32) : B53 (r.toInt64 + z.toInt64) := by
  have h1 := r.le_toInt
  have h2 := r.toInt_lt
  have h3 := z.le_toInt
  have h4 := z.toInt_lt
  have e := add64 (own_b32 r) (own_b32 z)
  rw [Int32.toInt_toInt64, Int32.toInt_toInt64] at e
  unfold B53
  rw [e]
  omega
theorem own_bq {P : Prop} [Decidable P] (r b : Int32) : B53 (if P then b.toInt64 else r.toInt64 + (b % (3 : Int32)).toInt64) := by
  split
  · exact own_b32 b
  · exact own_bs r _
theorem own_fq {q : Int64} (h : B53 q) : Fin64 (FP.ddiv (FP.l2d q) 4611686018427387904) := fin64_core.mpr (own_hfinC (sm h))
theorem own_fr (r : Int32) : Fin64 (FP.ddiv (FP.i2d r) 4611686018427387904) := by rw [i2d_w]; exact own_fq (own_b32 r)
theorem own_rq {r : Int32} {q : Int64} (h0 : 1 ≤ r.toInt) (h : B53 q) : cmpValue (FP.dcmp (FP.ddiv (FP.i2d r) 4611686018427387904) (FP.ddiv (FP.l2d q) 4611686018427387904)) .l = lcmpW r.toInt64 q := by
  have e := own_hcmp (a := r.toInt64) (b := q) (sm (own_b32 r)) (sm h) (by rw [Int32.toInt_toInt64]; omega)
  have e2 : FP.dcmp (FP.ddiv (FP.i2d r) 4611686018427387904) (FP.ddiv (FP.l2d q) 4611686018427387904) = FP.dcmp (FP.l2d r.toInt64) (FP.l2d q) := by rw [i2d_w]; exact e
  rw [e2]
  exact dcmpV_w (own_b32 r) h .l
theorem own_rpos {r : Int32} (h0 : 1 ≤ r.toInt) : cmpValue (FP.dcmp (FP.ddiv (FP.i2d r) 4611686018427387904) 0) .l = 1 := by
  have h := own_rq (q := 0) h0 (by unfold B53; decide)
  have e : FP.ddiv (FP.l2d 0) 4611686018427387904 = (0 : UInt64) := by decide +kernel
  rw [e] at h
  rw [h]
  have h1 : (0 : Int64) < r.toInt64 := by rw [Int64.lt_iff_toInt_lt, Int32.toInt_toInt64]; have : (0 : Int64).toInt = 0 := rfl; omega
  show (if r.toInt64 > 0 then (1 : Int32) else _) = 1
  rw [if_pos h1]
theorem own_isfin {x : UInt64} (h : Fin64 x) : ¬ (0 : Int32) < cmpValue (FP.dcmp (x &&& 9223372036854775807) 9218868437227405311) .g := by
  have q := (le_max_iff h.noNaN).mpr h
  have q : relLe (FP.dcmp (x &&& 9223372036854775807) 9218868437227405311) = true := q
  generalize FP.dcmp (x &&& 9223372036854775807) 9218868437227405311 = w at q ⊢
  rcases w with _ | (_ | _ | _)
  · cases q
  · decide
  · decide
  · cases q
theorem own_one : cmpValue (FP.dcmp 4607182418800017408 0) .l = 1 := by decide +kernel
theorem own_onef : Fin64 4607182418800017408 := by unfold Fin64; decide +kernel

theorem own_hEL {Z : State} {a0 : Array Value} (hw : ∀ d ∈ tables_1, d.before a0 Z = true) : EW Z a0 own_EL := EW.cons (hw _ (own_mt 19 rfl)) (by decide) ( EW.cons (hw _ (own_mt 94 rfl)) (by decide) ( EW.cons (hw _ (own_mt 210 rfl)) (by decide) ( EW.cons (hw _ (own_mt 5 rfl)) (by decide) ( EW.nil))))
theorem own_wS {Z : State} {a0 : Array Value} (hw : ∀ d ∈ tables_1, d.before a0 Z = true) : ∀ d ∈ Bundle.stringAtoms, d.before a0 Z = true := fun d hd => by
  simp only [Bundle.stringAtoms, Bundle.sN, List.mem_cons, List.not_mem_nil, or_false] at hd
  rcases hd with rfl | rfl | rfl | rfl | rfl | rfl | rfl
  · exact (hw _ (own_mt 6 rfl))
  · exact (hw _ (own_mt 7 rfl))
  · exact (hw _ (own_mt 8 rfl))
  · exact (hw _ (own_mt 9 rfl))
  · exact (hw _ (own_mt 10 rfl))
  · exact (hw _ (own_mt 11 rfl))
  · exact (hw _ (own_mt 12 rfl))
def own_SS (Z : State) (cs : Int32) (ci ca : Addr) : Prop :=
  Sta Z Z.heap "java/lang/String" "COMPACT_STRINGS" "Z" (.int cs) ∧ ¬ cs = (0 : Int32) ∧ Sta Z Z.heap "java/lang/CharacterDataLatin1" "instance" "Ljava/lang/CharacterDataLatin1;" (.ref ci) ∧ Exa Z Z.heap ci "java/lang/CharacterDataLatin1" ∧ Sta Z Z.heap "java/lang/CharacterDataLatin1" "A" "[I" (.ref ca) ∧ own_At Z Z.heap ca 70 (8552417)
def Ql1 (Z : State) (o ar : Addr) (cs : Int32) (ci ca : Addr) (h0 : Heap) (n0 : Nat) (v : Option Value) (h : Heap) (L : List Loc) : Prop := v = some (.int 1) ∧ Fr n0 L ∧ h = h0
theorem d1_0 : decode jdk_42_method_154_code 0 = .ok (.getstatic 38, 3) := by decide +kernel
theorem d1_3 : decode jdk_42_method_154_code 3 = .ok (.ifCond .eq 14, 3) := by decide +kernel
theorem d1_6 : decode jdk_42_method_154_code 6 = .ok (.aload_n 0, 1) := by decide +kernel
theorem d1_7 : decode jdk_42_method_154_code 7 = .ok (.getfield 15, 3) := by decide +kernel
theorem d1_10 : decode jdk_42_method_154_code 10 = .ok (.ifCond .ne 7, 3) := by decide +kernel
theorem d1_13 : decode jdk_42_method_154_code 13 = .ok (.iconst 1, 1) := by decide +kernel
theorem d1_14 : decode jdk_42_method_154_code 14 = .ok (.goto 4, 3) := by decide +kernel
theorem d1_18 : decode jdk_42_method_154_code 18 = .ok (.ireturn, 1) := by decide +kernel
theorem ef_R1 (m : MethodId) (x0 : Addr) : entryFrame m #[(.ref x0)] 1 = mkF m 0 #[vR x0] [] := by first | (simp [entryFrame, mkF, argsToLocals, Value.category]; done) | rfl
theorem pn_java_lang_String : plainName "java/lang/String" = true := by first | (simp [plainName, overriddenIn]; done) | decide +kernel
set_option maxRecDepth 65536 in
set_option maxHeartbeats 40000000 in
theorem rm_Ql1 (l : Launch) (Z : State) (a0 : Array Value) (hw : ∀ d ∈ tables_1, d.before a0 Z = true) (o ar : Addr) (cs : Int32) (ci ca : Addr) (h0 : Heap) (n0 : Nat) (Z0 : n0 ≤ h0.size) (Od : Old Z n0 h0) (SS : own_SS Z cs ci ca) (Es_o : Exa Z h0 o "java/lang/String") (Fc_o : Fld Z h0 o "java/lang/String" "coder" "B" (.int 0)) (Fv_o : Fld Z h0 o "java/lang/String" "value" "[B" (.ref ar)) :
    own_MG l Z ((⟨"java/lang/String", "isLatin1", "()Z"⟩ : MethodName)) jdk_42_method_154_code 1 (some .boolean) ({ frames := 0, cells := 0, slots := 0, locals := 0 } : Room) #[(.ref o)] h0 (Ql1 Z o ar cs ci ca h0 n0) := by
  refine own_mkG (plainFor_of_name pn_java_lang_String) ?_
  intro p e s m below meth c s₁ X0 hx hby hml hown hnm hret hlk hZ e0
  have N0 := Fr.nil n0
  rw [ef_R1 m o]
  obtain ⟨T1, X1, e1, st1⟩ := getS2 (host := "") X0 hx hZ hown (Or.inl (hw _ (own_mt 41 rfl))) Via.refl e0 (SS.1.ext Od.2) (g := (mkF m 0 #[vR o] [])) rfl (hb hby d1_0)
  refine own_vF m T1 3 #[vR o] [(.int cs)] (fun t k => st1 t k) ?_
  refine own_vF m T1 6 #[vR o] [] (fun t k => XS.ifNo X1.here hx rfl (hb hby d1_3) rfl ((if0 _ _).trans (feq SS.2.1).1) k) ?_
  refine own_vF m T1 7 #[vR o] [(.ref o)] (fun t k => XS.aloadN X1.here hx rfl (hb hby d1_6) rfl rfl k) ?_
  obtain ⟨T2, X2, e2, st2⟩ := getF (host := "") X1 hx hZ hown (Or.inl (hw _ (own_mt 42 rfl))) Via.refl e1 Fc_o (g := (mkF m 7 #[vR o] [(.ref o)])) rfl rfl (hb hby d1_7)
  refine own_vF m T2 10 #[vR o] [(.int 0)] (fun t k => st2 t k) ?_
  refine own_vF m T2 13 #[vR o] [] (fun t k => XS.ifNo X2.here hx rfl (hb hby d1_10) rfl ((if0 _ _).trans (teq (by decide : ((0 : Int32) = (0 : Int32)))).2) k) ?_
  refine own_vF m T2 14 #[vR o] [(.int 1)] (fun t k => XS.iconst X2.here hx rfl (hb hby d1_13) k) ?_
  refine own_vF m T2 18 #[vR o] [(.int 1)] (fun t k => XS.goto X2.here hx rfl (pc0 := 14) (pc' := 18) rfl (hb hby d1_14) (by decide) (by decide) k) ?_
  exact own_ret X2 (v := some (.int 1)) (fun h => by rw [hret] at h; cases h) hlk (fun fs hr => retN X2 hx (t := .boolean) hret (by simp) (hb hby d1_18) hr) (by rw [e2]; exact ⟨rfl, N0, rfl⟩) (by decide) (by decide)
def Qcd (Z : State) (o ar : Addr) (cs : Int32) (ci ca : Addr) (h0 : Heap) (n0 : Nat) (v : Option Value) (h : Heap) (L : List Loc) : Prop := v = some (.int 0) ∧ Fr n0 L ∧ h = h0
theorem d2_0 : decode jdk_42_method_152_code 0 = .ok (.getstatic 38, 3) := by decide +kernel
theorem d2_3 : decode jdk_42_method_152_code 3 = .ok (.ifCond .eq 10, 3) := by decide +kernel
theorem d2_6 : decode jdk_42_method_152_code 6 = .ok (.aload_n 0, 1) := by decide +kernel
theorem d2_7 : decode jdk_42_method_152_code 7 = .ok (.getfield 15, 3) := by decide +kernel
theorem d2_10 : decode jdk_42_method_152_code 10 = .ok (.goto 4, 3) := by decide +kernel
theorem d2_14 : decode jdk_42_method_152_code 14 = .ok (.ireturn, 1) := by decide +kernel
set_option maxRecDepth 65536 in
set_option maxHeartbeats 40000000 in
theorem rm_Qcd (l : Launch) (Z : State) (a0 : Array Value) (hw : ∀ d ∈ tables_1, d.before a0 Z = true) (o ar : Addr) (cs : Int32) (ci ca : Addr) (h0 : Heap) (n0 : Nat) (Z0 : n0 ≤ h0.size) (Od : Old Z n0 h0) (SS : own_SS Z cs ci ca) (Es_o : Exa Z h0 o "java/lang/String") (Fc_o : Fld Z h0 o "java/lang/String" "coder" "B" (.int 0)) (Fv_o : Fld Z h0 o "java/lang/String" "value" "[B" (.ref ar)) :
    own_MG l Z ((⟨"java/lang/String", "coder", "()B"⟩ : MethodName)) jdk_42_method_152_code 1 (some .byte) ({ frames := 0, cells := 0, slots := 0, locals := 0 } : Room) #[(.ref o)] h0 (Qcd Z o ar cs ci ca h0 n0) := by
  refine own_mkG (plainFor_of_name pn_java_lang_String) ?_
  intro p e s m below meth c s₁ X0 hx hby hml hown hnm hret hlk hZ e0
  have N0 := Fr.nil n0
  rw [ef_R1 m o]
  obtain ⟨T1, X1, e1, st1⟩ := getS2 (host := "") X0 hx hZ hown (Or.inl (hw _ (own_mt 41 rfl))) Via.refl e0 (SS.1.ext Od.2) (g := (mkF m 0 #[vR o] [])) rfl (hb hby d2_0)
  refine own_vF m T1 3 #[vR o] [(.int cs)] (fun t k => st1 t k) ?_
  refine own_vF m T1 6 #[vR o] [] (fun t k => XS.ifNo X1.here hx rfl (hb hby d2_3) rfl ((if0 _ _).trans (feq SS.2.1).1) k) ?_
  refine own_vF m T1 7 #[vR o] [(.ref o)] (fun t k => XS.aloadN X1.here hx rfl (hb hby d2_6) rfl rfl k) ?_
  obtain ⟨T2, X2, e2, st2⟩ := getF (host := "") X1 hx hZ hown (Or.inl (hw _ (own_mt 42 rfl))) Via.refl e1 Fc_o (g := (mkF m 7 #[vR o] [(.ref o)])) rfl rfl (hb hby d2_7)
  refine own_vF m T2 10 #[vR o] [(.int 0)] (fun t k => st2 t k) ?_
  refine own_vF m T2 14 #[vR o] [(.int 0)] (fun t k => XS.goto X2.here hx rfl (pc0 := 10) (pc' := 14) rfl (hb hby d2_10) (by decide) (by decide) k) ?_
  exact own_ret X2 (v := some (.int 0)) (fun h => by rw [hret] at h; cases h) hlk (fun fs hr => retN X2 hx (t := .byte) hret (by simp) (hb hby d2_14) hr) (by rw [e2]; exact ⟨rfl, N0, rfl⟩) (by decide) (by decide)
def Qln1 (Z : State) (o ar : Addr) (cs : Int32) (ci ca : Addr) (h0 : Heap) (n0 : Nat) (v : Option Value) (h : Heap) (L : List Loc) : Prop := v = some (.int 1) ∧ Fr n0 L ∧ h = h0
theorem d3_0 : decode jdk_42_method_54_code 0 = .ok (.aload_n 0, 1) := by decide +kernel
theorem d3_1 : decode jdk_42_method_54_code 1 = .ok (.getfield 9, 3) := by decide +kernel
theorem d3_4 : decode jdk_42_method_54_code 4 = .ok (.arraylength, 1) := by decide +kernel
theorem d3_5 : decode jdk_42_method_54_code 5 = .ok (.aload_n 0, 1) := by decide +kernel
theorem pd___B : parseMethodDescriptor "()B" = some ⟨[], some .byte⟩ := by decide +kernel
theorem d3_6 : decode jdk_42_method_54_code 6 = .ok (.invokevirtual 335, 3) := by decide +kernel
theorem d3_9 : decode jdk_42_method_54_code 9 = .ok (.ishr, 1) := by decide +kernel
theorem d3_10 : decode jdk_42_method_54_code 10 = .ok (.ireturn, 1) := by decide +kernel
set_option maxRecDepth 65536 in
set_option maxHeartbeats 40000000 in
theorem rm_Qln1 (l : Launch) (Z : State) (a0 : Array Value) (hw : ∀ d ∈ tables_1, d.before a0 Z = true) (o ar : Addr) (cs : Int32) (ci ca : Addr) (h0 : Heap) (n0 : Nat) (Z0 : n0 ≤ h0.size) (Od : Old Z n0 h0) (SS : own_SS Z cs ci ca) (Es_o : Exa Z h0 o "java/lang/String") (Fc_o : Fld Z h0 o "java/lang/String" "coder" "B" (.int 0)) (Fv_o : Fld Z h0 o "java/lang/String" "value" "[B" (.ref ar)) (Vb_ar : own_By Z h0 ar (1 : Int32)) :
    own_MG l Z ((⟨"java/lang/String", "length", "()I"⟩ : MethodName)) jdk_42_method_54_code 1 (some .int) ({ frames := 1, cells := 0, slots := 0, locals := 13 } : Room) #[(.ref o)] h0 (Qln1 Z o ar cs ci ca h0 n0) := by
  refine own_mkG (plainFor_of_name pn_java_lang_String) ?_
  intro p e s m below meth c s₁ X0 hx hby hml hown hnm hret hlk hZ e0
  have N0 := Fr.nil n0
  rw [ef_R1 m o]
  refine own_vF m s₁ 1 #[vR o] [(.ref o)] (fun t k => XS.aloadN X0.here hx rfl (hb hby d3_0) rfl rfl k) ?_
  obtain ⟨T1, X1, e1, st1⟩ := getF (host := "") X0 hx hZ hown (Or.inl (hw _ (own_mt 43 rfl))) Via.refl e0 Fv_o (g := (mkF m 1 #[vR o] [(.ref o)])) rfl rfl (hb hby d3_1)
  refine own_vF m T1 4 #[vR o] [(.ref ar)] (fun t k => st1 t k) ?_
  obtain ⟨-, -, ⟨c2, Ar2, q2a, q2b, q2c, q2d, q2e⟩, -⟩ := id Vb_ar
  refine own_vF m T1 5 #[vR o] [(.int 1)] (fun t k => (fun t k => X1.arraylength hx (by rw [e1]; exact Ar2.1) (State.isArrayOf_alike hZ.alike Ar2.2.1) (g := (mkF m 4 #[vR o] [(.ref ar)])) rfl rfl (hb hby d3_4) t (by rw [len_of q2b q2c]; exact k)) t k) ?_
  refine own_vF m T1 6 #[vR o] [(.ref o), (.int 1)] (fun t k => XS.aloadN X1.here hx rfl (hb hby d3_5) rfl rfl k) ?_
  obtain ⟨_, T3, L3, X3, hQ3, st3⟩ := own_callV X1 hx hZ (y := (⟨"java/lang/String", "coder", "()B"⟩ : MethodName)) (W := 1) (C := "java/lang/String") hown (hw _ (own_mt 69 rfl)) (hw _ (own_mt 70 rfl)) (hw _ (own_mt 72 rfl)) (hw _ (own_mt 71 rfl)) (hw _ (own_mt 6 rfl)) (hw _ (own_mt 73 rfl)) (by decide) (rm_Qcd l Z a0 hw o ar cs ci ca h0 n0 Z0 Od SS Es_o Fc_o Fv_o) (by decide) (by decide) e1 Es_o (g := (mkF m 6 #[vR o] [(.ref o), (.int 1)])) rfl (by rw [hml]; rfl) (argsL := []) (rest := [(.int 1)]) rfl (lenOf pd___B rfl) rfl own_w0 (hb hby d3_6) (by decide) (by decide)
  obtain ⟨rfl, N3q, e3⟩ := hQ3
  have N3 := Fr.app N0 N3q
  refine own_vF m T3 9 #[vR o] [(.int 0), (.int 1)] (fun t k => st3 t k) ?_
  refine own_vF m T3 10 #[vR o] [(.int ((1 : Int32) >>> ((0 : Int32) &&& 31)))] (fun t k => XS.ishr X3.here hx rfl (hb hby d3_9) rfl k) ?_
  rw [show ((1 : Int32) >>> ((0 : Int32) &&& 31)) = (1 : Int32) from by decide]
  exact own_ret X3 (v := some (.int 1)) (fun h => by rw [hret] at h; cases h) hlk (fun fs hr => retOut X3 hx (t := .int) hret rfl (Or.inl ⟨rfl, Or.inl rfl, _, rfl⟩) (hb hby d3_10) hr) (by rw [e3]; exact ⟨rfl, N3, rfl⟩) (by decide) (by decide)
def Qln16 (Z : State) (o ar : Addr) (cs : Int32) (ci ca : Addr) (h0 : Heap) (n0 : Nat) (v : Option Value) (h : Heap) (L : List Loc) : Prop := v = some (.int 16) ∧ Fr n0 L ∧ h = h0
set_option maxRecDepth 65536 in
set_option maxHeartbeats 40000000 in
theorem rm_Qln16 (l : Launch) (Z : State) (a0 : Array Value) (hw : ∀ d ∈ tables_1, d.before a0 Z = true) (o ar : Addr) (cs : Int32) (ci ca : Addr) (h0 : Heap) (n0 : Nat) (Z0 : n0 ≤ h0.size) (Od : Old Z n0 h0) (SS : own_SS Z cs ci ca) (Es_o : Exa Z h0 o "java/lang/String") (Fc_o : Fld Z h0 o "java/lang/String" "coder" "B" (.int 0)) (Fv_o : Fld Z h0 o "java/lang/String" "value" "[B" (.ref ar)) (Vb_ar : own_By Z h0 ar (16 : Int32)) :
    own_MG l Z ((⟨"java/lang/String", "length", "()I"⟩ : MethodName)) jdk_42_method_54_code 1 (some .int) ({ frames := 1, cells := 0, slots := 0, locals := 13 } : Room) #[(.ref o)] h0 (Qln16 Z o ar cs ci ca h0 n0) := by
  refine own_mkG (plainFor_of_name pn_java_lang_String) ?_
  intro p e s m below meth c s₁ X0 hx hby hml hown hnm hret hlk hZ e0
  have N0 := Fr.nil n0
  rw [ef_R1 m o]
  refine own_vF m s₁ 1 #[vR o] [(.ref o)] (fun t k => XS.aloadN X0.here hx rfl (hb hby d3_0) rfl rfl k) ?_
  obtain ⟨T1, X1, e1, st1⟩ := getF (host := "") X0 hx hZ hown (Or.inl (hw _ (own_mt 43 rfl))) Via.refl e0 Fv_o (g := (mkF m 1 #[vR o] [(.ref o)])) rfl rfl (hb hby d3_1)
  refine own_vF m T1 4 #[vR o] [(.ref ar)] (fun t k => st1 t k) ?_
  obtain ⟨-, -, ⟨c2, Ar2, q2a, q2b, q2c, q2d, q2e⟩, -⟩ := id Vb_ar
  refine own_vF m T1 5 #[vR o] [(.int 16)] (fun t k => (fun t k => X1.arraylength hx (by rw [e1]; exact Ar2.1) (State.isArrayOf_alike hZ.alike Ar2.2.1) (g := (mkF m 4 #[vR o] [(.ref ar)])) rfl rfl (hb hby d3_4) t (by rw [len_of q2b q2c]; exact k)) t k) ?_
  refine own_vF m T1 6 #[vR o] [(.ref o), (.int 16)] (fun t k => XS.aloadN X1.here hx rfl (hb hby d3_5) rfl rfl k) ?_
  obtain ⟨_, T3, L3, X3, hQ3, st3⟩ := own_callV X1 hx hZ (y := (⟨"java/lang/String", "coder", "()B"⟩ : MethodName)) (W := 1) (C := "java/lang/String") hown (hw _ (own_mt 69 rfl)) (hw _ (own_mt 70 rfl)) (hw _ (own_mt 72 rfl)) (hw _ (own_mt 71 rfl)) (hw _ (own_mt 6 rfl)) (hw _ (own_mt 73 rfl)) (by decide) (rm_Qcd l Z a0 hw o ar cs ci ca h0 n0 Z0 Od SS Es_o Fc_o Fv_o) (by decide) (by decide) e1 Es_o (g := (mkF m 6 #[vR o] [(.ref o), (.int 16)])) rfl (by rw [hml]; rfl) (argsL := []) (rest := [(.int 16)]) rfl (lenOf pd___B rfl) rfl own_w0 (hb hby d3_6) (by decide) (by decide)
  obtain ⟨rfl, N3q, e3⟩ := hQ3
  have N3 := Fr.app N0 N3q
  refine own_vF m T3 9 #[vR o] [(.int 0), (.int 16)] (fun t k => st3 t k) ?_
  refine own_vF m T3 10 #[vR o] [(.int ((16 : Int32) >>> ((0 : Int32) &&& 31)))] (fun t k => XS.ishr X3.here hx rfl (hb hby d3_9) rfl k) ?_
  rw [show ((16 : Int32) >>> ((0 : Int32) &&& 31)) = (16 : Int32) from by decide]
  exact own_ret X3 (v := some (.int 16)) (fun h => by rw [hret] at h; cases h) hlk (fun fs hr => retOut X3 hx (t := .int) hret rfl (Or.inl ⟨rfl, Or.inl rfl, _, rfl⟩) (hb hby d3_10) hr) (by rw [e3]; exact ⟨rfl, N3, rfl⟩) (by decide) (by decide)
def Qln21 (Z : State) (o ar : Addr) (cs : Int32) (ci ca : Addr) (h0 : Heap) (n0 : Nat) (v : Option Value) (h : Heap) (L : List Loc) : Prop := v = some (.int 21) ∧ Fr n0 L ∧ h = h0
set_option maxRecDepth 65536 in
set_option maxHeartbeats 40000000 in
theorem rm_Qln21 (l : Launch) (Z : State) (a0 : Array Value) (hw : ∀ d ∈ tables_1, d.before a0 Z = true) (o ar : Addr) (cs : Int32) (ci ca : Addr) (h0 : Heap) (n0 : Nat) (Z0 : n0 ≤ h0.size) (Od : Old Z n0 h0) (SS : own_SS Z cs ci ca) (Es_o : Exa Z h0 o "java/lang/String") (Fc_o : Fld Z h0 o "java/lang/String" "coder" "B" (.int 0)) (Fv_o : Fld Z h0 o "java/lang/String" "value" "[B" (.ref ar)) (Vb_ar : own_By Z h0 ar (21 : Int32)) :
    own_MG l Z ((⟨"java/lang/String", "length", "()I"⟩ : MethodName)) jdk_42_method_54_code 1 (some .int) ({ frames := 1, cells := 0, slots := 0, locals := 13 } : Room) #[(.ref o)] h0 (Qln21 Z o ar cs ci ca h0 n0) := by
  refine own_mkG (plainFor_of_name pn_java_lang_String) ?_
  intro p e s m below meth c s₁ X0 hx hby hml hown hnm hret hlk hZ e0
  have N0 := Fr.nil n0
  rw [ef_R1 m o]
  refine own_vF m s₁ 1 #[vR o] [(.ref o)] (fun t k => XS.aloadN X0.here hx rfl (hb hby d3_0) rfl rfl k) ?_
  obtain ⟨T1, X1, e1, st1⟩ := getF (host := "") X0 hx hZ hown (Or.inl (hw _ (own_mt 43 rfl))) Via.refl e0 Fv_o (g := (mkF m 1 #[vR o] [(.ref o)])) rfl rfl (hb hby d3_1)
  refine own_vF m T1 4 #[vR o] [(.ref ar)] (fun t k => st1 t k) ?_
  obtain ⟨-, -, ⟨c2, Ar2, q2a, q2b, q2c, q2d, q2e⟩, -⟩ := id Vb_ar
  refine own_vF m T1 5 #[vR o] [(.int 21)] (fun t k => (fun t k => X1.arraylength hx (by rw [e1]; exact Ar2.1) (State.isArrayOf_alike hZ.alike Ar2.2.1) (g := (mkF m 4 #[vR o] [(.ref ar)])) rfl rfl (hb hby d3_4) t (by rw [len_of q2b q2c]; exact k)) t k) ?_
  refine own_vF m T1 6 #[vR o] [(.ref o), (.int 21)] (fun t k => XS.aloadN X1.here hx rfl (hb hby d3_5) rfl rfl k) ?_
  obtain ⟨_, T3, L3, X3, hQ3, st3⟩ := own_callV X1 hx hZ (y := (⟨"java/lang/String", "coder", "()B"⟩ : MethodName)) (W := 1) (C := "java/lang/String") hown (hw _ (own_mt 69 rfl)) (hw _ (own_mt 70 rfl)) (hw _ (own_mt 72 rfl)) (hw _ (own_mt 71 rfl)) (hw _ (own_mt 6 rfl)) (hw _ (own_mt 73 rfl)) (by decide) (rm_Qcd l Z a0 hw o ar cs ci ca h0 n0 Z0 Od SS Es_o Fc_o Fv_o) (by decide) (by decide) e1 Es_o (g := (mkF m 6 #[vR o] [(.ref o), (.int 21)])) rfl (by rw [hml]; rfl) (argsL := []) (rest := [(.int 21)]) rfl (lenOf pd___B rfl) rfl own_w0 (hb hby d3_6) (by decide) (by decide)
  obtain ⟨rfl, N3q, e3⟩ := hQ3
  have N3 := Fr.app N0 N3q
  refine own_vF m T3 9 #[vR o] [(.int 0), (.int 21)] (fun t k => st3 t k) ?_
  refine own_vF m T3 10 #[vR o] [(.int ((21 : Int32) >>> ((0 : Int32) &&& 31)))] (fun t k => XS.ishr X3.here hx rfl (hb hby d3_9) rfl k) ?_
  rw [show ((21 : Int32) >>> ((0 : Int32) &&& 31)) = (21 : Int32) from by decide]
  exact own_ret X3 (v := some (.int 21)) (fun h => by rw [hret] at h; cases h) hlk (fun fs hr => retOut X3 hx (t := .int) hret rfl (Or.inl ⟨rfl, Or.inl rfl, _, rfl⟩) (hb hby d3_10) hr) (by rw [e3]; exact ⟨rfl, N3, rfl⟩) (by decide) (by decide)
def Qmax (Z : State) (x1 x2 : Int32) (h0 : Heap) (n0 : Nat) (v : Option Value) (h : Heap) (L : List Loc) : Prop := v = some (.int (if x1 < x2 then x2 else x1)) ∧ Fr n0 L ∧ h = h0
theorem d4_0 : decode jdk_29_method_65_code 0 = .ok (.iload_n 0, 1) := by decide +kernel
theorem d4_1 : decode jdk_29_method_65_code 1 = .ok (.iload_n 1, 1) := by decide +kernel
theorem d4_2 : decode jdk_29_method_65_code 2 = .ok (.if_icmp .lt 7, 3) := by decide +kernel
theorem d4_9 : decode jdk_29_method_65_code 9 = .ok (.iload_n 1, 1) := by decide +kernel
theorem d4_10 : decode jdk_29_method_65_code 10 = .ok (.ireturn, 1) := by decide +kernel
theorem d4_5 : decode jdk_29_method_65_code 5 = .ok (.iload_n 0, 1) := by decide +kernel
theorem d4_6 : decode jdk_29_method_65_code 6 = .ok (.goto 4, 3) := by decide +kernel
theorem ef_II2 (m : MethodId) (x0 : Int32) (x1 : Int32) : entryFrame m #[(.int x0), (.int x1)] 2 = mkF m 0 #[vI x0, vI x1] [] := by first | (simp [entryFrame, mkF, argsToLocals, Value.category]; done) | rfl
set_option maxRecDepth 65536 in
set_option maxHeartbeats 40000000 in
theorem rm_Qmax (l : Launch) (Z : State) (a0 : Array Value) (hw : ∀ d ∈ tables_1, d.before a0 Z = true) (x1 x2 : Int32) (h0 : Heap) (n0 : Nat) (Z0 : n0 ≤ h0.size) :
    own_MG l Z ((⟨"java/lang/Math", "max", "(II)I"⟩ : MethodName)) jdk_29_method_65_code 2 (some .int) ({ frames := 0, cells := 0, slots := 0, locals := 0 } : Room) #[(.int x1), (.int x2)] h0 (Qmax Z x1 x2 h0 n0) := by
  refine own_mkG (Jvm.Free.JP.mathPlain rfl (by decide +kernel)) ?_
  intro p e s m below meth c s₁ X0 hx hby hml hown hnm hret hlk hZ e0
  have N0 := Fr.nil n0
  rw [ef_II2 m x1 x2]
  refine own_vF m s₁ 1 #[vI x1, vI x2] [(.int x1)] (fun t k => XS.iloadN X0.here hx rfl (hb hby d4_0) rfl k) ?_
  refine own_vF m s₁ 2 #[vI x1, vI x2] [(.int x2), (.int x1)] (fun t k => XS.iloadN X0.here hx rfl (hb hby d4_1) rfl k) ?_
  by_cases hc1 : x1 < x2
  case pos =>
    refine own_vF m s₁ 9 #[vI x1, vI x2] [] (fun t k => XS.icmpYes X0.here hx rfl (pc0 := 2) (pc' := 9) rfl (hb hby d4_2) rfl (tlt hc1).1 (by decide) (by decide) k) ?_
    refine own_vF m s₁ 10 #[vI x1, vI x2] [(.int x2)] (fun t k => XS.iloadN X0.here hx rfl (hb hby d4_9) rfl k) ?_
    exact own_ret X0 (v := some (.int x2)) (fun h => by rw [hret] at h; cases h) hlk (fun fs hr => retOut X0 hx (t := .int) hret rfl (Or.inl ⟨rfl, Or.inl rfl, _, rfl⟩) (hb hby d4_10) hr) (by rw [e0]; exact ⟨by first | rfl | (simp only [if_pos hc1]), N0, rfl⟩) (by decide) (by decide)
  case neg =>
    refine own_vF m s₁ 5 #[vI x1, vI x2] [] (fun t k => XS.icmpNo X0.here hx rfl (hb hby d4_2) rfl (flt hc1).1 k) ?_
    refine own_vF m s₁ 6 #[vI x1, vI x2] [(.int x1)] (fun t k => XS.iloadN X0.here hx rfl (hb hby d4_5) rfl k) ?_
    refine own_vF m s₁ 10 #[vI x1, vI x2] [(.int x1)] (fun t k => XS.goto X0.here hx rfl (pc0 := 6) (pc' := 10) rfl (hb hby d4_6) (by decide) (by decide) k) ?_
    exact own_ret X0 (v := some (.int x1)) (fun h => by rw [hret] at h; cases h) hlk (fun fs hr => retOut X0 hx (t := .int) hret rfl (Or.inl ⟨rfl, Or.inl rfl, _, rfl⟩) (hb hby d4_10) hr) (by rw [e0]; exact ⟨by first | rfl | (simp only [if_neg hc1]), N0, rfl⟩) (by decide) (by decide)
def Qmin (Z : State) (x1 x2 : Int32) (h0 : Heap) (n0 : Nat) (v : Option Value) (h : Heap) (L : List Loc) : Prop := v = some (.int (if x2 < x1 then x2 else x1)) ∧ Fr n0 L ∧ h = h0
theorem d5_0 : decode jdk_29_method_69_code 0 = .ok (.iload_n 0, 1) := by decide +kernel
theorem d5_1 : decode jdk_29_method_69_code 1 = .ok (.iload_n 1, 1) := by decide +kernel
theorem d5_2 : decode jdk_29_method_69_code 2 = .ok (.if_icmp .gt 7, 3) := by decide +kernel
theorem d5_9 : decode jdk_29_method_69_code 9 = .ok (.iload_n 1, 1) := by decide +kernel
theorem d5_10 : decode jdk_29_method_69_code 10 = .ok (.ireturn, 1) := by decide +kernel
theorem d5_5 : decode jdk_29_method_69_code 5 = .ok (.iload_n 0, 1) := by decide +kernel
theorem d5_6 : decode jdk_29_method_69_code 6 = .ok (.goto 4, 3) := by decide +kernel
set_option maxRecDepth 65536 in
set_option maxHeartbeats 40000000 in
theorem rm_Qmin (l : Launch) (Z : State) (a0 : Array Value) (hw : ∀ d ∈ tables_1, d.before a0 Z = true) (x1 x2 : Int32) (h0 : Heap) (n0 : Nat) (Z0 : n0 ≤ h0.size) :
    own_MG l Z ((⟨"java/lang/Math", "min", "(II)I"⟩ : MethodName)) jdk_29_method_69_code 2 (some .int) ({ frames := 0, cells := 0, slots := 0, locals := 0 } : Room) #[(.int x1), (.int x2)] h0 (Qmin Z x1 x2 h0 n0) := by
  refine own_mkG (Jvm.Free.JP.mathPlain rfl (by decide +kernel)) ?_
  intro p e s m below meth c s₁ X0 hx hby hml hown hnm hret hlk hZ e0
  have N0 := Fr.nil n0
  rw [ef_II2 m x1 x2]
  refine own_vF m s₁ 1 #[vI x1, vI x2] [(.int x1)] (fun t k => XS.iloadN X0.here hx rfl (hb hby d5_0) rfl k) ?_
  refine own_vF m s₁ 2 #[vI x1, vI x2] [(.int x2), (.int x1)] (fun t k => XS.iloadN X0.here hx rfl (hb hby d5_1) rfl k) ?_
  by_cases hc1 : x2 < x1
  case pos =>
    refine own_vF m s₁ 9 #[vI x1, vI x2] [] (fun t k => XS.icmpYes X0.here hx rfl (pc0 := 2) (pc' := 9) rfl (hb hby d5_2) rfl (tlt hc1).2.2.1 (by decide) (by decide) k) ?_
    refine own_vF m s₁ 10 #[vI x1, vI x2] [(.int x2)] (fun t k => XS.iloadN X0.here hx rfl (hb hby d5_9) rfl k) ?_
    exact own_ret X0 (v := some (.int x2)) (fun h => by rw [hret] at h; cases h) hlk (fun fs hr => retOut X0 hx (t := .int) hret rfl (Or.inl ⟨rfl, Or.inl rfl, _, rfl⟩) (hb hby d5_10) hr) (by rw [e0]; exact ⟨by first | rfl | (simp only [if_pos hc1]), N0, rfl⟩) (by decide) (by decide)
  case neg =>
    refine own_vF m s₁ 5 #[vI x1, vI x2] [] (fun t k => XS.icmpNo X0.here hx rfl (hb hby d5_2) rfl (flt hc1).2.2.1 k) ?_
    refine own_vF m s₁ 6 #[vI x1, vI x2] [(.int x1)] (fun t k => XS.iloadN X0.here hx rfl (hb hby d5_5) rfl k) ?_
    refine own_vF m s₁ 10 #[vI x1, vI x2] [(.int x1)] (fun t k => XS.goto X0.here hx rfl (pc0 := 6) (pc' := 10) rfl (hb hby d5_6) (by decide) (by decide) k) ?_
    exact own_ret X0 (v := some (.int x1)) (fun h => by rw [hret] at h; cases h) hlk (fun fs hr => retOut X0 hx (t := .int) hret rfl (Or.inl ⟨rfl, Or.inl rfl, _, rfl⟩) (hb hby d5_10) hr) (by rw [e0]; exact ⟨by first | rfl | (simp only [if_neg hc1]), N0, rfl⟩) (by decide) (by decide)
def Qgc (Z : State) (ar : Addr) (kk : ClassId) (h0 : Heap) (n0 : Nat) (v : Option Value) (h : Heap) (L : List Loc) : Prop := v = some (.int 70) ∧ Fr n0 L ∧ h = h0
theorem d6_0 : decode jdk_43_method_44_code 0 = .ok (.aload_n 0, 1) := by decide +kernel
theorem d6_1 : decode jdk_43_method_44_code 1 = .ok (.iload_n 1, 1) := by decide +kernel
theorem d6_2 : decode jdk_43_method_44_code 2 = .ok (.baload, 1) := by decide +kernel
theorem d6_3 : decode jdk_43_method_44_code 3 = .ok (.sipush 255, 3) := by decide +kernel
theorem d6_6 : decode jdk_43_method_44_code 6 = .ok (.iand, 1) := by decide +kernel
theorem d6_7 : decode jdk_43_method_44_code 7 = .ok (.i2c, 1) := by decide +kernel
theorem d6_8 : decode jdk_43_method_44_code 8 = .ok (.ireturn, 1) := by decide +kernel
theorem ef_RI2 (m : MethodId) (x0 : Addr) (x1 : Int32) : entryFrame m #[(.ref x0), (.int x1)] 2 = mkF m 0 #[vR x0, vI x1] [] := by first | (simp [entryFrame, mkF, argsToLocals, Value.category]; done) | rfl
theorem pn_java_lang_StringLatin1 : plainName "java/lang/StringLatin1" = true := by first | (simp [plainName, overriddenIn]; done) | decide +kernel
set_option maxRecDepth 65536 in
set_option maxHeartbeats 40000000 in
theorem rm_Qgc (l : Launch) (Z : State) (a0 : Array Value) (hw : ∀ d ∈ tables_1, d.before a0 Z = true) (ar : Addr) (kk : ClassId) (h0 : Heap) (n0 : Nat) (Z0 : n0 ≤ h0.size) (Vb_ar : Arv Z h0 ar kk .byte (1 : Int32) [.int 70] (.int 0)) :
    own_MG l Z ((⟨"java/lang/StringLatin1", "getChar", "([BI)C"⟩ : MethodName)) jdk_43_method_44_code 2 (some .char) ({ frames := 0, cells := 0, slots := 0, locals := 0 } : Room) #[(.ref ar), (.int 0)] h0 (Qgc Z ar kk h0 n0) := by
  refine own_mkG (plainFor_of_name pn_java_lang_StringLatin1) ?_
  intro p e s m below meth c s₁ X0 hx hby hml hown hnm hret hlk hZ e0
  have N0 := Fr.nil n0
  rw [ef_RI2 m ar (0 : Int32)]
  refine own_vF m s₁ 1 #[vR ar, vI (0 : Int32)] [(.ref ar)] (fun t k => XS.aloadN X0.here hx rfl (hb hby d6_0) rfl rfl k) ?_
  refine own_vF m s₁ 2 #[vR ar, vI (0 : Int32)] [(.int 0), (.ref ar)] (fun t k => XS.iloadN X0.here hx rfl (hb hby d6_1) rfl k) ?_
  obtain ⟨c1, Ar1, q1a, q1b, q1c, q1d, q1e⟩ := id Vb_ar
  refine own_vF m s₁ 3 #[vR ar, vI (0 : Int32)] [(.int 70)] (fun t k => X0.baloadBytes hx (j := (0 : Int32)) (v := (.int 70)) (by rw [e0]; exact Ar1.1) (State.isArrayOf_alike hZ.alike Ar1.2.1) Ar1.2.2 (inb_of q1b (by decide)) (q1d.at (inb_of q1b (by decide)) rfl) (g := (mkF m 2 #[vR ar, vI (0 : Int32)] [(.int 0), (.ref ar)])) rfl rfl (hb hby d6_2) _ k) ?_
  refine own_vF m s₁ 6 #[vR ar, vI (0 : Int32)] [(.int 255), (.int 70)] (fun t k => XS.sipush X0.here hx rfl (hb hby d6_3) k) ?_
  refine own_vF m s₁ 7 #[vR ar, vI (0 : Int32)] [(.int ((70 : Int32) &&& (255 : Int32)))] (fun t k => XS.iand X0.here hx rfl (hb hby d6_6) rfl k) ?_
  rw [show ((70 : Int32) &&& (255 : Int32)) = (70 : Int32) from by decide]
  refine own_vF m s₁ 8 #[vR ar, vI (0 : Int32)] [(.int ((70 : Int32).toUInt32.toUInt16.toUInt32.toInt32))] (fun t k => XS.i2c X0.here hx rfl (hb hby d6_7) rfl k) ?_
  rw [show ((70 : Int32).toUInt32.toUInt16.toUInt32.toInt32) = (70 : Int32) from by decide]
  exact own_ret X0 (v := some (.int 70)) (fun h => by rw [hret] at h; cases h) hlk (fun fs hr => retN X0 hx (t := .char) hret (by simp) (hb hby d6_8) hr) (by rw [e0]; exact ⟨rfl, N0, rfl⟩) (by decide) (by decide)
def Qgp (Z : State) (cs : Int32) (ci ca : Addr) (h0 : Heap) (n0 : Nat) (v : Option Value) (h : Heap) (L : List Loc) : Prop := v = some (.int 8552417) ∧ Fr n0 L ∧ h = h0
theorem d7_0 : decode jdk_116_method_1_code 0 = .ok (.iload_n 1, 1) := by decide +kernel
theorem d7_1 : decode jdk_116_method_1_code 1 = .ok (.i2c, 1) := by decide +kernel
theorem d7_2 : decode jdk_116_method_1_code 2 = .ok (.istore_n 2, 1) := by decide +kernel
theorem d7_3 : decode jdk_116_method_1_code 3 = .ok (.getstatic 1, 3) := by decide +kernel
theorem d7_6 : decode jdk_116_method_1_code 6 = .ok (.iload_n 2, 1) := by decide +kernel
theorem d7_7 : decode jdk_116_method_1_code 7 = .ok (.iaload, 1) := by decide +kernel
theorem d7_8 : decode jdk_116_method_1_code 8 = .ok (.istore_n 3, 1) := by decide +kernel
theorem d7_9 : decode jdk_116_method_1_code 9 = .ok (.iload_n 3, 1) := by decide +kernel
theorem d7_10 : decode jdk_116_method_1_code 10 = .ok (.ireturn, 1) := by decide +kernel
theorem ef_RI4 (m : MethodId) (x0 : Addr) (x1 : Int32) : entryFrame m #[(.ref x0), (.int x1)] 4 = mkF m 0 #[vR x0, vI x1, .unset, .unset] [] := by first | (simp [entryFrame, mkF, argsToLocals, Value.category]; done) | rfl
theorem pn_java_lang_CharacterDataLatin1 : plainName "java/lang/CharacterDataLatin1" = true := by first | (simp [plainName, overriddenIn]; done) | decide +kernel
set_option maxRecDepth 65536 in
set_option maxHeartbeats 40000000 in
theorem rm_Qgp (l : Launch) (Z : State) (a0 : Array Value) (hw : ∀ d ∈ tables_1, d.before a0 Z = true) (cs : Int32) (ci ca : Addr) (h0 : Heap) (n0 : Nat) (Z0 : n0 ≤ h0.size) (Od : Old Z n0 h0) (SS : own_SS Z cs ci ca) :
    own_MG l Z ((⟨"java/lang/CharacterDataLatin1", "getProperties", "(I)I"⟩ : MethodName)) jdk_116_method_1_code 4 (some .int) ({ frames := 0, cells := 0, slots := 0, locals := 0 } : Room) #[(.ref ci), (.int 70)] h0 (Qgp Z cs ci ca h0 n0) := by
  refine own_mkG (plainFor_of_name pn_java_lang_CharacterDataLatin1) ?_
  intro p e s m below meth c s₁ X0 hx hby hml hown hnm hret hlk hZ e0
  have N0 := Fr.nil n0
  rw [ef_RI4 m ci (70 : Int32)]
  refine own_vF m s₁ 1 #[vR ci, vI (70 : Int32), .unset, .unset] [(.int 70)] (fun t k => XS.iloadN X0.here hx rfl (hb hby d7_0) rfl k) ?_
  refine own_vF m s₁ 2 #[vR ci, vI (70 : Int32), .unset, .unset] [(.int ((70 : Int32).toUInt32.toUInt16.toUInt32.toInt32))] (fun t k => XS.i2c X0.here hx rfl (hb hby d7_1) rfl k) ?_
  rw [show ((70 : Int32).toUInt32.toUInt16.toUInt32.toInt32) = (70 : Int32) from by decide]
  refine own_vF m s₁ 3 #[vR ci, vI (70 : Int32), vI (70 : Int32), .unset] [] (fun t k => XS.istoreN X0.here hx rfl (hb hby d7_2) rfl (l' := #[vR ci, vI (70 : Int32), vI (70 : Int32), .unset]) rfl k) ?_
  obtain ⟨T1, X1, e1, st1⟩ := getS2 (host := "") X0 hx hZ hown (Or.inl (hw _ (own_mt 63 rfl))) Via.refl e0 (SS.2.2.2.2.1.ext Od.2) (g := (mkF m 3 #[vR ci, vI (70 : Int32), vI (70 : Int32), .unset] [])) rfl (hb hby d7_3)
  refine own_vF m T1 6 #[vR ci, vI (70 : Int32), vI (70 : Int32), .unset] [(.ref ca)] (fun t k => st1 t k) ?_
  refine own_vF m T1 7 #[vR ci, vI (70 : Int32), vI (70 : Int32), .unset] [(.int 70), (.ref ca)] (fun t k => XS.iloadN X1.here hx rfl (hb hby d7_6) rfl k) ?_
  obtain ⟨cA, Ac0, hin, hat⟩ := SS.2.2.2.2.2.ext Od.2
  refine own_vF m T1 8 #[vR ci, vI (70 : Int32), vI (70 : Int32), .unset] [(.int 8552417)] (fun t k => X1.iaload hx (j := (70 : Int32)) (v := (.int 8552417)) (by rw [e1]; exact Ac0.1) (State.isArrayOf_alike hZ.alike Ac0.2.1) Ac0.2.2 hin hat (g := (mkF m 7 #[vR ci, vI (70 : Int32), vI (70 : Int32), .unset] [(.int 70), (.ref ca)])) rfl rfl (hb hby d7_7) _ k) ?_
  refine own_vF m T1 9 #[vR ci, vI (70 : Int32), vI (70 : Int32), vI (8552417 : Int32)] [] (fun t k => XS.istoreN X1.here hx rfl (hb hby d7_8) rfl (l' := #[vR ci, vI (70 : Int32), vI (70 : Int32), vI (8552417 : Int32)]) rfl k) ?_
  refine own_vF m T1 10 #[vR ci, vI (70 : Int32), vI (70 : Int32), vI (8552417 : Int32)] [(.int 8552417)] (fun t k => XS.iloadN X1.here hx rfl (hb hby d7_9) rfl k) ?_
  exact own_ret X1 (v := some (.int 8552417)) (fun h => by rw [hret] at h; cases h) hlk (fun fs hr => retOut X1 hx (t := .int) hret rfl (Or.inl ⟨rfl, Or.inl rfl, _, rfl⟩) (hb hby d7_10) hr) (by rw [e1]; exact ⟨rfl, N0, rfl⟩) (by decide) (by decide)
def Qiw (Z : State) (cs : Int32) (ci ca : Addr) (h0 : Heap) (n0 : Nat) (v : Option Value) (h : Heap) (L : List Loc) : Prop := v = some (.int 0) ∧ Fr n0 L ∧ h = h0
theorem d8_0 : decode jdk_116_method_26_code 0 = .ok (.aload_n 0, 1) := by decide +kernel
theorem d8_1 : decode jdk_116_method_26_code 1 = .ok (.iload_n 1, 1) := by decide +kernel
theorem pd_I__I : parseMethodDescriptor "(I)I" = some ⟨[.int], some .int⟩ := by decide +kernel
theorem d8_2 : decode jdk_116_method_26_code 2 = .ok (.invokevirtual 15, 3) := by decide +kernel
theorem d8_5 : decode jdk_116_method_26_code 5 = .ok (.istore_n 2, 1) := by decide +kernel
theorem d8_6 : decode jdk_116_method_26_code 6 = .ok (.iload_n 2, 1) := by decide +kernel
theorem d8_7 : decode jdk_116_method_26_code 7 = .ok (.sipush 28672, 3) := by decide +kernel
theorem d8_10 : decode jdk_116_method_26_code 10 = .ok (.iand, 1) := by decide +kernel
theorem d8_11 : decode jdk_116_method_26_code 11 = .ok (.sipush 16384, 3) := by decide +kernel
theorem d8_14 : decode jdk_116_method_26_code 14 = .ok (.if_icmp .ne 7, 3) := by decide +kernel
theorem d8_21 : decode jdk_116_method_26_code 21 = .ok (.iconst 0, 1) := by decide +kernel
theorem d8_22 : decode jdk_116_method_26_code 22 = .ok (.ireturn, 1) := by decide +kernel
theorem ef_RI3 (m : MethodId) (x0 : Addr) (x1 : Int32) : entryFrame m #[(.ref x0), (.int x1)] 3 = mkF m 0 #[vR x0, vI x1, .unset] [] := by first | (simp [entryFrame, mkF, argsToLocals, Value.category]; done) | rfl
set_option maxRecDepth 65536 in
set_option maxHeartbeats 40000000 in
theorem rm_Qiw (l : Launch) (Z : State) (a0 : Array Value) (hw : ∀ d ∈ tables_1, d.before a0 Z = true) (cs : Int32) (ci ca : Addr) (h0 : Heap) (n0 : Nat) (Z0 : n0 ≤ h0.size) (Od : Old Z n0 h0) (SS : own_SS Z cs ci ca) :
    own_MG l Z ((⟨"java/lang/CharacterDataLatin1", "isWhitespace", "(I)Z"⟩ : MethodName)) jdk_116_method_26_code 3 (some .boolean) ({ frames := 1, cells := 0, slots := 0, locals := 15 } : Room) #[(.ref ci), (.int 70)] h0 (Qiw Z cs ci ca h0 n0) := by
  refine own_mkG (plainFor_of_name pn_java_lang_CharacterDataLatin1) ?_
  intro p e s m below meth c s₁ X0 hx hby hml hown hnm hret hlk hZ e0
  have N0 := Fr.nil n0
  rw [ef_RI3 m ci (70 : Int32)]
  have Eci := SS.2.2.2.1.ext Od.2
  refine own_vF m s₁ 1 #[vR ci, vI (70 : Int32), .unset] [(.ref ci)] (fun t k => XS.aloadN X0.here hx rfl (hb hby d8_0) rfl rfl k) ?_
  refine own_vF m s₁ 2 #[vR ci, vI (70 : Int32), .unset] [(.int 70), (.ref ci)] (fun t k => XS.iloadN X0.here hx rfl (hb hby d8_1) rfl k) ?_
  obtain ⟨_, T1, L1, X1, hQ1, st1⟩ := own_callV X0 hx hZ (y := (⟨"java/lang/CharacterDataLatin1", "getProperties", "(I)I"⟩ : MethodName)) (W := 0) (C := "java/lang/CharacterDataLatin1") hown (hw _ (own_mt 58 rfl)) (hw _ (own_mt 59 rfl)) (hw _ (own_mt 61 rfl)) (hw _ (own_mt 60 rfl)) (hw _ (own_mt 52 rfl)) (hw _ (own_mt 62 rfl)) (by decide) (rm_Qgp l Z a0 hw cs ci ca h0 n0 Z0 Od SS) (by decide) (by decide) e0 Eci (g := (mkF m 2 #[vR ci, vI (70 : Int32), .unset] [(.int 70), (.ref ci)])) rfl (by rw [hml]; rfl) (argsL := [(.int 70)]) (rest := []) rfl (lenOf pd_I__I rfl) rfl own_w0 (hb hby d8_2) (by decide) (by decide)
  obtain ⟨rfl, N1q, e1⟩ := hQ1
  have N1 := Fr.app N0 N1q
  refine own_vF m T1 5 #[vR ci, vI (70 : Int32), .unset] [(.int 8552417)] (fun t k => st1 t k) ?_
  refine own_vF m T1 6 #[vR ci, vI (70 : Int32), vI (8552417 : Int32)] [] (fun t k => XS.istoreN X1.here hx rfl (hb hby d8_5) rfl (l' := #[vR ci, vI (70 : Int32), vI (8552417 : Int32)]) rfl k) ?_
  refine own_vF m T1 7 #[vR ci, vI (70 : Int32), vI (8552417 : Int32)] [(.int 8552417)] (fun t k => XS.iloadN X1.here hx rfl (hb hby d8_6) rfl k) ?_
  refine own_vF m T1 10 #[vR ci, vI (70 : Int32), vI (8552417 : Int32)] [(.int 28672), (.int 8552417)] (fun t k => XS.sipush X1.here hx rfl (hb hby d8_7) k) ?_
  refine own_vF m T1 11 #[vR ci, vI (70 : Int32), vI (8552417 : Int32)] [(.int ((8552417 : Int32) &&& (28672 : Int32)))] (fun t k => XS.iand X1.here hx rfl (hb hby d8_10) rfl k) ?_
  rw [show ((8552417 : Int32) &&& (28672 : Int32)) = (28672 : Int32) from by decide]
  refine own_vF m T1 14 #[vR ci, vI (70 : Int32), vI (8552417 : Int32)] [(.int 16384), (.int 28672)] (fun t k => XS.sipush X1.here hx rfl (hb hby d8_11) k) ?_
  refine own_vF m T1 21 #[vR ci, vI (70 : Int32), vI (8552417 : Int32)] [] (fun t k => XS.icmpYes X1.here hx rfl (pc0 := 14) (pc' := 21) rfl (hb hby d8_14) rfl (feq (by decide : ¬ ((28672 : Int32) = (16384 : Int32)))).2 (by decide) (by decide) k) ?_
  refine own_vF m T1 22 #[vR ci, vI (70 : Int32), vI (8552417 : Int32)] [(.int 0)] (fun t k => XS.iconst X1.here hx rfl (hb hby d8_21) k) ?_
  exact own_ret X1 (v := some (.int 0)) (fun h => by rw [hret] at h; cases h) hlk (fun fs hr => retN X1 hx (t := .boolean) hret (by simp) (hb hby d8_22) hr) (by rw [e1]; exact ⟨rfl, N1, rfl⟩) (by decide) (by decide)
def Qli (Z : State) (ar : Addr) (kk : ClassId) (cs : Int32) (ci ca : Addr) (h0 : Heap) (n0 : Nat) (v : Option Value) (h : Heap) (L : List Loc) : Prop := v = some (.int 0) ∧ Fr n0 L ∧ h = h0
theorem d9_0 : decode jdk_43_method_37_code 0 = .ok (.aload_n 0, 1) := by decide +kernel
theorem d9_1 : decode jdk_43_method_37_code 1 = .ok (.arraylength, 1) := by decide +kernel
theorem d9_2 : decode jdk_43_method_37_code 2 = .ok (.istore_n 1, 1) := by decide +kernel
theorem d9_3 : decode jdk_43_method_37_code 3 = .ok (.iconst 0, 1) := by decide +kernel
theorem d9_4 : decode jdk_43_method_37_code 4 = .ok (.istore_n 2, 1) := by decide +kernel
theorem d9_5 : decode jdk_43_method_37_code 5 = .ok (.iload_n 2, 1) := by decide +kernel
theorem d9_6 : decode jdk_43_method_37_code 6 = .ok (.iload_n 1, 1) := by decide +kernel
theorem d9_7 : decode jdk_43_method_37_code 7 = .ok (.if_icmp .ge 40, 3) := by decide +kernel
theorem d9_10 : decode jdk_43_method_37_code 10 = .ok (.aload_n 0, 1) := by decide +kernel
theorem d9_11 : decode jdk_43_method_37_code 11 = .ok (.iload_n 2, 1) := by decide +kernel
theorem pd_ABI__C : parseMethodDescriptor "([BI)C" = some ⟨[(.array .byte), .int], some .char⟩ := by decide +kernel
theorem d9_12 : decode jdk_43_method_37_code 12 = .ok (.invokestatic 50, 3) := by decide +kernel
theorem d9_15 : decode jdk_43_method_37_code 15 = .ok (.istore_n 3, 1) := by decide +kernel
theorem d9_16 : decode jdk_43_method_37_code 16 = .ok (.iload_n 3, 1) := by decide +kernel
theorem d9_17 : decode jdk_43_method_37_code 17 = .ok (.bipush 32, 2) := by decide +kernel
theorem d9_19 : decode jdk_43_method_37_code 19 = .ok (.if_icmp .eq 22, 3) := by decide +kernel
theorem d9_22 : decode jdk_43_method_37_code 22 = .ok (.iload_n 3, 1) := by decide +kernel
theorem d9_23 : decode jdk_43_method_37_code 23 = .ok (.bipush 9, 2) := by decide +kernel
theorem d9_25 : decode jdk_43_method_37_code 25 = .ok (.if_icmp .eq 16, 3) := by decide +kernel
theorem d9_28 : decode jdk_43_method_37_code 28 = .ok (.getstatic 66, 3) := by decide +kernel
theorem d9_31 : decode jdk_43_method_37_code 31 = .ok (.iload_n 3, 1) := by decide +kernel
theorem pd_I__Z : parseMethodDescriptor "(I)Z" = some ⟨[.int], some .boolean⟩ := by decide +kernel
theorem d9_32 : decode jdk_43_method_37_code 32 = .ok (.invokevirtual 211, 3) := by decide +kernel
theorem d9_35 : decode jdk_43_method_37_code 35 = .ok (.ifCond .ne 6, 3) := by decide +kernel
theorem d9_38 : decode jdk_43_method_37_code 38 = .ok (.goto 9, 3) := by decide +kernel
theorem d9_47 : decode jdk_43_method_37_code 47 = .ok (.iload_n 2, 1) := by decide +kernel
theorem d9_48 : decode jdk_43_method_37_code 48 = .ok (.ireturn, 1) := by decide +kernel
theorem ef_R4 (m : MethodId) (x0 : Addr) : entryFrame m #[(.ref x0)] 4 = mkF m 0 #[vR x0, .unset, .unset, .unset] [] := by first | (simp [entryFrame, mkF, argsToLocals, Value.category]; done) | rfl
set_option maxRecDepth 65536 in
set_option maxHeartbeats 40000000 in
theorem rm_Qli (l : Launch) (Z : State) (a0 : Array Value) (hw : ∀ d ∈ tables_1, d.before a0 Z = true) (ar : Addr) (kk : ClassId) (cs : Int32) (ci ca : Addr) (h0 : Heap) (n0 : Nat) (Z0 : n0 ≤ h0.size) (Od : Old Z n0 h0) (SS : own_SS Z cs ci ca) (Vb_ar : Arv Z h0 ar kk .byte (1 : Int32) [.int 70] (.int 0)) :
    own_MG l Z ((⟨"java/lang/StringLatin1", "indexOfNonWhitespace", "([B)I"⟩ : MethodName)) jdk_43_method_37_code 4 (some .int) ({ frames := 2, cells := 0, slots := 0, locals := 29 } : Room) #[(.ref ar)] h0 (Qli Z ar kk cs ci ca h0 n0) := by
  refine own_mkG (plainFor_of_name pn_java_lang_StringLatin1) ?_
  intro p e s m below meth c s₁ X0 hx hby hml hown hnm hret hlk hZ e0
  have N0 := Fr.nil n0
  rw [ef_R4 m ar]
  have Eci := SS.2.2.2.1.ext Od.2
  refine own_vF m s₁ 1 #[vR ar, .unset, .unset, .unset] [(.ref ar)] (fun t k => XS.aloadN X0.here hx rfl (hb hby d9_0) rfl rfl k) ?_
  obtain ⟨c1, Ar1, q1a, q1b, q1c, q1d, q1e⟩ := id Vb_ar
  refine own_vF m s₁ 2 #[vR ar, .unset, .unset, .unset] [(.int 1)] (fun t k => (fun t k => X0.arraylength hx (by rw [e0]; exact Ar1.1) (State.isArrayOf_alike hZ.alike Ar1.2.1) (g := (mkF m 1 #[vR ar, .unset, .unset, .unset] [(.ref ar)])) rfl rfl (hb hby d9_1) t (by rw [len_of q1b q1c]; exact k)) t k) ?_
  refine own_vF m s₁ 3 #[vR ar, vI (1 : Int32), .unset, .unset] [] (fun t k => XS.istoreN X0.here hx rfl (hb hby d9_2) rfl (l' := #[vR ar, vI (1 : Int32), .unset, .unset]) rfl k) ?_
  refine own_vF m s₁ 4 #[vR ar, vI (1 : Int32), .unset, .unset] [(.int 0)] (fun t k => XS.iconst X0.here hx rfl (hb hby d9_3) k) ?_
  refine own_vF m s₁ 5 #[vR ar, vI (1 : Int32), vI (0 : Int32), .unset] [] (fun t k => XS.istoreN X0.here hx rfl (hb hby d9_4) rfl (l' := #[vR ar, vI (1 : Int32), vI (0 : Int32), .unset]) rfl k) ?_
  refine own_vF m s₁ 6 #[vR ar, vI (1 : Int32), vI (0 : Int32), .unset] [(.int 0)] (fun t k => XS.iloadN X0.here hx rfl (hb hby d9_5) rfl k) ?_
  refine own_vF m s₁ 7 #[vR ar, vI (1 : Int32), vI (0 : Int32), .unset] [(.int 1), (.int 0)] (fun t k => XS.iloadN X0.here hx rfl (hb hby d9_6) rfl k) ?_
  refine own_vF m s₁ 10 #[vR ar, vI (1 : Int32), vI (0 : Int32), .unset] [] (fun t k => XS.icmpNo X0.here hx rfl (hb hby d9_7) rfl (tlt (by decide : ((0 : Int32) < (1 : Int32)))).2.1 k) ?_
  refine own_vF m s₁ 11 #[vR ar, vI (1 : Int32), vI (0 : Int32), .unset] [(.ref ar)] (fun t k => XS.aloadN X0.here hx rfl (hb hby d9_10) rfl rfl k) ?_
  refine own_vF m s₁ 12 #[vR ar, vI (1 : Int32), vI (0 : Int32), .unset] [(.int 0), (.ref ar)] (fun t k => XS.iloadN X0.here hx rfl (hb hby d9_11) rfl k) ?_
  obtain ⟨_, T2, L2, X2, hQ2, st2⟩ := own_callS X0 hx hZ (y := (⟨"java/lang/StringLatin1", "getChar", "([BI)C"⟩ : MethodName)) (W := 0) hown (hw _ (own_mt 48 rfl)) (hw _ (own_mt 49 rfl)) (hw _ (own_mt 46 rfl)) (hw _ (own_mt 50 rfl)) (by decide) (rm_Qgc l Z a0 hw ar kk h0 n0 Z0 Vb_ar) (by decide) (by decide) e0 (g := (mkF m 12 #[vR ar, vI (1 : Int32), vI (0 : Int32), .unset] [(.int 0), (.ref ar)])) rfl (by rw [hml]; rfl) (argsL := [(.ref ar), (.int 0)]) (rest := []) rfl (lenOf pd_ABI__C rfl) rfl own_w0 (hb hby d9_12) (by decide) (by decide)
  obtain ⟨rfl, N2q, e2⟩ := hQ2
  have N2 := Fr.app N0 N2q
  refine own_vF m T2 15 #[vR ar, vI (1 : Int32), vI (0 : Int32), .unset] [(.int 70)] (fun t k => st2 t k) ?_
  refine own_vF m T2 16 #[vR ar, vI (1 : Int32), vI (0 : Int32), vI (70 : Int32)] [] (fun t k => XS.istoreN X2.here hx rfl (hb hby d9_15) rfl (l' := #[vR ar, vI (1 : Int32), vI (0 : Int32), vI (70 : Int32)]) rfl k) ?_
  refine own_vF m T2 17 #[vR ar, vI (1 : Int32), vI (0 : Int32), vI (70 : Int32)] [(.int 70)] (fun t k => XS.iloadN X2.here hx rfl (hb hby d9_16) rfl k) ?_
  refine own_vF m T2 19 #[vR ar, vI (1 : Int32), vI (0 : Int32), vI (70 : Int32)] [(.int 32), (.int 70)] (fun t k => XS.bipush X2.here hx rfl (hb hby d9_17) k) ?_
  refine own_vF m T2 22 #[vR ar, vI (1 : Int32), vI (0 : Int32), vI (70 : Int32)] [] (fun t k => XS.icmpNo X2.here hx rfl (hb hby d9_19) rfl (feq (by decide : ¬ ((70 : Int32) = (32 : Int32)))).1 k) ?_
  refine own_vF m T2 23 #[vR ar, vI (1 : Int32), vI (0 : Int32), vI (70 : Int32)] [(.int 70)] (fun t k => XS.iloadN X2.here hx rfl (hb hby d9_22) rfl k) ?_
  refine own_vF m T2 25 #[vR ar, vI (1 : Int32), vI (0 : Int32), vI (70 : Int32)] [(.int 9), (.int 70)] (fun t k => XS.bipush X2.here hx rfl (hb hby d9_23) k) ?_
  refine own_vF m T2 28 #[vR ar, vI (1 : Int32), vI (0 : Int32), vI (70 : Int32)] [] (fun t k => XS.icmpNo X2.here hx rfl (hb hby d9_25) rfl (feq (by decide : ¬ ((70 : Int32) = (9 : Int32)))).1 k) ?_
  obtain ⟨T3, X3, e3, st3⟩ := getS2 (host := "") X2 hx hZ hown (Or.inl (hw _ (own_mt 51 rfl))) Via.refl e2 (SS.2.2.1.ext Od.2) (g := (mkF m 28 #[vR ar, vI (1 : Int32), vI (0 : Int32), vI (70 : Int32)] [])) rfl (hb hby d9_28)
  refine own_vF m T3 31 #[vR ar, vI (1 : Int32), vI (0 : Int32), vI (70 : Int32)] [(.ref ci)] (fun t k => st3 t k) ?_
  refine own_vF m T3 32 #[vR ar, vI (1 : Int32), vI (0 : Int32), vI (70 : Int32)] [(.int 70), (.ref ci)] (fun t k => XS.iloadN X3.here hx rfl (hb hby d9_31) rfl k) ?_
  obtain ⟨_, T4, L4, X4, hQ4, st4⟩ := own_callV X3 hx hZ (y := (⟨"java/lang/CharacterDataLatin1", "isWhitespace", "(I)Z"⟩ : MethodName)) (W := 0) (C := "java/lang/CharacterDataLatin1") hown (hw _ (own_mt 53 rfl)) (hw _ (own_mt 54 rfl)) (hw _ (own_mt 56 rfl)) (hw _ (own_mt 55 rfl)) (hw _ (own_mt 52 rfl)) (hw _ (own_mt 57 rfl)) (by decide) (rm_Qiw l Z a0 hw cs ci ca h0 n0 Z0 Od SS) (by decide) (by decide) e3 Eci (g := (mkF m 32 #[vR ar, vI (1 : Int32), vI (0 : Int32), vI (70 : Int32)] [(.int 70), (.ref ci)])) rfl (by rw [hml]; rfl) (argsL := [(.int 70)]) (rest := []) rfl (lenOf pd_I__Z rfl) rfl own_w0 (hb hby d9_32) (by decide) (by decide)
  obtain ⟨rfl, N4q, e4⟩ := hQ4
  have N4 := Fr.app N2 N4q
  refine own_vF m T4 35 #[vR ar, vI (1 : Int32), vI (0 : Int32), vI (70 : Int32)] [(.int 0)] (fun t k => st4 t k) ?_
  refine own_vF m T4 38 #[vR ar, vI (1 : Int32), vI (0 : Int32), vI (70 : Int32)] [] (fun t k => XS.ifNo X4.here hx rfl (hb hby d9_35) rfl ((if0 _ _).trans (teq (by decide : ((0 : Int32) = (0 : Int32)))).2) k) ?_
  refine own_vF m T4 47 #[vR ar, vI (1 : Int32), vI (0 : Int32), vI (70 : Int32)] [] (fun t k => XS.goto X4.here hx rfl (pc0 := 38) (pc' := 47) rfl (hb hby d9_38) (by decide) (by decide) k) ?_
  refine own_vF m T4 48 #[vR ar, vI (1 : Int32), vI (0 : Int32), vI (70 : Int32)] [(.int 0)] (fun t k => XS.iloadN X4.here hx rfl (hb hby d9_47) rfl k) ?_
  exact own_ret X4 (v := some (.int 0)) (fun h => by rw [hret] at h; cases h) hlk (fun fs hr => retOut X4 hx (t := .int) hret rfl (Or.inl ⟨rfl, Or.inl rfl, _, rfl⟩) (hb hby d9_48) hr) (by rw [e4]; exact ⟨rfl, N4, rfl⟩) (by decide) (by decide)
def Qsi (Z : State) (o ar : Addr) (kk : ClassId) (cs : Int32) (ci ca : Addr) (h0 : Heap) (n0 : Nat) (v : Option Value) (h : Heap) (L : List Loc) : Prop := v = some (.int 0) ∧ Fr n0 L ∧ h = h0
def Qbl (Z : State) (o ar : Addr) (kk : ClassId) (cs : Int32) (ci ca : Addr) (h0 : Heap) (n0 : Nat) (v : Option Value) (h : Heap) (L : List Loc) : Prop := v = some (.int 0) ∧ Fr n0 L ∧ h = h0
theorem d10_0 : decode jdk_42_method_120_code 0 = .ok (.aload_n 0, 1) := by decide +kernel
theorem pd___Z : parseMethodDescriptor "()Z" = some ⟨[], some .boolean⟩ := by decide +kernel
theorem d10_1 : decode jdk_42_method_120_code 1 = .ok (.invokevirtual 492, 3) := by decide +kernel
theorem d10_4 : decode jdk_42_method_120_code 4 = .ok (.ifCond .eq 13, 3) := by decide +kernel
theorem d10_7 : decode jdk_42_method_120_code 7 = .ok (.aload_n 0, 1) := by decide +kernel
theorem d10_8 : decode jdk_42_method_120_code 8 = .ok (.getfield 9, 3) := by decide +kernel
theorem pd_AB__I : parseMethodDescriptor "([B)I" = some ⟨[(.array .byte)], some .int⟩ := by decide +kernel
theorem d10_11 : decode jdk_42_method_120_code 11 = .ok (.invokestatic 924, 3) := by decide +kernel
theorem d10_14 : decode jdk_42_method_120_code 14 = .ok (.goto 10, 3) := by decide +kernel
theorem d10_24 : decode jdk_42_method_120_code 24 = .ok (.ireturn, 1) := by decide +kernel
set_option maxRecDepth 65536 in
set_option maxHeartbeats 40000000 in
theorem rm_Qsi (l : Launch) (Z : State) (a0 : Array Value) (hw : ∀ d ∈ tables_1, d.before a0 Z = true) (o ar : Addr) (kk : ClassId) (cs : Int32) (ci ca : Addr) (h0 : Heap) (n0 : Nat) (Z0 : n0 ≤ h0.size) (Od : Old Z n0 h0) (SS : own_SS Z cs ci ca) (Es_o : Exa Z h0 o "java/lang/String") (Fc_o : Fld Z h0 o "java/lang/String" "coder" "B" (.int 0)) (Fv_o : Fld Z h0 o "java/lang/String" "value" "[B" (.ref ar)) (Vb_ar : Arv Z h0 ar kk .byte (1 : Int32) [.int 70] (.int 0)) :
    own_MG l Z ((⟨"java/lang/String", "indexOfNonWhitespace", "()I"⟩ : MethodName)) jdk_42_method_120_code 1 (some .int) ({ frames := 3, cells := 0, slots := 0, locals := 44 } : Room) #[(.ref o)] h0 (Qsi Z o ar kk cs ci ca h0 n0) := by
  refine own_mkG (plainFor_of_name pn_java_lang_String) ?_
  intro p e s m below meth c s₁ X0 hx hby hml hown hnm hret hlk hZ e0
  have N0 := Fr.nil n0
  rw [ef_R1 m o]
  refine own_vF m s₁ 1 #[vR o] [(.ref o)] (fun t k => XS.aloadN X0.here hx rfl (hb hby d10_0) rfl rfl k) ?_
  obtain ⟨_, T1, L1, X1, hQ1, st1⟩ := own_callV X0 hx hZ (y := (⟨"java/lang/String", "isLatin1", "()Z"⟩ : MethodName)) (W := 0) (C := "java/lang/String") hown (hw _ (own_mt 36 rfl)) (hw _ (own_mt 37 rfl)) (hw _ (own_mt 39 rfl)) (hw _ (own_mt 38 rfl)) (hw _ (own_mt 6 rfl)) (hw _ (own_mt 40 rfl)) (by decide) (rm_Ql1 l Z a0 hw o ar cs ci ca h0 n0 Z0 Od SS Es_o Fc_o Fv_o) (by decide) (by decide) e0 Es_o (g := (mkF m 1 #[vR o] [(.ref o)])) rfl (by rw [hml]; rfl) (argsL := []) (rest := []) rfl (lenOf pd___Z rfl) rfl own_w0 (hb hby d10_1) (by decide) (by decide)
  obtain ⟨rfl, N1q, e1⟩ := hQ1
  have N1 := Fr.app N0 N1q
  refine own_vF m T1 4 #[vR o] [(.int 1)] (fun t k => st1 t k) ?_
  refine own_vF m T1 7 #[vR o] [] (fun t k => XS.ifNo X1.here hx rfl (hb hby d10_4) rfl ((if0 _ _).trans (feq (by decide : ¬ ((1 : Int32) = (0 : Int32)))).1) k) ?_
  refine own_vF m T1 8 #[vR o] [(.ref o)] (fun t k => XS.aloadN X1.here hx rfl (hb hby d10_7) rfl rfl k) ?_
  obtain ⟨T2, X2, e2, st2⟩ := getF (host := "") X1 hx hZ hown (Or.inl (hw _ (own_mt 43 rfl))) Via.refl e1 Fv_o (g := (mkF m 8 #[vR o] [(.ref o)])) rfl rfl (hb hby d10_8)
  refine own_vF m T2 11 #[vR o] [(.ref ar)] (fun t k => st2 t k) ?_
  obtain ⟨_, T3, L3, X3, hQ3, st3⟩ := own_callS X2 hx hZ (y := (⟨"java/lang/StringLatin1", "indexOfNonWhitespace", "([B)I"⟩ : MethodName)) (W := 0) hown (hw _ (own_mt 44 rfl)) (hw _ (own_mt 45 rfl)) (hw _ (own_mt 46 rfl)) (hw _ (own_mt 47 rfl)) (by decide) (rm_Qli l Z a0 hw ar kk cs ci ca h0 n0 Z0 Od SS Vb_ar) (by decide) (by decide) e2 (g := (mkF m 11 #[vR o] [(.ref ar)])) rfl (by rw [hml]; rfl) (argsL := [(.ref ar)]) (rest := []) rfl (lenOf pd_AB__I rfl) rfl own_w0 (hb hby d10_11) (by decide) (by decide)
  obtain ⟨rfl, N3q, e3⟩ := hQ3
  have N3 := Fr.app N1 N3q
  refine own_vF m T3 14 #[vR o] [(.int 0)] (fun t k => st3 t k) ?_
  refine own_vF m T3 24 #[vR o] [(.int 0)] (fun t k => XS.goto X3.here hx rfl (pc0 := 14) (pc' := 24) rfl (hb hby d10_14) (by decide) (by decide) k) ?_
  exact own_ret X3 (v := some (.int 0)) (fun h => by rw [hret] at h; cases h) hlk (fun fs hr => retOut X3 hx (t := .int) hret rfl (Or.inl ⟨rfl, Or.inl rfl, _, rfl⟩) (hb hby d10_24) hr) (by rw [e3]; exact ⟨rfl, N3, rfl⟩) (by decide) (by decide)
theorem d11_0 : decode jdk_42_method_117_code 0 = .ok (.aload_n 0, 1) := by decide +kernel
theorem pd___I : parseMethodDescriptor "()I" = some ⟨[], some .int⟩ := by decide +kernel
theorem d11_1 : decode jdk_42_method_117_code 1 = .ok (.invokevirtual 876, 3) := by decide +kernel
theorem d11_4 : decode jdk_42_method_117_code 4 = .ok (.aload_n 0, 1) := by decide +kernel
theorem d11_5 : decode jdk_42_method_117_code 5 = .ok (.invokevirtual 505, 3) := by decide +kernel
theorem d11_8 : decode jdk_42_method_117_code 8 = .ok (.if_icmp .ne 7, 3) := by decide +kernel
theorem d11_15 : decode jdk_42_method_117_code 15 = .ok (.iconst 0, 1) := by decide +kernel
theorem d11_16 : decode jdk_42_method_117_code 16 = .ok (.ireturn, 1) := by decide +kernel
set_option maxRecDepth 65536 in
set_option maxHeartbeats 40000000 in
theorem rm_Qbl (l : Launch) (Z : State) (a0 : Array Value) (hw : ∀ d ∈ tables_1, d.before a0 Z = true) (o ar : Addr) (kk : ClassId) (cs : Int32) (ci ca : Addr) (h0 : Heap) (n0 : Nat) (Z0 : n0 ≤ h0.size) (Od : Old Z n0 h0) (SS : own_SS Z cs ci ca) (Es_o : Exa Z h0 o "java/lang/String") (Fc_o : Fld Z h0 o "java/lang/String" "coder" "B" (.int 0)) (Fv_o : Fld Z h0 o "java/lang/String" "value" "[B" (.ref ar)) (Vb_ar : Arv Z h0 ar kk .byte (1 : Int32) [.int 70] (.int 0)) :
    own_MG l Z ((⟨"java/lang/String", "isBlank", "()Z"⟩ : MethodName)) jdk_42_method_117_code 1 (some .boolean) ({ frames := 4, cells := 0, slots := 0, locals := 56 } : Room) #[(.ref o)] h0 (Qbl Z o ar kk cs ci ca h0 n0) := by
  refine own_mkG (plainFor_of_name pn_java_lang_String) ?_
  intro p e s m below meth c s₁ X0 hx hby hml hown hnm hret hlk hZ e0
  have N0 := Fr.nil n0
  rw [ef_R1 m o]
  refine own_vF m s₁ 1 #[vR o] [(.ref o)] (fun t k => XS.aloadN X0.here hx rfl (hb hby d11_0) rfl rfl k) ?_
  obtain ⟨_, T1, L1, X1, hQ1, st1⟩ := own_callP X0 hx hZ (y := (⟨"java/lang/String", "indexOfNonWhitespace", "()I"⟩ : MethodName)) (W := 0) (C := "java/lang/String") hown (hw _ (own_mt 31 rfl)) (hw _ (own_mt 33 rfl)) (hw _ (own_mt 34 rfl)) (hw _ (own_mt 32 rfl)) (hw _ (own_mt 6 rfl)) (hw _ (own_mt 35 rfl)) (by decide) (rm_Qsi l Z a0 hw o ar kk cs ci ca h0 n0 Z0 Od SS Es_o Fc_o Fv_o Vb_ar) (by decide) (by decide) e0 Es_o (g := (mkF m 1 #[vR o] [(.ref o)])) rfl (by rw [hml]; rfl) (argsL := []) (rest := []) rfl (lenOf pd___I rfl) rfl own_w0 (hb hby d11_1) (by decide) (by decide)
  obtain ⟨rfl, N1q, e1⟩ := hQ1
  have N1 := Fr.app N0 N1q
  refine own_vF m T1 4 #[vR o] [(.int 0)] (fun t k => st1 t k) ?_
  refine own_vF m T1 5 #[vR o] [(.ref o), (.int 0)] (fun t k => XS.aloadN X1.here hx rfl (hb hby d11_4) rfl rfl k) ?_
  obtain ⟨_, T2, L2, X2, hQ2, st2⟩ := own_callV X1 hx hZ (y := (⟨"java/lang/String", "length", "()I"⟩ : MethodName)) (W := 1) (C := "java/lang/String") hown (hw _ (own_mt 64 rfl)) (hw _ (own_mt 65 rfl)) (hw _ (own_mt 67 rfl)) (hw _ (own_mt 66 rfl)) (hw _ (own_mt 6 rfl)) (hw _ (own_mt 68 rfl)) (by decide) (rm_Qln1 l Z a0 hw o ar cs ci ca h0 n0 Z0 Od SS Es_o Fc_o Fv_o (own_By.of Vb_ar (by decide))) (by decide) (by decide) e1 Es_o (g := (mkF m 5 #[vR o] [(.ref o), (.int 0)])) rfl (by rw [hml]; rfl) (argsL := []) (rest := [(.int 0)]) rfl (lenOf pd___I rfl) rfl own_w0 (hb hby d11_5) (by decide) (by decide)
  obtain ⟨rfl, N2q, e2⟩ := hQ2
  have N2 := Fr.app N1 N2q
  refine own_vF m T2 8 #[vR o] [(.int 1), (.int 0)] (fun t k => st2 t k) ?_
  refine own_vF m T2 15 #[vR o] [] (fun t k => XS.icmpYes X2.here hx rfl (pc0 := 8) (pc' := 15) rfl (hb hby d11_8) rfl (feq (by decide : ¬ ((0 : Int32) = (1 : Int32)))).2 (by decide) (by decide) k) ?_
  refine own_vF m T2 16 #[vR o] [(.int 0)] (fun t k => XS.iconst X2.here hx rfl (hb hby d11_15) k) ?_
  exact own_ret X2 (v := some (.int 0)) (fun h => by rw [hret] at h; cases h) hlk (fun fs hr => retN X2 hx (t := .boolean) hret (by simp) (hb hby d11_16) hr) (by rw [e2]; exact ⟨rfl, N2, rfl⟩) (by decide) (by decide)
def Qrn (Z : State) (o ms : Addr) (h0 : Heap) (n0 : Nat) (v : Option Value) (h : Heap) (L : List Loc) : Prop := v = some (.ref o) ∧ Fr n0 L ∧ h = h0
theorem d12_0 : decode jdk_31_method_11_code 0 = .ok (.aload_n 0, 1) := by decide +kernel
theorem d12_1 : decode jdk_31_method_11_code 1 = .ok (.ifnonnull 12, 3) := by decide +kernel
theorem d12_13 : decode jdk_31_method_11_code 13 = .ok (.aload_n 0, 1) := by decide +kernel
theorem d12_14 : decode jdk_31_method_11_code 14 = .ok (.areturn, 1) := by decide +kernel
theorem ef_RR2 (m : MethodId) (x0 : Addr) (x1 : Addr) : entryFrame m #[(.ref x0), (.ref x1)] 2 = mkF m 0 #[vR x0, vR x1] [] := by first | (simp [entryFrame, mkF, argsToLocals, Value.category]; done) | rfl
theorem pn_java_util_Objects : plainName "java/util/Objects" = true := by first | (simp [plainName, overriddenIn]; done) | decide +kernel
set_option maxRecDepth 65536 in
set_option maxHeartbeats 40000000 in
theorem rm_Qrn (l : Launch) (Z : State) (a0 : Array Value) (hw : ∀ d ∈ tables_1, d.before a0 Z = true) (o ms : Addr) (h0 : Heap) (n0 : Nat) (Z0 : n0 ≤ h0.size) :
    own_MG l Z ((⟨"java/util/Objects", "requireNonNull", "(Ljava/lang/Object;Ljava/lang/String;)Ljava/lang/Object;"⟩ : MethodName)) jdk_31_method_11_code 2 (some (.object "java/lang/Object")) ({ frames := 0, cells := 0, slots := 0, locals := 0 } : Room) #[(.ref o), (.ref ms)] h0 (Qrn Z o ms h0 n0) := by
  refine own_mkG (plainFor_of_name pn_java_util_Objects) ?_
  intro p e s m below meth c s₁ X0 hx hby hml hown hnm hret hlk hZ e0
  have N0 := Fr.nil n0
  rw [ef_RR2 m o ms]
  refine own_vF m s₁ 1 #[vR o, vR ms] [(.ref o)] (fun t k => XS.aloadN X0.here hx rfl (hb hby d12_0) rfl rfl k) ?_
  refine own_vF m s₁ 13 #[vR o, vR ms] [] (fun t k => XS.ifnonnullYes X0.here hx rfl (pc0 := 1) (pc' := 13) rfl (hb hby d12_1) rfl (by decide) (by decide) k) ?_
  refine own_vF m s₁ 14 #[vR o, vR ms] [(.ref o)] (fun t k => XS.aloadN X0.here hx rfl (hb hby d12_13) rfl rfl k) ?_
  exact own_ret X0 (v := some (.ref o)) (fun h => by rw [hret] at h; cases h) hlk (fun fs hr => retOut X0 hx (t := (.object "java/lang/Object")) hret rfl (Or.inr (Or.inr (Or.inr (Or.inr ⟨rfl, rfl, rfl⟩)))) (hb hby d12_14) hr) (by rw [e0]; exact ⟨rfl, N0, rfl⟩) (by decide) (by decide)
def Qai (Z : State) (o : Addr) (cs : Int32) (ci ca : Addr) (h0 : Heap) (n0 : Nat) (v : Option Value) (h : Heap) (L : List Loc) : Prop := ∃ r, v = none ∧ Fr n0 L ∧ Keep h0 h [o] ∧ h0.size ≤ r ∧ Exa Z h o "java/lang/StringBuilder" ∧ Fld Z h o "java/lang/AbstractStringBuilder" "value" "[B" (.ref r) ∧ Fld Z h o "java/lang/AbstractStringBuilder" "coder" "B" (.int 0) ∧ Fld Z h o "java/lang/AbstractStringBuilder" "count" "I" (.int 0) ∧ own_By Z h r (16 : Int32)
def Qbi (Z : State) (o : Addr) (cs : Int32) (ci ca : Addr) (h0 : Heap) (n0 : Nat) (v : Option Value) (h : Heap) (L : List Loc) : Prop := ∃ r, v = none ∧ Fr n0 L ∧ Keep h0 h [o] ∧ h0.size ≤ r ∧ Exa Z h o "java/lang/StringBuilder" ∧ Fld Z h o "java/lang/AbstractStringBuilder" "value" "[B" (.ref r) ∧ Fld Z h o "java/lang/AbstractStringBuilder" "coder" "B" (.int 0) ∧ Fld Z h o "java/lang/AbstractStringBuilder" "count" "I" (.int 0) ∧ own_By Z h r (16 : Int32)
theorem d13_0 : decode jdk_68_method_2_code 0 = .ok (.aload_n 0, 1) := by decide +kernel
theorem d13_1 : decode jdk_68_method_2_code 1 = .ok (.invokespecial 3, 3) := by decide +kernel
theorem d13_4 : decode jdk_68_method_2_code 4 = .ok (.getstatic 18, 3) := by decide +kernel
theorem d13_7 : decode jdk_68_method_2_code 7 = .ok (.ifCond .eq 18, 3) := by decide +kernel
theorem d13_10 : decode jdk_68_method_2_code 10 = .ok (.aload_n 0, 1) := by decide +kernel
theorem d13_11 : decode jdk_68_method_2_code 11 = .ok (.iload_n 1, 1) := by decide +kernel
theorem d13_12 : decode jdk_68_method_2_code 12 = .ok (.newarray .byte, 2) := by decide +kernel
theorem d13_14 : decode jdk_68_method_2_code 14 = .ok (.putfield 15, 3) := by decide +kernel
theorem d13_17 : decode jdk_68_method_2_code 17 = .ok (.aload_n 0, 1) := by decide +kernel
theorem d13_18 : decode jdk_68_method_2_code 18 = .ok (.iconst 0, 1) := by decide +kernel
theorem d13_19 : decode jdk_68_method_2_code 19 = .ok (.putfield 22, 3) := by decide +kernel
theorem d13_22 : decode jdk_68_method_2_code 22 = .ok (.goto 16, 3) := by decide +kernel
theorem d13_38 : decode jdk_68_method_2_code 38 = .ok (.return_, 1) := by decide +kernel
theorem pn_java_lang_AbstractStringBuilder : plainName "java/lang/AbstractStringBuilder" = true := by first | (simp [plainName, overriddenIn]; done) | decide +kernel
set_option maxRecDepth 65536 in
set_option maxHeartbeats 40000000 in
theorem rm_Qai (l : Launch) (Z : State) (a0 : Array Value) (hw : ∀ d ∈ tables_1, d.before a0 Z = true) (o : Addr) (cs : Int32) (ci ca : Addr) (h0 : Heap) (n0 : Nat) (Z0 : n0 ≤ h0.size) (Od : Old Z n0 h0) (SS : own_SS Z cs ci ca) (Eo_o : Exa Z h0 o "java/lang/StringBuilder") (Fv_o : Fld Z h0 o "java/lang/AbstractStringBuilder" "value" "[B" .null) (Fc_o : Fld Z h0 o "java/lang/AbstractStringBuilder" "coder" "B" (.int 0)) (Fn_o : Fld Z h0 o "java/lang/AbstractStringBuilder" "count" "I" (.int 0)) (gn_o : n0 ≤ o) :
    own_MG l Z ((⟨"java/lang/AbstractStringBuilder", "<init>", "(I)V"⟩ : MethodName)) jdk_68_method_2_code 2 none ({ frames := 1, cells := 1, slots := 16, locals := 12 } : Room) #[(.ref o), (.int 16)] h0 (Qai Z o cs ci ca h0 n0) := by
  refine own_mkG (plainFor_of_name pn_java_lang_AbstractStringBuilder) ?_
  intro p e s m below meth c s₁ X0 hx hby hml hown hnm hret hlk hZ e0
  have N0 := Fr.nil n0
  have K0 := Keep.refl h0 [o]
  rw [ef_RI2 m o (16 : Int32)]
  refine own_vF m s₁ 1 #[vR o, vI (16 : Int32)] [(.ref o)] (fun t k => XS.aloadN X0.here hx rfl (hb hby d13_0) rfl rfl k) ?_
  obtain ⟨T1, X1, e1, st1⟩ := initO X0 hx hZ hown (hw _ (own_mt 88 rfl)) (hw _ (own_mt 17 rfl)) (hw _ (own_mt 18 rfl)) e0 (g := (mkF m 1 #[vR o, vI (16 : Int32)] [(.ref o)])) rfl (by rw [hml]; rfl) rfl (hb hby d13_1) (by decide) (W := 0) own_w0 (by decide)
  refine own_vF m T1 4 #[vR o, vI (16 : Int32)] [] (fun t k => st1 t k) ?_
  obtain ⟨T2, X2, e2, st2⟩ := getS2 (host := "") X1 hx hZ hown (Or.inl (hw _ (own_mt 89 rfl))) Via.refl e1 (SS.1.ext Od.2) (g := (mkF m 4 #[vR o, vI (16 : Int32)] [])) rfl (hb hby d13_4)
  refine own_vF m T2 7 #[vR o, vI (16 : Int32)] [(.int cs)] (fun t k => st2 t k) ?_
  refine own_vF m T2 10 #[vR o, vI (16 : Int32)] [] (fun t k => XS.ifNo X2.here hx rfl (hb hby d13_7) rfl ((if0 _ _).trans (feq SS.2.1).1) k) ?_
  refine own_vF m T2 11 #[vR o, vI (16 : Int32)] [(.ref o)] (fun t k => XS.aloadN X2.here hx rfl (hb hby d13_10) rfl rfl k) ?_
  refine own_vF m T2 12 #[vR o, vI (16 : Int32)] [(.int 16), (.ref o)] (fun t k => XS.iloadN X2.here hx rfl (hb hby d13_11) rfl k) ?_
  obtain ⟨T3, h3, k3, X3, e3, E3, A3, st3⟩ := newP X2 hx hZ (hw _ (own_mt 8 rfl)) e2 (g := (mkF m 12 #[vR o, vI (16 : Int32)] [(.int 16), (.ref o)])) rfl (hb hby d13_12) rfl (by decide) (cap := 16) (by decide) (by decide) (by decide) (by decide)
  obtain ⟨b3, g3⟩ : ∃ z, z = h0.size := ⟨_, rfl⟩
  rw [← g3] at A3 st3
  have ne4 : o ≠ b3 := Nat.ne_of_lt (Nat.lt_of_lt_of_le Eo_o.lt (Nat.le_of_eq g3.symm))
  have sz_b3 : h0.size ≤ b3 := Nat.le_trans K0.1 (Nat.le_of_eq g3.symm)
  have f6 := Eo_o.ext E3
  have f7 := Fv_o.ext E3
  have f8 := Fc_o.ext E3
  have f9 := Fn_o.ext E3
  have V3 : own_By Z h3 b3 (16 : Int32) := own_By.new A3 (by decide)
  have K10 := K0.ext E3
  refine own_vF m T3 14 #[vR o, vI (16 : Int32)] [(.ref b3), (.ref o)] (fun t k => st3 t k) ?_
  obtain ⟨T11, h11, X11, e11, W11, st11⟩ := putF (host := "") X3 hx hZ hown (Or.inl (hw _ (own_mt 90 rfl))) Via.refl e3 f7 f6 (Or.inl (hw _ (own_mt 91 rfl))) (hw _ (own_mt 77 rfl)) (ty := (.array .byte)) (by decide) rfl rfl (g := (mkF m 14 #[vR o, vI (16 : Int32)] [(.ref b3), (.ref o)])) rfl rfl (hb hby d13_14)
  have f11w := f7.same W11
  have f13 := f6.wr W11
  have f14 := f8.other W11 (Or.inr (slot_ne (Or.inl (hw _ (own_mt 93 rfl))) (Or.inl (hw _ (own_mt 91 rfl))) (by decide) (t := .byte) (t' := (.array .byte)) (by decide) (by decide)))
  have f15 := f9.other W11 (Or.inr (slot_ne (Or.inl (hw _ (own_mt 107 rfl))) (Or.inl (hw _ (own_mt 91 rfl))) (by decide) (t := .int) (t' := (.array .byte)) (by decide) (by decide)))
  have f16 := V3.other W11 (Ne.symm ne4)
  have K17 := K10.wr W11 (Or.inl (own_mt 0 rfl))
  have N11 := Fr.snoc X11 N0 gn_o
  refine own_vF m T11 17 #[vR o, vI (16 : Int32)] [] (fun t k => st11 t k) ?_
  refine own_vF m T11 18 #[vR o, vI (16 : Int32)] [(.ref o)] (fun t k => XS.aloadN X11.here hx rfl (hb hby d13_17) rfl rfl k) ?_
  refine own_vF m T11 19 #[vR o, vI (16 : Int32)] [(.int 0), (.ref o)] (fun t k => XS.iconst X11.here hx rfl (hb hby d13_18) k) ?_
  obtain ⟨T18, h18, X18, e18, W18, st18⟩ := putF (host := "") X11 hx hZ hown (Or.inl (hw _ (own_mt 92 rfl))) Via.refl e11 f14 f13 (Or.inl (hw _ (own_mt 93 rfl))) (hw _ (own_mt 77 rfl)) (ty := .byte) (by decide) rfl rfl (g := (mkF m 19 #[vR o, vI (16 : Int32)] [(.int 0), (.ref o)])) rfl rfl (hb hby d13_19)
  have f18w := f14.same W18
  have f20 := f13.wr W18
  have f21 := f15.other W18 (Or.inr (slot_ne (Or.inl (hw _ (own_mt 107 rfl))) (Or.inl (hw _ (own_mt 93 rfl))) (by decide) (t := .int) (t' := .byte) (by decide) (by decide)))
  have f22 := f16.other W18 (Ne.symm ne4)
  have f23 := f11w.other W18 (Or.inr (slot_ne (Or.inl (hw _ (own_mt 91 rfl))) (Or.inl (hw _ (own_mt 93 rfl))) (by decide) (t := (.array .byte)) (t' := .byte) (by decide) (by decide)))
  have K24 := K17.wr W18 (Or.inl (own_mt 0 rfl))
  have N18 := Fr.snoc X18 N11 gn_o
  refine own_vF m T18 22 #[vR o, vI (16 : Int32)] [] (fun t k => st18 t k) ?_
  refine own_vF m T18 38 #[vR o, vI (16 : Int32)] [] (fun t k => XS.goto X18.here hx rfl (pc0 := 22) (pc' := 38) rfl (hb hby d13_22) (by decide) (by decide) k) ?_
  exact own_ret X18 (v := none) (fun _ => rfl) hlk (fun fs hr => X18.returnOut hx hret (hb hby d13_38) hr) (by rw [e18]; exact ⟨b3, rfl, N18, K24, sz_b3, f20, f23, f18w, f21, f22⟩) (by decide) (by decide)
theorem d14_0 : decode jdk_67_method_1_code 0 = .ok (.aload_n 0, 1) := by decide +kernel
theorem d14_1 : decode jdk_67_method_1_code 1 = .ok (.bipush 16, 2) := by decide +kernel
theorem pd_I__V : parseMethodDescriptor "(I)V" = some ⟨[.int], none⟩ := by decide +kernel
theorem d14_3 : decode jdk_67_method_1_code 3 = .ok (.invokespecial 1, 3) := by decide +kernel
theorem d14_6 : decode jdk_67_method_1_code 6 = .ok (.return_, 1) := by decide +kernel
theorem pn_java_lang_StringBuilder : plainName "java/lang/StringBuilder" = true := by first | (simp [plainName, overriddenIn]; done) | decide +kernel
set_option maxRecDepth 65536 in
set_option maxHeartbeats 40000000 in
theorem rm_Qbi (l : Launch) (Z : State) (a0 : Array Value) (hw : ∀ d ∈ tables_1, d.before a0 Z = true) (o : Addr) (cs : Int32) (ci ca : Addr) (h0 : Heap) (n0 : Nat) (Z0 : n0 ≤ h0.size) (Od : Old Z n0 h0) (SS : own_SS Z cs ci ca) (Eo_o : Exa Z h0 o "java/lang/StringBuilder") (Fv_o : Fld Z h0 o "java/lang/AbstractStringBuilder" "value" "[B" .null) (Fc_o : Fld Z h0 o "java/lang/AbstractStringBuilder" "coder" "B" (.int 0)) (Fn_o : Fld Z h0 o "java/lang/AbstractStringBuilder" "count" "I" (.int 0)) (gn_o : n0 ≤ o) :
    own_MG l Z ((⟨"java/lang/StringBuilder", "<init>", "()V"⟩ : MethodName)) jdk_67_method_1_code 1 none ({ frames := 2, cells := 1, slots := 16, locals := 25 } : Room) #[(.ref o)] h0 (Qbi Z o cs ci ca h0 n0) := by
  refine own_mkG (plainFor_of_name pn_java_lang_StringBuilder) ?_
  intro p e s m below meth c s₁ X0 hx hby hml hown hnm hret hlk hZ e0
  have N0 := Fr.nil n0
  have K0 := Keep.refl h0 [o]
  rw [ef_R1 m o]
  refine own_vF m s₁ 1 #[vR o] [(.ref o)] (fun t k => XS.aloadN X0.here hx rfl (hb hby d14_0) rfl rfl k) ?_
  refine own_vF m s₁ 3 #[vR o] [(.int 16), (.ref o)] (fun t k => XS.bipush X0.here hx rfl (hb hby d14_1) k) ?_
  obtain ⟨_, T1, L1, X1, hQ1, st1⟩ := own_callI X0 hx hZ (y := (⟨"java/lang/AbstractStringBuilder", "<init>", "(I)V"⟩ : MethodName)) rfl (W := 0) hown (hw _ (own_mt 82 rfl)) (hw _ (own_mt 83 rfl)) (hw _ (own_mt 86 rfl)) (hw _ (own_mt 87 rfl)) (by decide) (rm_Qai l Z a0 hw o cs ci ca h0 n0 Z0 Od SS Eo_o Fv_o Fc_o Fn_o gn_o) (by decide) (by decide) e0 (a := o) (g := (mkF m 3 #[vR o] [(.int 16), (.ref o)])) rfl (by rw [hml]; rfl) (argsL := [(.int 16)]) (rest := []) rfl (lenOf pd_I__V rfl) rfl own_w0 (hb hby d14_3) (by decide) (by decide)
  obtain ⟨r1, rfl, N1q, K1q, sq_r1, E1q, Fval1, Fcod1, Fcou1, V1q⟩ := hQ1
  have N1 := Fr.app N0 N1q
  have sz_r1 : h0.size ≤ r1 := Nat.le_trans K0.1 sq_r1
  have K5 := K0.trans K1q (allS (Or.inl (own_mt 0 rfl)) all0)
  refine own_vF m T1 6 #[vR o] [] (fun t k => st1 t k) ?_
  exact own_ret X1 (v := none) (fun _ => rfl) hlk (fun fs hr => X1.returnOut hx hret (hb hby d14_6) hr) (by exact ⟨r1, rfl, N1, K5, sz_r1, E1q, Fval1, Fcod1, Fcou1, V1q⟩) (by decide) (by decide)
def Qco (Z : State) (ar : Addr) (h0 : Heap) (n0 : Nat) (v : Option Value) (h : Heap) (L : List Loc) : Prop := ∃ r, v = some (.ref r) ∧ Fr n0 L ∧ Keep h0 h [] ∧ h0.size ≤ r ∧ own_By Z h r (34 : Int32)
theorem d15_0 : decode jdk_65_method_121_code 0 = .ok (.iload_n 1, 1) := by decide +kernel
theorem d15_1 : decode jdk_65_method_121_code 1 = .ok (.aload_n 0, 1) := by decide +kernel
theorem d15_2 : decode jdk_65_method_121_code 2 = .ok (.arraylength, 1) := by decide +kernel
theorem d15_3 : decode jdk_65_method_121_code 3 = .ok (.if_icmp .ne 11, 3) := by decide +kernel
theorem d15_14 : decode jdk_65_method_121_code 14 = .ok (.iload_n 1, 1) := by decide +kernel
theorem d15_15 : decode jdk_65_method_121_code 15 = .ok (.newarray .byte, 2) := by decide +kernel
theorem d15_17 : decode jdk_65_method_121_code 17 = .ok (.astore_n 2, 1) := by decide +kernel
theorem d15_18 : decode jdk_65_method_121_code 18 = .ok (.aload_n 0, 1) := by decide +kernel
theorem d15_19 : decode jdk_65_method_121_code 19 = .ok (.iconst 0, 1) := by decide +kernel
theorem d15_20 : decode jdk_65_method_121_code 20 = .ok (.aload_n 2, 1) := by decide +kernel
theorem d15_21 : decode jdk_65_method_121_code 21 = .ok (.iconst 0, 1) := by decide +kernel
theorem d15_22 : decode jdk_65_method_121_code 22 = .ok (.aload_n 0, 1) := by decide +kernel
theorem d15_23 : decode jdk_65_method_121_code 23 = .ok (.arraylength, 1) := by decide +kernel
theorem d15_24 : decode jdk_65_method_121_code 24 = .ok (.iload_n 1, 1) := by decide +kernel
theorem pd_II__I : parseMethodDescriptor "(II)I" = some ⟨[.int, .int], some .int⟩ := by decide +kernel
theorem d15_25 : decode jdk_65_method_121_code 25 = .ok (.invokestatic 304, 3) := by decide +kernel
theorem d15_28 : decode jdk_65_method_121_code 28 = .ok (.invokestatic 150, 3) := by decide +kernel
theorem d15_31 : decode jdk_65_method_121_code 31 = .ok (.aload_n 2, 1) := by decide +kernel
theorem d15_32 : decode jdk_65_method_121_code 32 = .ok (.areturn, 1) := by decide +kernel
theorem pn_java_util_Arrays : plainName "java/util/Arrays" = true := by first | (simp [plainName, overriddenIn]; done) | decide +kernel
set_option maxRecDepth 65536 in
set_option maxHeartbeats 40000000 in
theorem rm_Qco (l : Launch) (Z : State) (a0 : Array Value) (hw : ∀ d ∈ tables_1, d.before a0 Z = true) (ar : Addr) (h0 : Heap) (n0 : Nat) (Z0 : n0 ≤ h0.size) (Vb_ar : own_By Z h0 ar (16 : Int32)) :
    own_MG l Z ((⟨"java/util/Arrays", "copyOf", "([BI)[B"⟩ : MethodName)) jdk_65_method_121_code 3 (some (.array .byte)) ({ frames := 1, cells := 1, slots := 34, locals := 60 } : Room) #[(.ref ar), (.int 34)] h0 (Qco Z ar h0 n0) := by
  refine own_mkG (plainFor_of_name pn_java_util_Arrays) ?_
  intro p e s m below meth c s₁ X0 hx hby hml hown hnm hret hlk hZ e0
  have N0 := Fr.nil n0
  have K0 := Keep.refl h0 []
  rw [ef_RI3 m ar (34 : Int32)]
  refine own_vF m s₁ 1 #[vR ar, vI (34 : Int32), .unset] [(.int 34)] (fun t k => XS.iloadN X0.here hx rfl (hb hby d15_0) rfl k) ?_
  refine own_vF m s₁ 2 #[vR ar, vI (34 : Int32), .unset] [(.ref ar), (.int 34)] (fun t k => XS.aloadN X0.here hx rfl (hb hby d15_1) rfl rfl k) ?_
  obtain ⟨-, -, ⟨c1, Ar1, q1a, q1b, q1c, q1d, q1e⟩, -⟩ := id Vb_ar
  refine own_vF m s₁ 3 #[vR ar, vI (34 : Int32), .unset] [(.int 16), (.int 34)] (fun t k => (fun t k => X0.arraylength hx (by rw [e0]; exact Ar1.1) (State.isArrayOf_alike hZ.alike Ar1.2.1) (g := (mkF m 2 #[vR ar, vI (34 : Int32), .unset] [(.ref ar), (.int 34)])) rfl rfl (hb hby d15_2) t (by rw [len_of q1b q1c]; exact k)) t k) ?_
  refine own_vF m s₁ 14 #[vR ar, vI (34 : Int32), .unset] [] (fun t k => XS.icmpYes X0.here hx rfl (pc0 := 3) (pc' := 14) rfl (hb hby d15_3) rfl (feq (by decide : ¬ ((34 : Int32) = (16 : Int32)))).2 (by decide) (by decide) k) ?_
  refine own_vF m s₁ 15 #[vR ar, vI (34 : Int32), .unset] [(.int 34)] (fun t k => XS.iloadN X0.here hx rfl (hb hby d15_14) rfl k) ?_
  obtain ⟨T2, h2, k2, X2, e2, E2, A2, st2⟩ := newP X0 hx hZ (hw _ (own_mt 8 rfl)) e0 (g := (mkF m 15 #[vR ar, vI (34 : Int32), .unset] [(.int 34)])) rfl (hb hby d15_15) rfl (by decide) (cap := 34) (by decide) (by decide) (by decide) (by decide)
  obtain ⟨b2, g2⟩ : ∃ z, z = h0.size := ⟨_, rfl⟩
  rw [← g2] at A2 st2
  have gn_b2 : n0 ≤ b2 := Nat.le_trans Z0 (Nat.le_of_eq g2.symm)
  have sz_b2 : h0.size ≤ b2 := Nat.le_trans K0.1 (Nat.le_of_eq g2.symm)
  have f4 := Vb_ar.ext E2
  have V2 : own_By Z h2 b2 (34 : Int32) := own_By.new A2 (by decide)
  have Z5 : n0 ≤ h2.size := Nat.le_trans Z0 E2.1
  have K5 := K0.ext E2
  refine own_vF m T2 17 #[vR ar, vI (34 : Int32), .unset] [(.ref b2)] (fun t k => st2 t k) ?_
  refine own_vF m T2 18 #[vR ar, vI (34 : Int32), vR b2] [] (fun t k => XS.astoreN X2.here hx rfl (hb hby d15_17) rfl rfl (l' := #[vR ar, vI (34 : Int32), vR b2]) rfl k) ?_
  refine own_vF m T2 19 #[vR ar, vI (34 : Int32), vR b2] [(.ref ar)] (fun t k => XS.aloadN X2.here hx rfl (hb hby d15_18) rfl rfl k) ?_
  refine own_vF m T2 20 #[vR ar, vI (34 : Int32), vR b2] [(.int 0), (.ref ar)] (fun t k => XS.iconst X2.here hx rfl (hb hby d15_19) k) ?_
  refine own_vF m T2 21 #[vR ar, vI (34 : Int32), vR b2] [(.ref b2), (.int 0), (.ref ar)] (fun t k => XS.aloadN X2.here hx rfl (hb hby d15_20) rfl rfl k) ?_
  refine own_vF m T2 22 #[vR ar, vI (34 : Int32), vR b2] [(.int 0), (.ref b2), (.int 0), (.ref ar)] (fun t k => XS.iconst X2.here hx rfl (hb hby d15_21) k) ?_
  refine own_vF m T2 23 #[vR ar, vI (34 : Int32), vR b2] [(.ref ar), (.int 0), (.ref b2), (.int 0), (.ref ar)] (fun t k => XS.aloadN X2.here hx rfl (hb hby d15_22) rfl rfl k) ?_
  obtain ⟨-, -, ⟨c6, Ar6, q6a, q6b, q6c, q6d, q6e⟩, -⟩ := id f4
  refine own_vF m T2 24 #[vR ar, vI (34 : Int32), vR b2] [(.int 16), (.int 0), (.ref b2), (.int 0), (.ref ar)] (fun t k => (fun t k => X2.arraylength hx (by rw [e2]; exact Ar6.1) (State.isArrayOf_alike hZ.alike Ar6.2.1) (g := (mkF m 23 #[vR ar, vI (34 : Int32), vR b2] [(.ref ar), (.int 0), (.ref b2), (.int 0), (.ref ar)])) rfl rfl (hb hby d15_23) t (by rw [len_of q6b q6c]; exact k)) t k) ?_
  refine own_vF m T2 25 #[vR ar, vI (34 : Int32), vR b2] [(.int 34), (.int 16), (.int 0), (.ref b2), (.int 0), (.ref ar)] (fun t k => XS.iloadN X2.here hx rfl (hb hby d15_24) rfl k) ?_
  obtain ⟨_, T7, L7, X7, hQ7, st7⟩ := own_callS X2 hx hZ (y := (⟨"java/lang/Math", "min", "(II)I"⟩ : MethodName)) (W := 4) hown (hw _ (own_mt 132 rfl)) (hw _ (own_mt 133 rfl)) (hw _ (own_mt 124 rfl)) (hw _ (own_mt 134 rfl)) (by decide) (rm_Qmin l Z a0 hw (16 : Int32) (34 : Int32) h2 n0 Z5) (by decide) (by decide) e2 (g := (mkF m 25 #[vR ar, vI (34 : Int32), vR b2] [(.int 34), (.int 16), (.int 0), (.ref b2), (.int 0), (.ref ar)])) rfl (by rw [hml]; rfl) (argsL := [(.int 16), (.int 34)]) (rest := [(.int 0), (.ref b2), (.int 0), (.ref ar)]) rfl (lenOf pd_II__I rfl) rfl own_w0 (hb hby d15_25) (by decide) (by decide)
  obtain ⟨rfl, N7q, e7⟩ := hQ7
  have N7 := Fr.app N0 N7q
  refine own_vF m T7 28 #[vR ar, vI (34 : Int32), vR b2] [(.int (if (34 : Int32) < (16 : Int32) then (34 : Int32) else (16 : Int32))), (.int 0), (.ref b2), (.int 0), (.ref ar)] (fun t k => st7 t k) ?_
  rw [show (if (34 : Int32) < (16 : Int32) then (34 : Int32) else (16 : Int32)) = (16 : Int32) from by decide]
  obtain ⟨T8, h8, L8, X8, e8, N8, K8q, V8, st8⟩ := own_cpB X7 hx hZ hown (hw _ (own_mt 135 rfl)) (hw _ (own_mt 138 rfl)) (hw _ (own_mt 136 rfl)) (hw _ (own_mt 137 rfl)) e7 f4 V2 (by decide) (by decide) (by decide) (by decide) (by decide) N7 gn_b2 (g := (mkF m 28 #[vR ar, vI (34 : Int32), vR b2] [(.int 16), (.int 0), (.ref b2), (.int 0), (.ref ar)])) rfl (by rw [hml]; rfl) rfl (hb hby d15_28) (by decide) (W := 0) own_w0 (by decide)
  subst e8
  have K10 := K5.trans K8q (allS (Or.inr sz_b2) all0)
  refine own_vF m T8 31 #[vR ar, vI (34 : Int32), vR b2] [] (fun t k => st8 t k) ?_
  refine own_vF m T8 32 #[vR ar, vI (34 : Int32), vR b2] [(.ref b2)] (fun t k => XS.aloadN X8.here hx rfl (hb hby d15_31) rfl rfl k) ?_
  exact own_ret X8 (v := some (.ref b2)) (fun h => by rw [hret] at h; cases h) hlk (fun fs hr => retOut X8 hx (t := (.array .byte)) hret rfl (Or.inr (Or.inr (Or.inr (Or.inr ⟨rfl, rfl, rfl⟩)))) (hb hby d15_32) hr) (by exact ⟨b2, rfl, N8, K10, sz_b2, V8⟩) (by decide) (by decide)
def Qnl5 (Z : State)  (h0 : Heap) (n0 : Nat) (v : Option Value) (h : Heap) (L : List Loc) : Prop := v = some (.int 34) ∧ Fr n0 L ∧ h = h0
theorem d16_0 : decode jdk_48_method_27_code 0 = .ok (.iload_n 0, 1) := by decide +kernel
theorem d16_1 : decode jdk_48_method_27_code 1 = .ok (.iload_n 1, 1) := by decide +kernel
theorem d16_2 : decode jdk_48_method_27_code 2 = .ok (.iload_n 2, 1) := by decide +kernel
theorem d16_3 : decode jdk_48_method_27_code 3 = .ok (.invokestatic 194, 3) := by decide +kernel
theorem d16_6 : decode jdk_48_method_27_code 6 = .ok (.iadd, 1) := by decide +kernel
theorem d16_7 : decode jdk_48_method_27_code 7 = .ok (.istore_n 3, 1) := by decide +kernel
theorem d16_8 : decode jdk_48_method_27_code 8 = .ok (.iconst 0, 1) := by decide +kernel
theorem d16_9 : decode jdk_48_method_27_code 9 = .ok (.iload_n 3, 1) := by decide +kernel
theorem d16_10 : decode jdk_48_method_27_code 10 = .ok (.if_icmp .ge 11, 3) := by decide +kernel
theorem d16_13 : decode jdk_48_method_27_code 13 = .ok (.iload_n 3, 1) := by decide +kernel
theorem d16_14 : decode jdk_48_method_27_code 14 = .ok (.ldc 200, 2) := by decide +kernel
theorem d16_16 : decode jdk_48_method_27_code 16 = .ok (.if_icmp .gt 5, 3) := by decide +kernel
theorem d16_19 : decode jdk_48_method_27_code 19 = .ok (.iload_n 3, 1) := by decide +kernel
theorem d16_20 : decode jdk_48_method_27_code 20 = .ok (.ireturn, 1) := by decide +kernel
theorem ef_III4 (m : MethodId) (x0 : Int32) (x1 : Int32) (x2 : Int32) : entryFrame m #[(.int x0), (.int x1), (.int x2)] 4 = mkF m 0 #[vI x0, vI x1, vI x2, .unset] [] := by first | (simp [entryFrame, mkF, argsToLocals, Value.category]; done) | rfl
theorem pn_jdk_internal_util_ArraysSupport : plainName "jdk/internal/util/ArraysSupport" = true := by first | (simp [plainName, overriddenIn]; done) | decide +kernel
set_option maxRecDepth 65536 in
set_option maxHeartbeats 40000000 in
theorem rm_Qnl5 (l : Launch) (Z : State) (a0 : Array Value) (hw : ∀ d ∈ tables_1, d.before a0 Z = true)  (h0 : Heap) (n0 : Nat) (Z0 : n0 ≤ h0.size) :
    own_MG l Z ((⟨"jdk/internal/util/ArraysSupport", "newLength", "(III)I"⟩ : MethodName)) jdk_48_method_27_code 4 (some .int) ({ frames := 1, cells := 0, slots := 0, locals := 14 } : Room) #[(.int 16), (.int 5), (.int 18)] h0 (Qnl5 Z  h0 n0) := by
  refine own_mkG (plainFor_of_name pn_jdk_internal_util_ArraysSupport) ?_
  intro p e s m below meth c s₁ X0 hx hby hml hown hnm hret hlk hZ e0
  have N0 := Fr.nil n0
  rw [ef_III4 m (16 : Int32) (5 : Int32) (18 : Int32)]
  refine own_vF m s₁ 1 #[vI (16 : Int32), vI (5 : Int32), vI (18 : Int32), .unset] [(.int 16)] (fun t k => XS.iloadN X0.here hx rfl (hb hby d16_0) rfl k) ?_
  refine own_vF m s₁ 2 #[vI (16 : Int32), vI (5 : Int32), vI (18 : Int32), .unset] [(.int 5), (.int 16)] (fun t k => XS.iloadN X0.here hx rfl (hb hby d16_1) rfl k) ?_
  refine own_vF m s₁ 3 #[vI (16 : Int32), vI (5 : Int32), vI (18 : Int32), .unset] [(.int 18), (.int 5), (.int 16)] (fun t k => XS.iloadN X0.here hx rfl (hb hby d16_2) rfl k) ?_
  obtain ⟨_, T1, L1, X1, hQ1, st1⟩ := own_callS X0 hx hZ (y := (⟨"java/lang/Math", "max", "(II)I"⟩ : MethodName)) (W := 1) hown (hw _ (own_mt 122 rfl)) (hw _ (own_mt 123 rfl)) (hw _ (own_mt 124 rfl)) (hw _ (own_mt 125 rfl)) (by decide) (rm_Qmax l Z a0 hw (5 : Int32) (18 : Int32) h0 n0 Z0) (by decide) (by decide) e0 (g := (mkF m 3 #[vI (16 : Int32), vI (5 : Int32), vI (18 : Int32), .unset] [(.int 18), (.int 5), (.int 16)])) rfl (by rw [hml]; rfl) (argsL := [(.int 5), (.int 18)]) (rest := [(.int 16)]) rfl (lenOf pd_II__I rfl) rfl own_w0 (hb hby d16_3) (by decide) (by decide)
  obtain ⟨rfl, N1q, e1⟩ := hQ1
  have N1 := Fr.app N0 N1q
  refine own_vF m T1 6 #[vI (16 : Int32), vI (5 : Int32), vI (18 : Int32), .unset] [(.int (if (5 : Int32) < (18 : Int32) then (18 : Int32) else (5 : Int32))), (.int 16)] (fun t k => st1 t k) ?_
  rw [show (if (5 : Int32) < (18 : Int32) then (18 : Int32) else (5 : Int32)) = (18 : Int32) from by decide]
  refine own_vF m T1 7 #[vI (16 : Int32), vI (5 : Int32), vI (18 : Int32), .unset] [(.int ((16 : Int32) + (18 : Int32)))] (fun t k => XS.iadd X1.here hx rfl (hb hby d16_6) rfl k) ?_
  rw [show ((16 : Int32) + (18 : Int32)) = (34 : Int32) from by decide]
  refine own_vF m T1 8 #[vI (16 : Int32), vI (5 : Int32), vI (18 : Int32), vI (34 : Int32)] [] (fun t k => XS.istoreN X1.here hx rfl (hb hby d16_7) rfl (l' := #[vI (16 : Int32), vI (5 : Int32), vI (18 : Int32), vI (34 : Int32)]) rfl k) ?_
  refine own_vF m T1 9 #[vI (16 : Int32), vI (5 : Int32), vI (18 : Int32), vI (34 : Int32)] [(.int 0)] (fun t k => XS.iconst X1.here hx rfl (hb hby d16_8) k) ?_
  refine own_vF m T1 10 #[vI (16 : Int32), vI (5 : Int32), vI (18 : Int32), vI (34 : Int32)] [(.int 34), (.int 0)] (fun t k => XS.iloadN X1.here hx rfl (hb hby d16_9) rfl k) ?_
  refine own_vF m T1 13 #[vI (16 : Int32), vI (5 : Int32), vI (18 : Int32), vI (34 : Int32)] [] (fun t k => XS.icmpNo X1.here hx rfl (hb hby d16_10) rfl (tlt (by decide : ((0 : Int32) < (34 : Int32)))).2.1 k) ?_
  refine own_vF m T1 14 #[vI (16 : Int32), vI (5 : Int32), vI (18 : Int32), vI (34 : Int32)] [(.int 34)] (fun t k => XS.iloadN X1.here hx rfl (hb hby d16_13) rfl k) ?_
  refine own_vF m T1 16 #[vI (16 : Int32), vI (5 : Int32), vI (18 : Int32), vI (34 : Int32)] [(.int 2147483639), (.int 34)] (fun t k => X1.ldcInt hx hown (mvT hZ (hw _ (own_mt 126 rfl))) (g := (mkF m 14 #[vI (16 : Int32), vI (5 : Int32), vI (18 : Int32), vI (34 : Int32)] [(.int 34)])) rfl (hb hby d16_14) _ k) ?_
  refine own_vF m T1 19 #[vI (16 : Int32), vI (5 : Int32), vI (18 : Int32), vI (34 : Int32)] [] (fun t k => XS.icmpNo X1.here hx rfl (hb hby d16_16) rfl (flt (by decide : ¬ ((2147483639 : Int32) < (34 : Int32)))).2.2.1 k) ?_
  refine own_vF m T1 20 #[vI (16 : Int32), vI (5 : Int32), vI (18 : Int32), vI (34 : Int32)] [(.int 34)] (fun t k => XS.iloadN X1.here hx rfl (hb hby d16_19) rfl k) ?_
  exact own_ret X1 (v := some (.int 34)) (fun h => by rw [hret] at h; cases h) hlk (fun fs hr => retOut X1 hx (t := .int) hret rfl (Or.inl ⟨rfl, Or.inl rfl, _, rfl⟩) (hb hby d16_20) hr) (by rw [e1]; exact ⟨rfl, N1, rfl⟩) (by decide) (by decide)
def Qnl1 (Z : State)  (h0 : Heap) (n0 : Nat) (v : Option Value) (h : Heap) (L : List Loc) : Prop := v = some (.int 34) ∧ Fr n0 L ∧ h = h0
set_option maxRecDepth 65536 in
set_option maxHeartbeats 40000000 in
theorem rm_Qnl1 (l : Launch) (Z : State) (a0 : Array Value) (hw : ∀ d ∈ tables_1, d.before a0 Z = true)  (h0 : Heap) (n0 : Nat) (Z0 : n0 ≤ h0.size) :
    own_MG l Z ((⟨"jdk/internal/util/ArraysSupport", "newLength", "(III)I"⟩ : MethodName)) jdk_48_method_27_code 4 (some .int) ({ frames := 1, cells := 0, slots := 0, locals := 14 } : Room) #[(.int 16), (.int 1), (.int 18)] h0 (Qnl1 Z  h0 n0) := by
  refine own_mkG (plainFor_of_name pn_jdk_internal_util_ArraysSupport) ?_
  intro p e s m below meth c s₁ X0 hx hby hml hown hnm hret hlk hZ e0
  have N0 := Fr.nil n0
  rw [ef_III4 m (16 : Int32) (1 : Int32) (18 : Int32)]
  refine own_vF m s₁ 1 #[vI (16 : Int32), vI (1 : Int32), vI (18 : Int32), .unset] [(.int 16)] (fun t k => XS.iloadN X0.here hx rfl (hb hby d16_0) rfl k) ?_
  refine own_vF m s₁ 2 #[vI (16 : Int32), vI (1 : Int32), vI (18 : Int32), .unset] [(.int 1), (.int 16)] (fun t k => XS.iloadN X0.here hx rfl (hb hby d16_1) rfl k) ?_
  refine own_vF m s₁ 3 #[vI (16 : Int32), vI (1 : Int32), vI (18 : Int32), .unset] [(.int 18), (.int 1), (.int 16)] (fun t k => XS.iloadN X0.here hx rfl (hb hby d16_2) rfl k) ?_
  obtain ⟨_, T1, L1, X1, hQ1, st1⟩ := own_callS X0 hx hZ (y := (⟨"java/lang/Math", "max", "(II)I"⟩ : MethodName)) (W := 1) hown (hw _ (own_mt 122 rfl)) (hw _ (own_mt 123 rfl)) (hw _ (own_mt 124 rfl)) (hw _ (own_mt 125 rfl)) (by decide) (rm_Qmax l Z a0 hw (1 : Int32) (18 : Int32) h0 n0 Z0) (by decide) (by decide) e0 (g := (mkF m 3 #[vI (16 : Int32), vI (1 : Int32), vI (18 : Int32), .unset] [(.int 18), (.int 1), (.int 16)])) rfl (by rw [hml]; rfl) (argsL := [(.int 1), (.int 18)]) (rest := [(.int 16)]) rfl (lenOf pd_II__I rfl) rfl own_w0 (hb hby d16_3) (by decide) (by decide)
  obtain ⟨rfl, N1q, e1⟩ := hQ1
  have N1 := Fr.app N0 N1q
  refine own_vF m T1 6 #[vI (16 : Int32), vI (1 : Int32), vI (18 : Int32), .unset] [(.int (if (1 : Int32) < (18 : Int32) then (18 : Int32) else (1 : Int32))), (.int 16)] (fun t k => st1 t k) ?_
  rw [show (if (1 : Int32) < (18 : Int32) then (18 : Int32) else (1 : Int32)) = (18 : Int32) from by decide]
  refine own_vF m T1 7 #[vI (16 : Int32), vI (1 : Int32), vI (18 : Int32), .unset] [(.int ((16 : Int32) + (18 : Int32)))] (fun t k => XS.iadd X1.here hx rfl (hb hby d16_6) rfl k) ?_
  rw [show ((16 : Int32) + (18 : Int32)) = (34 : Int32) from by decide]
  refine own_vF m T1 8 #[vI (16 : Int32), vI (1 : Int32), vI (18 : Int32), vI (34 : Int32)] [] (fun t k => XS.istoreN X1.here hx rfl (hb hby d16_7) rfl (l' := #[vI (16 : Int32), vI (1 : Int32), vI (18 : Int32), vI (34 : Int32)]) rfl k) ?_
  refine own_vF m T1 9 #[vI (16 : Int32), vI (1 : Int32), vI (18 : Int32), vI (34 : Int32)] [(.int 0)] (fun t k => XS.iconst X1.here hx rfl (hb hby d16_8) k) ?_
  refine own_vF m T1 10 #[vI (16 : Int32), vI (1 : Int32), vI (18 : Int32), vI (34 : Int32)] [(.int 34), (.int 0)] (fun t k => XS.iloadN X1.here hx rfl (hb hby d16_9) rfl k) ?_
  refine own_vF m T1 13 #[vI (16 : Int32), vI (1 : Int32), vI (18 : Int32), vI (34 : Int32)] [] (fun t k => XS.icmpNo X1.here hx rfl (hb hby d16_10) rfl (tlt (by decide : ((0 : Int32) < (34 : Int32)))).2.1 k) ?_
  refine own_vF m T1 14 #[vI (16 : Int32), vI (1 : Int32), vI (18 : Int32), vI (34 : Int32)] [(.int 34)] (fun t k => XS.iloadN X1.here hx rfl (hb hby d16_13) rfl k) ?_
  refine own_vF m T1 16 #[vI (16 : Int32), vI (1 : Int32), vI (18 : Int32), vI (34 : Int32)] [(.int 2147483639), (.int 34)] (fun t k => X1.ldcInt hx hown (mvT hZ (hw _ (own_mt 126 rfl))) (g := (mkF m 14 #[vI (16 : Int32), vI (1 : Int32), vI (18 : Int32), vI (34 : Int32)] [(.int 34)])) rfl (hb hby d16_14) _ k) ?_
  refine own_vF m T1 19 #[vI (16 : Int32), vI (1 : Int32), vI (18 : Int32), vI (34 : Int32)] [] (fun t k => XS.icmpNo X1.here hx rfl (hb hby d16_16) rfl (flt (by decide : ¬ ((2147483639 : Int32) < (34 : Int32)))).2.2.1 k) ?_
  refine own_vF m T1 20 #[vI (16 : Int32), vI (1 : Int32), vI (18 : Int32), vI (34 : Int32)] [(.int 34)] (fun t k => XS.iloadN X1.here hx rfl (hb hby d16_19) rfl k) ?_
  exact own_ret X1 (v := some (.int 34)) (fun h => by rw [hret] at h; cases h) hlk (fun fs hr => retOut X1 hx (t := .int) hret rfl (Or.inl ⟨rfl, Or.inl rfl, _, rfl⟩) (hb hby d16_20) hr) (by rw [e1]; exact ⟨rfl, N1, rfl⟩) (by decide) (by decide)
def Qnc0_21 (Z : State) (o ar : Addr) (cs : Int32) (ci ca : Addr) (h0 : Heap) (n0 : Nat) (v : Option Value) (h : Heap) (L : List Loc) : Prop := v = some (.int 34) ∧ Fr n0 L ∧ h = h0
theorem d17_0 : decode jdk_68_method_10_code 0 = .ok (.aload_n 0, 1) := by decide +kernel
theorem d17_1 : decode jdk_68_method_10_code 1 = .ok (.getfield 15, 3) := by decide +kernel
theorem d17_4 : decode jdk_68_method_10_code 4 = .ok (.arraylength, 1) := by decide +kernel
theorem d17_5 : decode jdk_68_method_10_code 5 = .ok (.istore_n 2, 1) := by decide +kernel
theorem d17_6 : decode jdk_68_method_10_code 6 = .ok (.iload_n 1, 1) := by decide +kernel
theorem d17_7 : decode jdk_68_method_10_code 7 = .ok (.aload_n 0, 1) := by decide +kernel
theorem d17_8 : decode jdk_68_method_10_code 8 = .ok (.getfield 22, 3) := by decide +kernel
theorem d17_11 : decode jdk_68_method_10_code 11 = .ok (.ishl, 1) := by decide +kernel
theorem d17_12 : decode jdk_68_method_10_code 12 = .ok (.istore_n 3, 1) := by decide +kernel
theorem d17_13 : decode jdk_68_method_10_code 13 = .ok (.iload_n 3, 1) := by decide +kernel
theorem d17_14 : decode jdk_68_method_10_code 14 = .ok (.iload_n 2, 1) := by decide +kernel
theorem d17_15 : decode jdk_68_method_10_code 15 = .ok (.isub, 1) := by decide +kernel
theorem d17_16 : decode jdk_68_method_10_code 16 = .ok (.istore 4, 2) := by decide +kernel
theorem d17_18 : decode jdk_68_method_10_code 18 = .ok (.iload_n 2, 1) := by decide +kernel
theorem d17_19 : decode jdk_68_method_10_code 19 = .ok (.iload 4, 2) := by decide +kernel
theorem d17_21 : decode jdk_68_method_10_code 21 = .ok (.iload_n 2, 1) := by decide +kernel
theorem d17_22 : decode jdk_68_method_10_code 22 = .ok (.iconst 2, 1) := by decide +kernel
theorem d17_23 : decode jdk_68_method_10_code 23 = .ok (.aload_n 0, 1) := by decide +kernel
theorem d17_24 : decode jdk_68_method_10_code 24 = .ok (.getfield 22, 3) := by decide +kernel
theorem d17_27 : decode jdk_68_method_10_code 27 = .ok (.ishl, 1) := by decide +kernel
theorem d17_28 : decode jdk_68_method_10_code 28 = .ok (.iadd, 1) := by decide +kernel
theorem pd_III__I : parseMethodDescriptor "(III)I" = some ⟨[.int, .int, .int], some .int⟩ := by decide +kernel
theorem d17_29 : decode jdk_68_method_10_code 29 = .ok (.invokestatic 114, 3) := by decide +kernel
theorem d17_32 : decode jdk_68_method_10_code 32 = .ok (.istore 5, 2) := by decide +kernel
theorem d17_34 : decode jdk_68_method_10_code 34 = .ok (.iload 5, 2) := by decide +kernel
theorem d17_36 : decode jdk_68_method_10_code 36 = .ok (.ldc 39, 2) := by decide +kernel
theorem d17_38 : decode jdk_68_method_10_code 38 = .ok (.if_icmp .ne 13, 3) := by decide +kernel
theorem d17_51 : decode jdk_68_method_10_code 51 = .ok (.iload 5, 2) := by decide +kernel
theorem d17_53 : decode jdk_68_method_10_code 53 = .ok (.aload_n 0, 1) := by decide +kernel
theorem d17_54 : decode jdk_68_method_10_code 54 = .ok (.getfield 22, 3) := by decide +kernel
theorem d17_57 : decode jdk_68_method_10_code 57 = .ok (.ishr, 1) := by decide +kernel
theorem d17_58 : decode jdk_68_method_10_code 58 = .ok (.ireturn, 1) := by decide +kernel
theorem ef_RI6 (m : MethodId) (x0 : Addr) (x1 : Int32) : entryFrame m #[(.ref x0), (.int x1)] 6 = mkF m 0 #[vR x0, vI x1, .unset, .unset, .unset, .unset] [] := by first | (simp [entryFrame, mkF, argsToLocals, Value.category]; done) | rfl
set_option maxRecDepth 65536 in
set_option maxHeartbeats 40000000 in
theorem rm_Qnc0_21 (l : Launch) (Z : State) (a0 : Array Value) (hw : ∀ d ∈ tables_1, d.before a0 Z = true) (o ar : Addr) (cs : Int32) (ci ca : Addr) (h0 : Heap) (n0 : Nat) (Z0 : n0 ≤ h0.size) (Od : Old Z n0 h0) (SS : own_SS Z cs ci ca) (Eo_o : Exa Z h0 o "java/lang/StringBuilder") (Fv_o : Fld Z h0 o "java/lang/AbstractStringBuilder" "value" "[B" (.ref ar)) (Fc_o : Fld Z h0 o "java/lang/AbstractStringBuilder" "coder" "B" (.int 0)) (Fn_o : Fld Z h0 o "java/lang/AbstractStringBuilder" "count" "I" (.int 0)) (Vb_ar : own_By Z h0 ar (16 : Int32)) :
    own_MG l Z ((⟨"java/lang/AbstractStringBuilder", "newCapacity", "(I)I"⟩ : MethodName)) jdk_68_method_10_code 6 (some .int) ({ frames := 2, cells := 0, slots := 0, locals := 29 } : Room) #[(.ref o), (.int 21)] h0 (Qnc0_21 Z o ar cs ci ca h0 n0) := by
  refine own_mkG (plainFor_of_name pn_java_lang_AbstractStringBuilder) ?_
  intro p e s m below meth c s₁ X0 hx hby hml hown hnm hret hlk hZ e0
  have N0 := Fr.nil n0
  rw [ef_RI6 m o (21 : Int32)]
  refine own_vF m s₁ 1 #[vR o, vI (21 : Int32), .unset, .unset, .unset, .unset] [(.ref o)] (fun t k => XS.aloadN X0.here hx rfl (hb hby d17_0) rfl rfl k) ?_
  obtain ⟨T1, X1, e1, st1⟩ := getF (host := "") X0 hx hZ hown (Or.inl (hw _ (own_mt 90 rfl))) Via.refl e0 Fv_o (g := (mkF m 1 #[vR o, vI (21 : Int32), .unset, .unset, .unset, .unset] [(.ref o)])) rfl rfl (hb hby d17_1)
  refine own_vF m T1 4 #[vR o, vI (21 : Int32), .unset, .unset, .unset, .unset] [(.ref ar)] (fun t k => st1 t k) ?_
  obtain ⟨-, -, ⟨c2, Ar2, q2a, q2b, q2c, q2d, q2e⟩, -⟩ := id Vb_ar
  refine own_vF m T1 5 #[vR o, vI (21 : Int32), .unset, .unset, .unset, .unset] [(.int 16)] (fun t k => (fun t k => X1.arraylength hx (by rw [e1]; exact Ar2.1) (State.isArrayOf_alike hZ.alike Ar2.2.1) (g := (mkF m 4 #[vR o, vI (21 : Int32), .unset, .unset, .unset, .unset] [(.ref ar)])) rfl rfl (hb hby d17_4) t (by rw [len_of q2b q2c]; exact k)) t k) ?_
  refine own_vF m T1 6 #[vR o, vI (21 : Int32), vI (16 : Int32), .unset, .unset, .unset] [] (fun t k => XS.istoreN X1.here hx rfl (hb hby d17_5) rfl (l' := #[vR o, vI (21 : Int32), vI (16 : Int32), .unset, .unset, .unset]) rfl k) ?_
  refine own_vF m T1 7 #[vR o, vI (21 : Int32), vI (16 : Int32), .unset, .unset, .unset] [(.int 21)] (fun t k => XS.iloadN X1.here hx rfl (hb hby d17_6) rfl k) ?_
  refine own_vF m T1 8 #[vR o, vI (21 : Int32), vI (16 : Int32), .unset, .unset, .unset] [(.ref o), (.int 21)] (fun t k => XS.aloadN X1.here hx rfl (hb hby d17_7) rfl rfl k) ?_
  obtain ⟨T3, X3, e3, st3⟩ := getF (host := "") X1 hx hZ hown (Or.inl (hw _ (own_mt 92 rfl))) Via.refl e1 Fc_o (g := (mkF m 8 #[vR o, vI (21 : Int32), vI (16 : Int32), .unset, .unset, .unset] [(.ref o), (.int 21)])) rfl rfl (hb hby d17_8)
  refine own_vF m T3 11 #[vR o, vI (21 : Int32), vI (16 : Int32), .unset, .unset, .unset] [(.int 0), (.int 21)] (fun t k => st3 t k) ?_
  refine own_vF m T3 12 #[vR o, vI (21 : Int32), vI (16 : Int32), .unset, .unset, .unset] [(.int ((21 : Int32) <<< ((0 : Int32) &&& 31)))] (fun t k => XS.ishl X3.here hx rfl (hb hby d17_11) rfl k) ?_
  rw [show ((21 : Int32) <<< ((0 : Int32) &&& 31)) = (21 : Int32) from by decide]
  refine own_vF m T3 13 #[vR o, vI (21 : Int32), vI (16 : Int32), vI (21 : Int32), .unset, .unset] [] (fun t k => XS.istoreN X3.here hx rfl (hb hby d17_12) rfl (l' := #[vR o, vI (21 : Int32), vI (16 : Int32), vI (21 : Int32), .unset, .unset]) rfl k) ?_
  refine own_vF m T3 14 #[vR o, vI (21 : Int32), vI (16 : Int32), vI (21 : Int32), .unset, .unset] [(.int 21)] (fun t k => XS.iloadN X3.here hx rfl (hb hby d17_13) rfl k) ?_
  refine own_vF m T3 15 #[vR o, vI (21 : Int32), vI (16 : Int32), vI (21 : Int32), .unset, .unset] [(.int 16), (.int 21)] (fun t k => XS.iloadN X3.here hx rfl (hb hby d17_14) rfl k) ?_
  refine own_vF m T3 16 #[vR o, vI (21 : Int32), vI (16 : Int32), vI (21 : Int32), .unset, .unset] [(.int ((21 : Int32) - (16 : Int32)))] (fun t k => XS.isub X3.here hx rfl (hb hby d17_15) rfl k) ?_
  rw [show ((21 : Int32) - (16 : Int32)) = (5 : Int32) from by decide]
  refine own_vF m T3 18 #[vR o, vI (21 : Int32), vI (16 : Int32), vI (21 : Int32), vI (5 : Int32), .unset] [] (fun t k => XS.istore X3.here hx rfl (hb hby d17_16) rfl (l' := #[vR o, vI (21 : Int32), vI (16 : Int32), vI (21 : Int32), vI (5 : Int32), .unset]) rfl k) ?_
  refine own_vF m T3 19 #[vR o, vI (21 : Int32), vI (16 : Int32), vI (21 : Int32), vI (5 : Int32), .unset] [(.int 16)] (fun t k => XS.iloadN X3.here hx rfl (hb hby d17_18) rfl k) ?_
  refine own_vF m T3 21 #[vR o, vI (21 : Int32), vI (16 : Int32), vI (21 : Int32), vI (5 : Int32), .unset] [(.int 5), (.int 16)] (fun t k => XS.iload X3.here hx rfl (hb hby d17_19) rfl k) ?_
  refine own_vF m T3 22 #[vR o, vI (21 : Int32), vI (16 : Int32), vI (21 : Int32), vI (5 : Int32), .unset] [(.int 16), (.int 5), (.int 16)] (fun t k => XS.iloadN X3.here hx rfl (hb hby d17_21) rfl k) ?_
  refine own_vF m T3 23 #[vR o, vI (21 : Int32), vI (16 : Int32), vI (21 : Int32), vI (5 : Int32), .unset] [(.int 2), (.int 16), (.int 5), (.int 16)] (fun t k => XS.iconst X3.here hx rfl (hb hby d17_22) k) ?_
  refine own_vF m T3 24 #[vR o, vI (21 : Int32), vI (16 : Int32), vI (21 : Int32), vI (5 : Int32), .unset] [(.ref o), (.int 2), (.int 16), (.int 5), (.int 16)] (fun t k => XS.aloadN X3.here hx rfl (hb hby d17_23) rfl rfl k) ?_
  obtain ⟨T4, X4, e4, st4⟩ := getF (host := "") X3 hx hZ hown (Or.inl (hw _ (own_mt 92 rfl))) Via.refl e3 Fc_o (g := (mkF m 24 #[vR o, vI (21 : Int32), vI (16 : Int32), vI (21 : Int32), vI (5 : Int32), .unset] [(.ref o), (.int 2), (.int 16), (.int 5), (.int 16)])) rfl rfl (hb hby d17_24)
  refine own_vF m T4 27 #[vR o, vI (21 : Int32), vI (16 : Int32), vI (21 : Int32), vI (5 : Int32), .unset] [(.int 0), (.int 2), (.int 16), (.int 5), (.int 16)] (fun t k => st4 t k) ?_
  refine own_vF m T4 28 #[vR o, vI (21 : Int32), vI (16 : Int32), vI (21 : Int32), vI (5 : Int32), .unset] [(.int ((2 : Int32) <<< ((0 : Int32) &&& 31))), (.int 16), (.int 5), (.int 16)] (fun t k => XS.ishl X4.here hx rfl (hb hby d17_27) rfl k) ?_
  rw [show ((2 : Int32) <<< ((0 : Int32) &&& 31)) = (2 : Int32) from by decide]
  refine own_vF m T4 29 #[vR o, vI (21 : Int32), vI (16 : Int32), vI (21 : Int32), vI (5 : Int32), .unset] [(.int ((16 : Int32) + (2 : Int32))), (.int 5), (.int 16)] (fun t k => XS.iadd X4.here hx rfl (hb hby d17_28) rfl k) ?_
  rw [show ((16 : Int32) + (2 : Int32)) = (18 : Int32) from by decide]
  obtain ⟨_, T5, L5, X5, hQ5, st5⟩ := own_callS X4 hx hZ (y := (⟨"jdk/internal/util/ArraysSupport", "newLength", "(III)I"⟩ : MethodName)) (W := 0) hown (hw _ (own_mt 118 rfl)) (hw _ (own_mt 119 rfl)) (hw _ (own_mt 120 rfl)) (hw _ (own_mt 121 rfl)) (by decide) (rm_Qnl5 l Z a0 hw  h0 n0 Z0) (by decide) (by decide) e4 (g := (mkF m 29 #[vR o, vI (21 : Int32), vI (16 : Int32), vI (21 : Int32), vI (5 : Int32), .unset] [(.int 18), (.int 5), (.int 16)])) rfl (by rw [hml]; rfl) (argsL := [(.int 16), (.int 5), (.int 18)]) (rest := []) rfl (lenOf pd_III__I rfl) rfl own_w0 (hb hby d17_29) (by decide) (by decide)
  obtain ⟨rfl, N5q, e5⟩ := hQ5
  have N5 := Fr.app N0 N5q
  refine own_vF m T5 32 #[vR o, vI (21 : Int32), vI (16 : Int32), vI (21 : Int32), vI (5 : Int32), .unset] [(.int 34)] (fun t k => st5 t k) ?_
  refine own_vF m T5 34 #[vR o, vI (21 : Int32), vI (16 : Int32), vI (21 : Int32), vI (5 : Int32), vI (34 : Int32)] [] (fun t k => XS.istore X5.here hx rfl (hb hby d17_32) rfl (l' := #[vR o, vI (21 : Int32), vI (16 : Int32), vI (21 : Int32), vI (5 : Int32), vI (34 : Int32)]) rfl k) ?_
  refine own_vF m T5 36 #[vR o, vI (21 : Int32), vI (16 : Int32), vI (21 : Int32), vI (5 : Int32), vI (34 : Int32)] [(.int 34)] (fun t k => XS.iload X5.here hx rfl (hb hby d17_34) rfl k) ?_
  refine own_vF m T5 38 #[vR o, vI (21 : Int32), vI (16 : Int32), vI (21 : Int32), vI (5 : Int32), vI (34 : Int32)] [(.int 2147483647), (.int 34)] (fun t k => X5.ldcInt hx hown (mvT hZ (hw _ (own_mt 127 rfl))) (g := (mkF m 36 #[vR o, vI (21 : Int32), vI (16 : Int32), vI (21 : Int32), vI (5 : Int32), vI (34 : Int32)] [(.int 34)])) rfl (hb hby d17_36) _ k) ?_
  refine own_vF m T5 51 #[vR o, vI (21 : Int32), vI (16 : Int32), vI (21 : Int32), vI (5 : Int32), vI (34 : Int32)] [] (fun t k => XS.icmpYes X5.here hx rfl (pc0 := 38) (pc' := 51) rfl (hb hby d17_38) rfl (feq (by decide : ¬ ((34 : Int32) = (2147483647 : Int32)))).2 (by decide) (by decide) k) ?_
  refine own_vF m T5 53 #[vR o, vI (21 : Int32), vI (16 : Int32), vI (21 : Int32), vI (5 : Int32), vI (34 : Int32)] [(.int 34)] (fun t k => XS.iload X5.here hx rfl (hb hby d17_51) rfl k) ?_
  refine own_vF m T5 54 #[vR o, vI (21 : Int32), vI (16 : Int32), vI (21 : Int32), vI (5 : Int32), vI (34 : Int32)] [(.ref o), (.int 34)] (fun t k => XS.aloadN X5.here hx rfl (hb hby d17_53) rfl rfl k) ?_
  obtain ⟨T6, X6, e6, st6⟩ := getF (host := "") X5 hx hZ hown (Or.inl (hw _ (own_mt 92 rfl))) Via.refl e5 Fc_o (g := (mkF m 54 #[vR o, vI (21 : Int32), vI (16 : Int32), vI (21 : Int32), vI (5 : Int32), vI (34 : Int32)] [(.ref o), (.int 34)])) rfl rfl (hb hby d17_54)
  refine own_vF m T6 57 #[vR o, vI (21 : Int32), vI (16 : Int32), vI (21 : Int32), vI (5 : Int32), vI (34 : Int32)] [(.int 0), (.int 34)] (fun t k => st6 t k) ?_
  refine own_vF m T6 58 #[vR o, vI (21 : Int32), vI (16 : Int32), vI (21 : Int32), vI (5 : Int32), vI (34 : Int32)] [(.int ((34 : Int32) >>> ((0 : Int32) &&& 31)))] (fun t k => XS.ishr X6.here hx rfl (hb hby d17_57) rfl k) ?_
  rw [show ((34 : Int32) >>> ((0 : Int32) &&& 31)) = (34 : Int32) from by decide]
  exact own_ret X6 (v := some (.int 34)) (fun h => by rw [hret] at h; cases h) hlk (fun fs hr => retOut X6 hx (t := .int) hret rfl (Or.inl ⟨rfl, Or.inl rfl, _, rfl⟩) (hb hby d17_58) hr) (by rw [e6]; exact ⟨rfl, N5, rfl⟩) (by decide) (by decide)
def Qnc16_17 (Z : State) (o ar : Addr) (cs : Int32) (ci ca : Addr) (h0 : Heap) (n0 : Nat) (v : Option Value) (h : Heap) (L : List Loc) : Prop := v = some (.int 34) ∧ Fr n0 L ∧ h = h0
set_option maxRecDepth 65536 in
set_option maxHeartbeats 40000000 in
theorem rm_Qnc16_17 (l : Launch) (Z : State) (a0 : Array Value) (hw : ∀ d ∈ tables_1, d.before a0 Z = true) (o ar : Addr) (cs : Int32) (ci ca : Addr) (h0 : Heap) (n0 : Nat) (Z0 : n0 ≤ h0.size) (Od : Old Z n0 h0) (SS : own_SS Z cs ci ca) (Eo_o : Exa Z h0 o "java/lang/StringBuilder") (Fv_o : Fld Z h0 o "java/lang/AbstractStringBuilder" "value" "[B" (.ref ar)) (Fc_o : Fld Z h0 o "java/lang/AbstractStringBuilder" "coder" "B" (.int 0)) (Fn_o : Fld Z h0 o "java/lang/AbstractStringBuilder" "count" "I" (.int 16)) (Vb_ar : own_By Z h0 ar (16 : Int32)) :
    own_MG l Z ((⟨"java/lang/AbstractStringBuilder", "newCapacity", "(I)I"⟩ : MethodName)) jdk_68_method_10_code 6 (some .int) ({ frames := 2, cells := 0, slots := 0, locals := 29 } : Room) #[(.ref o), (.int 17)] h0 (Qnc16_17 Z o ar cs ci ca h0 n0) := by
  refine own_mkG (plainFor_of_name pn_java_lang_AbstractStringBuilder) ?_
  intro p e s m below meth c s₁ X0 hx hby hml hown hnm hret hlk hZ e0
  have N0 := Fr.nil n0
  rw [ef_RI6 m o (17 : Int32)]
  refine own_vF m s₁ 1 #[vR o, vI (17 : Int32), .unset, .unset, .unset, .unset] [(.ref o)] (fun t k => XS.aloadN X0.here hx rfl (hb hby d17_0) rfl rfl k) ?_
  obtain ⟨T1, X1, e1, st1⟩ := getF (host := "") X0 hx hZ hown (Or.inl (hw _ (own_mt 90 rfl))) Via.refl e0 Fv_o (g := (mkF m 1 #[vR o, vI (17 : Int32), .unset, .unset, .unset, .unset] [(.ref o)])) rfl rfl (hb hby d17_1)
  refine own_vF m T1 4 #[vR o, vI (17 : Int32), .unset, .unset, .unset, .unset] [(.ref ar)] (fun t k => st1 t k) ?_
  obtain ⟨-, -, ⟨c2, Ar2, q2a, q2b, q2c, q2d, q2e⟩, -⟩ := id Vb_ar
  refine own_vF m T1 5 #[vR o, vI (17 : Int32), .unset, .unset, .unset, .unset] [(.int 16)] (fun t k => (fun t k => X1.arraylength hx (by rw [e1]; exact Ar2.1) (State.isArrayOf_alike hZ.alike Ar2.2.1) (g := (mkF m 4 #[vR o, vI (17 : Int32), .unset, .unset, .unset, .unset] [(.ref ar)])) rfl rfl (hb hby d17_4) t (by rw [len_of q2b q2c]; exact k)) t k) ?_
  refine own_vF m T1 6 #[vR o, vI (17 : Int32), vI (16 : Int32), .unset, .unset, .unset] [] (fun t k => XS.istoreN X1.here hx rfl (hb hby d17_5) rfl (l' := #[vR o, vI (17 : Int32), vI (16 : Int32), .unset, .unset, .unset]) rfl k) ?_
  refine own_vF m T1 7 #[vR o, vI (17 : Int32), vI (16 : Int32), .unset, .unset, .unset] [(.int 17)] (fun t k => XS.iloadN X1.here hx rfl (hb hby d17_6) rfl k) ?_
  refine own_vF m T1 8 #[vR o, vI (17 : Int32), vI (16 : Int32), .unset, .unset, .unset] [(.ref o), (.int 17)] (fun t k => XS.aloadN X1.here hx rfl (hb hby d17_7) rfl rfl k) ?_
  obtain ⟨T3, X3, e3, st3⟩ := getF (host := "") X1 hx hZ hown (Or.inl (hw _ (own_mt 92 rfl))) Via.refl e1 Fc_o (g := (mkF m 8 #[vR o, vI (17 : Int32), vI (16 : Int32), .unset, .unset, .unset] [(.ref o), (.int 17)])) rfl rfl (hb hby d17_8)
  refine own_vF m T3 11 #[vR o, vI (17 : Int32), vI (16 : Int32), .unset, .unset, .unset] [(.int 0), (.int 17)] (fun t k => st3 t k) ?_
  refine own_vF m T3 12 #[vR o, vI (17 : Int32), vI (16 : Int32), .unset, .unset, .unset] [(.int ((17 : Int32) <<< ((0 : Int32) &&& 31)))] (fun t k => XS.ishl X3.here hx rfl (hb hby d17_11) rfl k) ?_
  rw [show ((17 : Int32) <<< ((0 : Int32) &&& 31)) = (17 : Int32) from by decide]
  refine own_vF m T3 13 #[vR o, vI (17 : Int32), vI (16 : Int32), vI (17 : Int32), .unset, .unset] [] (fun t k => XS.istoreN X3.here hx rfl (hb hby d17_12) rfl (l' := #[vR o, vI (17 : Int32), vI (16 : Int32), vI (17 : Int32), .unset, .unset]) rfl k) ?_
  refine own_vF m T3 14 #[vR o, vI (17 : Int32), vI (16 : Int32), vI (17 : Int32), .unset, .unset] [(.int 17)] (fun t k => XS.iloadN X3.here hx rfl (hb hby d17_13) rfl k) ?_
  refine own_vF m T3 15 #[vR o, vI (17 : Int32), vI (16 : Int32), vI (17 : Int32), .unset, .unset] [(.int 16), (.int 17)] (fun t k => XS.iloadN X3.here hx rfl (hb hby d17_14) rfl k) ?_
  refine own_vF m T3 16 #[vR o, vI (17 : Int32), vI (16 : Int32), vI (17 : Int32), .unset, .unset] [(.int ((17 : Int32) - (16 : Int32)))] (fun t k => XS.isub X3.here hx rfl (hb hby d17_15) rfl k) ?_
  rw [show ((17 : Int32) - (16 : Int32)) = (1 : Int32) from by decide]
  refine own_vF m T3 18 #[vR o, vI (17 : Int32), vI (16 : Int32), vI (17 : Int32), vI (1 : Int32), .unset] [] (fun t k => XS.istore X3.here hx rfl (hb hby d17_16) rfl (l' := #[vR o, vI (17 : Int32), vI (16 : Int32), vI (17 : Int32), vI (1 : Int32), .unset]) rfl k) ?_
  refine own_vF m T3 19 #[vR o, vI (17 : Int32), vI (16 : Int32), vI (17 : Int32), vI (1 : Int32), .unset] [(.int 16)] (fun t k => XS.iloadN X3.here hx rfl (hb hby d17_18) rfl k) ?_
  refine own_vF m T3 21 #[vR o, vI (17 : Int32), vI (16 : Int32), vI (17 : Int32), vI (1 : Int32), .unset] [(.int 1), (.int 16)] (fun t k => XS.iload X3.here hx rfl (hb hby d17_19) rfl k) ?_
  refine own_vF m T3 22 #[vR o, vI (17 : Int32), vI (16 : Int32), vI (17 : Int32), vI (1 : Int32), .unset] [(.int 16), (.int 1), (.int 16)] (fun t k => XS.iloadN X3.here hx rfl (hb hby d17_21) rfl k) ?_
  refine own_vF m T3 23 #[vR o, vI (17 : Int32), vI (16 : Int32), vI (17 : Int32), vI (1 : Int32), .unset] [(.int 2), (.int 16), (.int 1), (.int 16)] (fun t k => XS.iconst X3.here hx rfl (hb hby d17_22) k) ?_
  refine own_vF m T3 24 #[vR o, vI (17 : Int32), vI (16 : Int32), vI (17 : Int32), vI (1 : Int32), .unset] [(.ref o), (.int 2), (.int 16), (.int 1), (.int 16)] (fun t k => XS.aloadN X3.here hx rfl (hb hby d17_23) rfl rfl k) ?_
  obtain ⟨T4, X4, e4, st4⟩ := getF (host := "") X3 hx hZ hown (Or.inl (hw _ (own_mt 92 rfl))) Via.refl e3 Fc_o (g := (mkF m 24 #[vR o, vI (17 : Int32), vI (16 : Int32), vI (17 : Int32), vI (1 : Int32), .unset] [(.ref o), (.int 2), (.int 16), (.int 1), (.int 16)])) rfl rfl (hb hby d17_24)
  refine own_vF m T4 27 #[vR o, vI (17 : Int32), vI (16 : Int32), vI (17 : Int32), vI (1 : Int32), .unset] [(.int 0), (.int 2), (.int 16), (.int 1), (.int 16)] (fun t k => st4 t k) ?_
  refine own_vF m T4 28 #[vR o, vI (17 : Int32), vI (16 : Int32), vI (17 : Int32), vI (1 : Int32), .unset] [(.int ((2 : Int32) <<< ((0 : Int32) &&& 31))), (.int 16), (.int 1), (.int 16)] (fun t k => XS.ishl X4.here hx rfl (hb hby d17_27) rfl k) ?_
  rw [show ((2 : Int32) <<< ((0 : Int32) &&& 31)) = (2 : Int32) from by decide]
  refine own_vF m T4 29 #[vR o, vI (17 : Int32), vI (16 : Int32), vI (17 : Int32), vI (1 : Int32), .unset] [(.int ((16 : Int32) + (2 : Int32))), (.int 1), (.int 16)] (fun t k => XS.iadd X4.here hx rfl (hb hby d17_28) rfl k) ?_
  rw [show ((16 : Int32) + (2 : Int32)) = (18 : Int32) from by decide]
  obtain ⟨_, T5, L5, X5, hQ5, st5⟩ := own_callS X4 hx hZ (y := (⟨"jdk/internal/util/ArraysSupport", "newLength", "(III)I"⟩ : MethodName)) (W := 0) hown (hw _ (own_mt 118 rfl)) (hw _ (own_mt 119 rfl)) (hw _ (own_mt 120 rfl)) (hw _ (own_mt 121 rfl)) (by decide) (rm_Qnl1 l Z a0 hw  h0 n0 Z0) (by decide) (by decide) e4 (g := (mkF m 29 #[vR o, vI (17 : Int32), vI (16 : Int32), vI (17 : Int32), vI (1 : Int32), .unset] [(.int 18), (.int 1), (.int 16)])) rfl (by rw [hml]; rfl) (argsL := [(.int 16), (.int 1), (.int 18)]) (rest := []) rfl (lenOf pd_III__I rfl) rfl own_w0 (hb hby d17_29) (by decide) (by decide)
  obtain ⟨rfl, N5q, e5⟩ := hQ5
  have N5 := Fr.app N0 N5q
  refine own_vF m T5 32 #[vR o, vI (17 : Int32), vI (16 : Int32), vI (17 : Int32), vI (1 : Int32), .unset] [(.int 34)] (fun t k => st5 t k) ?_
  refine own_vF m T5 34 #[vR o, vI (17 : Int32), vI (16 : Int32), vI (17 : Int32), vI (1 : Int32), vI (34 : Int32)] [] (fun t k => XS.istore X5.here hx rfl (hb hby d17_32) rfl (l' := #[vR o, vI (17 : Int32), vI (16 : Int32), vI (17 : Int32), vI (1 : Int32), vI (34 : Int32)]) rfl k) ?_
  refine own_vF m T5 36 #[vR o, vI (17 : Int32), vI (16 : Int32), vI (17 : Int32), vI (1 : Int32), vI (34 : Int32)] [(.int 34)] (fun t k => XS.iload X5.here hx rfl (hb hby d17_34) rfl k) ?_
  refine own_vF m T5 38 #[vR o, vI (17 : Int32), vI (16 : Int32), vI (17 : Int32), vI (1 : Int32), vI (34 : Int32)] [(.int 2147483647), (.int 34)] (fun t k => X5.ldcInt hx hown (mvT hZ (hw _ (own_mt 127 rfl))) (g := (mkF m 36 #[vR o, vI (17 : Int32), vI (16 : Int32), vI (17 : Int32), vI (1 : Int32), vI (34 : Int32)] [(.int 34)])) rfl (hb hby d17_36) _ k) ?_
  refine own_vF m T5 51 #[vR o, vI (17 : Int32), vI (16 : Int32), vI (17 : Int32), vI (1 : Int32), vI (34 : Int32)] [] (fun t k => XS.icmpYes X5.here hx rfl (pc0 := 38) (pc' := 51) rfl (hb hby d17_38) rfl (feq (by decide : ¬ ((34 : Int32) = (2147483647 : Int32)))).2 (by decide) (by decide) k) ?_
  refine own_vF m T5 53 #[vR o, vI (17 : Int32), vI (16 : Int32), vI (17 : Int32), vI (1 : Int32), vI (34 : Int32)] [(.int 34)] (fun t k => XS.iload X5.here hx rfl (hb hby d17_51) rfl k) ?_
  refine own_vF m T5 54 #[vR o, vI (17 : Int32), vI (16 : Int32), vI (17 : Int32), vI (1 : Int32), vI (34 : Int32)] [(.ref o), (.int 34)] (fun t k => XS.aloadN X5.here hx rfl (hb hby d17_53) rfl rfl k) ?_
  obtain ⟨T6, X6, e6, st6⟩ := getF (host := "") X5 hx hZ hown (Or.inl (hw _ (own_mt 92 rfl))) Via.refl e5 Fc_o (g := (mkF m 54 #[vR o, vI (17 : Int32), vI (16 : Int32), vI (17 : Int32), vI (1 : Int32), vI (34 : Int32)] [(.ref o), (.int 34)])) rfl rfl (hb hby d17_54)
  refine own_vF m T6 57 #[vR o, vI (17 : Int32), vI (16 : Int32), vI (17 : Int32), vI (1 : Int32), vI (34 : Int32)] [(.int 0), (.int 34)] (fun t k => st6 t k) ?_
  refine own_vF m T6 58 #[vR o, vI (17 : Int32), vI (16 : Int32), vI (17 : Int32), vI (1 : Int32), vI (34 : Int32)] [(.int ((34 : Int32) >>> ((0 : Int32) &&& 31)))] (fun t k => XS.ishr X6.here hx rfl (hb hby d17_57) rfl k) ?_
  rw [show ((34 : Int32) >>> ((0 : Int32) &&& 31)) = (34 : Int32) from by decide]
  exact own_ret X6 (v := some (.int 34)) (fun h => by rw [hret] at h; cases h) hlk (fun fs hr => retOut X6 hx (t := .int) hret rfl (Or.inl ⟨rfl, Or.inl rfl, _, rfl⟩) (hb hby d17_58) hr) (by rw [e6]; exact ⟨rfl, N5, rfl⟩) (by decide) (by decide)
def Qen16_0_21 (Z : State) (o ar : Addr) (cs : Int32) (ci ca : Addr) (h0 : Heap) (n0 : Nat) (v : Option Value) (h : Heap) (L : List Loc) : Prop := ∃ r, v = none ∧ Fr n0 L ∧ Keep h0 h [o] ∧ h0.size ≤ r ∧ Exa Z h o "java/lang/StringBuilder" ∧ Fld Z h o "java/lang/AbstractStringBuilder" "value" "[B" (.ref r) ∧ Fld Z h o "java/lang/AbstractStringBuilder" "coder" "B" (.int 0) ∧ Fld Z h o "java/lang/AbstractStringBuilder" "count" "I" (.int 0) ∧ own_By Z h r (34 : Int32)
theorem d18_0 : decode jdk_68_method_9_code 0 = .ok (.aload_n 0, 1) := by decide +kernel
theorem d18_1 : decode jdk_68_method_9_code 1 = .ok (.getfield 15, 3) := by decide +kernel
theorem d18_4 : decode jdk_68_method_9_code 4 = .ok (.arraylength, 1) := by decide +kernel
theorem d18_5 : decode jdk_68_method_9_code 5 = .ok (.aload_n 0, 1) := by decide +kernel
theorem d18_6 : decode jdk_68_method_9_code 6 = .ok (.getfield 22, 3) := by decide +kernel
theorem d18_9 : decode jdk_68_method_9_code 9 = .ok (.ishr, 1) := by decide +kernel
theorem d18_10 : decode jdk_68_method_9_code 10 = .ok (.istore_n 2, 1) := by decide +kernel
theorem d18_11 : decode jdk_68_method_9_code 11 = .ok (.iload_n 1, 1) := by decide +kernel
theorem d18_12 : decode jdk_68_method_9_code 12 = .ok (.iload_n 2, 1) := by decide +kernel
theorem d18_13 : decode jdk_68_method_9_code 13 = .ok (.isub, 1) := by decide +kernel
theorem d18_14 : decode jdk_68_method_9_code 14 = .ok (.ifCond .le 24, 3) := by decide +kernel
theorem d18_17 : decode jdk_68_method_9_code 17 = .ok (.aload_n 0, 1) := by decide +kernel
theorem d18_18 : decode jdk_68_method_9_code 18 = .ok (.aload_n 0, 1) := by decide +kernel
theorem d18_19 : decode jdk_68_method_9_code 19 = .ok (.getfield 15, 3) := by decide +kernel
theorem d18_22 : decode jdk_68_method_9_code 22 = .ok (.aload_n 0, 1) := by decide +kernel
theorem d18_23 : decode jdk_68_method_9_code 23 = .ok (.iload_n 1, 1) := by decide +kernel
theorem d18_24 : decode jdk_68_method_9_code 24 = .ok (.invokevirtual 104, 3) := by decide +kernel
theorem d18_27 : decode jdk_68_method_9_code 27 = .ok (.aload_n 0, 1) := by decide +kernel
theorem d18_28 : decode jdk_68_method_9_code 28 = .ok (.getfield 22, 3) := by decide +kernel
theorem d18_31 : decode jdk_68_method_9_code 31 = .ok (.ishl, 1) := by decide +kernel
theorem pd_ABI__AB : parseMethodDescriptor "([BI)[B" = some ⟨[(.array .byte), .int], some (.array .byte)⟩ := by decide +kernel
theorem d18_32 : decode jdk_68_method_9_code 32 = .ok (.invokestatic 108, 3) := by decide +kernel
theorem d18_35 : decode jdk_68_method_9_code 35 = .ok (.putfield 15, 3) := by decide +kernel
theorem d18_38 : decode jdk_68_method_9_code 38 = .ok (.return_, 1) := by decide +kernel
set_option maxRecDepth 65536 in
set_option maxHeartbeats 40000000 in
theorem rm_Qen16_0_21 (l : Launch) (Z : State) (a0 : Array Value) (hw : ∀ d ∈ tables_1, d.before a0 Z = true) (o ar : Addr) (cs : Int32) (ci ca : Addr) (h0 : Heap) (n0 : Nat) (Z0 : n0 ≤ h0.size) (Od : Old Z n0 h0) (SS : own_SS Z cs ci ca) (Eo_o : Exa Z h0 o "java/lang/StringBuilder") (Fv_o : Fld Z h0 o "java/lang/AbstractStringBuilder" "value" "[B" (.ref ar)) (Fc_o : Fld Z h0 o "java/lang/AbstractStringBuilder" "coder" "B" (.int 0)) (Fn_o : Fld Z h0 o "java/lang/AbstractStringBuilder" "count" "I" (.int 0)) (Vb_ar : own_By Z h0 ar (16 : Int32)) (gn_o : n0 ≤ o) :
    own_MG l Z ((⟨"java/lang/AbstractStringBuilder", "ensureCapacityInternal", "(I)V"⟩ : MethodName)) jdk_68_method_9_code 3 none ({ frames := 3, cells := 1, slots := 34, locals := 75 } : Room) #[(.ref o), (.int 21)] h0 (Qen16_0_21 Z o ar cs ci ca h0 n0) := by
  refine own_mkG (plainFor_of_name pn_java_lang_AbstractStringBuilder) ?_
  intro p e s m below meth c s₁ X0 hx hby hml hown hnm hret hlk hZ e0
  have N0 := Fr.nil n0
  have K0 := Keep.refl h0 [o]
  rw [ef_RI3 m o (21 : Int32)]
  refine own_vF m s₁ 1 #[vR o, vI (21 : Int32), .unset] [(.ref o)] (fun t k => XS.aloadN X0.here hx rfl (hb hby d18_0) rfl rfl k) ?_
  obtain ⟨T1, X1, e1, st1⟩ := getF (host := "") X0 hx hZ hown (Or.inl (hw _ (own_mt 90 rfl))) Via.refl e0 Fv_o (g := (mkF m 1 #[vR o, vI (21 : Int32), .unset] [(.ref o)])) rfl rfl (hb hby d18_1)
  refine own_vF m T1 4 #[vR o, vI (21 : Int32), .unset] [(.ref ar)] (fun t k => st1 t k) ?_
  obtain ⟨-, -, ⟨c2, Ar2, q2a, q2b, q2c, q2d, q2e⟩, -⟩ := id Vb_ar
  refine own_vF m T1 5 #[vR o, vI (21 : Int32), .unset] [(.int 16)] (fun t k => (fun t k => X1.arraylength hx (by rw [e1]; exact Ar2.1) (State.isArrayOf_alike hZ.alike Ar2.2.1) (g := (mkF m 4 #[vR o, vI (21 : Int32), .unset] [(.ref ar)])) rfl rfl (hb hby d18_4) t (by rw [len_of q2b q2c]; exact k)) t k) ?_
  refine own_vF m T1 6 #[vR o, vI (21 : Int32), .unset] [(.ref o), (.int 16)] (fun t k => XS.aloadN X1.here hx rfl (hb hby d18_5) rfl rfl k) ?_
  obtain ⟨T3, X3, e3, st3⟩ := getF (host := "") X1 hx hZ hown (Or.inl (hw _ (own_mt 92 rfl))) Via.refl e1 Fc_o (g := (mkF m 6 #[vR o, vI (21 : Int32), .unset] [(.ref o), (.int 16)])) rfl rfl (hb hby d18_6)
  refine own_vF m T3 9 #[vR o, vI (21 : Int32), .unset] [(.int 0), (.int 16)] (fun t k => st3 t k) ?_
  refine own_vF m T3 10 #[vR o, vI (21 : Int32), .unset] [(.int ((16 : Int32) >>> ((0 : Int32) &&& 31)))] (fun t k => XS.ishr X3.here hx rfl (hb hby d18_9) rfl k) ?_
  rw [show ((16 : Int32) >>> ((0 : Int32) &&& 31)) = (16 : Int32) from by decide]
  refine own_vF m T3 11 #[vR o, vI (21 : Int32), vI (16 : Int32)] [] (fun t k => XS.istoreN X3.here hx rfl (hb hby d18_10) rfl (l' := #[vR o, vI (21 : Int32), vI (16 : Int32)]) rfl k) ?_
  refine own_vF m T3 12 #[vR o, vI (21 : Int32), vI (16 : Int32)] [(.int 21)] (fun t k => XS.iloadN X3.here hx rfl (hb hby d18_11) rfl k) ?_
  refine own_vF m T3 13 #[vR o, vI (21 : Int32), vI (16 : Int32)] [(.int 16), (.int 21)] (fun t k => XS.iloadN X3.here hx rfl (hb hby d18_12) rfl k) ?_
  refine own_vF m T3 14 #[vR o, vI (21 : Int32), vI (16 : Int32)] [(.int ((21 : Int32) - (16 : Int32)))] (fun t k => XS.isub X3.here hx rfl (hb hby d18_13) rfl k) ?_
  rw [show ((21 : Int32) - (16 : Int32)) = (5 : Int32) from by decide]
  refine own_vF m T3 17 #[vR o, vI (21 : Int32), vI (16 : Int32)] [] (fun t k => XS.ifNo X3.here hx rfl (hb hby d18_14) rfl ((if0 _ _).trans (tlt (by decide : ((0 : Int32) < (5 : Int32)))).2.2.2) k) ?_
  refine own_vF m T3 18 #[vR o, vI (21 : Int32), vI (16 : Int32)] [(.ref o)] (fun t k => XS.aloadN X3.here hx rfl (hb hby d18_17) rfl rfl k) ?_
  refine own_vF m T3 19 #[vR o, vI (21 : Int32), vI (16 : Int32)] [(.ref o), (.ref o)] (fun t k => XS.aloadN X3.here hx rfl (hb hby d18_18) rfl rfl k) ?_
  obtain ⟨T4, X4, e4, st4⟩ := getF (host := "") X3 hx hZ hown (Or.inl (hw _ (own_mt 90 rfl))) Via.refl e3 Fv_o (g := (mkF m 19 #[vR o, vI (21 : Int32), vI (16 : Int32)] [(.ref o), (.ref o)])) rfl rfl (hb hby d18_19)
  refine own_vF m T4 22 #[vR o, vI (21 : Int32), vI (16 : Int32)] [(.ref ar), (.ref o)] (fun t k => st4 t k) ?_
  refine own_vF m T4 23 #[vR o, vI (21 : Int32), vI (16 : Int32)] [(.ref o), (.ref ar), (.ref o)] (fun t k => XS.aloadN X4.here hx rfl (hb hby d18_22) rfl rfl k) ?_
  refine own_vF m T4 24 #[vR o, vI (21 : Int32), vI (16 : Int32)] [(.int 21), (.ref o), (.ref ar), (.ref o)] (fun t k => XS.iloadN X4.here hx rfl (hb hby d18_23) rfl k) ?_
  obtain ⟨_, T5, L5, X5, hQ5, st5⟩ := own_callP X4 hx hZ (y := (⟨"java/lang/AbstractStringBuilder", "newCapacity", "(I)I"⟩ : MethodName)) (W := 2) (C := "java/lang/StringBuilder") hown (hw _ (own_mt 113 rfl)) (hw _ (own_mt 115 rfl)) (hw _ (own_mt 116 rfl)) (hw _ (own_mt 114 rfl)) (hw _ (own_mt 86 rfl)) (hw _ (own_mt 117 rfl)) (by decide) (rm_Qnc0_21 l Z a0 hw o ar cs ci ca h0 n0 Z0 Od SS Eo_o Fv_o Fc_o Fn_o Vb_ar) (by decide) (by decide) e4 Eo_o (g := (mkF m 24 #[vR o, vI (21 : Int32), vI (16 : Int32)] [(.int 21), (.ref o), (.ref ar), (.ref o)])) rfl (by rw [hml]; rfl) (argsL := [(.int 21)]) (rest := [(.ref ar), (.ref o)]) rfl (lenOf pd_I__I rfl) rfl own_w0 (hb hby d18_24) (by decide) (by decide)
  obtain ⟨rfl, N5q, e5⟩ := hQ5
  have N5 := Fr.app N0 N5q
  refine own_vF m T5 27 #[vR o, vI (21 : Int32), vI (16 : Int32)] [(.int 34), (.ref ar), (.ref o)] (fun t k => st5 t k) ?_
  refine own_vF m T5 28 #[vR o, vI (21 : Int32), vI (16 : Int32)] [(.ref o), (.int 34), (.ref ar), (.ref o)] (fun t k => XS.aloadN X5.here hx rfl (hb hby d18_27) rfl rfl k) ?_
  obtain ⟨T6, X6, e6, st6⟩ := getF (host := "") X5 hx hZ hown (Or.inl (hw _ (own_mt 92 rfl))) Via.refl e5 Fc_o (g := (mkF m 28 #[vR o, vI (21 : Int32), vI (16 : Int32)] [(.ref o), (.int 34), (.ref ar), (.ref o)])) rfl rfl (hb hby d18_28)
  refine own_vF m T6 31 #[vR o, vI (21 : Int32), vI (16 : Int32)] [(.int 0), (.int 34), (.ref ar), (.ref o)] (fun t k => st6 t k) ?_
  refine own_vF m T6 32 #[vR o, vI (21 : Int32), vI (16 : Int32)] [(.int ((34 : Int32) <<< ((0 : Int32) &&& 31))), (.ref ar), (.ref o)] (fun t k => XS.ishl X6.here hx rfl (hb hby d18_31) rfl k) ?_
  rw [show ((34 : Int32) <<< ((0 : Int32) &&& 31)) = (34 : Int32) from by decide]
  obtain ⟨_, T7, L7, X7, hQ7, st7⟩ := own_callS X6 hx hZ (y := (⟨"java/util/Arrays", "copyOf", "([BI)[B"⟩ : MethodName)) (W := 1) hown (hw _ (own_mt 128 rfl)) (hw _ (own_mt 129 rfl)) (hw _ (own_mt 130 rfl)) (hw _ (own_mt 131 rfl)) (by decide) (rm_Qco l Z a0 hw ar h0 n0 Z0 Vb_ar) (by decide) (by decide) e6 (g := (mkF m 32 #[vR o, vI (21 : Int32), vI (16 : Int32)] [(.int 34), (.ref ar), (.ref o)])) rfl (by rw [hml]; rfl) (argsL := [(.ref ar), (.int 34)]) (rest := [(.ref o)]) rfl (lenOf pd_ABI__AB rfl) rfl own_w0 (hb hby d18_32) (by decide) (by decide)
  obtain ⟨r7, rfl, N7q, K7q, sq_r7, V7q⟩ := hQ7
  have N7 := Fr.app N5 N7q
  have ne8 : o ≠ r7 := Nat.ne_of_lt (Nat.lt_of_lt_of_le Eo_o.lt sq_r7)
  have sz_r7 : h0.size ≤ r7 := Nat.le_trans K0.1 sq_r7
  have f11 := Eo_o.keep K7q
  have f12 := Fv_o.keep K7q nin0
  have f13 := Fc_o.keep K7q nin0
  have f14 := Fn_o.keep K7q nin0
  have K16 := K0.trans K7q all0
  refine own_vF m T7 35 #[vR o, vI (21 : Int32), vI (16 : Int32)] [(.ref r7), (.ref o)] (fun t k => st7 t k) ?_
  obtain ⟨T17, h17, X17, e17, W17, st17⟩ := putF (host := "") X7 hx hZ hown (Or.inl (hw _ (own_mt 90 rfl))) Via.refl rfl f12 f11 (Or.inl (hw _ (own_mt 91 rfl))) (hw _ (own_mt 77 rfl)) (ty := (.array .byte)) (by decide) rfl rfl (g := (mkF m 35 #[vR o, vI (21 : Int32), vI (16 : Int32)] [(.ref r7), (.ref o)])) rfl rfl (hb hby d18_35)
  have f17w := f12.same W17
  have f19 := f11.wr W17
  have f20 := f13.other W17 (Or.inr (slot_ne (Or.inl (hw _ (own_mt 93 rfl))) (Or.inl (hw _ (own_mt 91 rfl))) (by decide) (t := .byte) (t' := (.array .byte)) (by decide) (by decide)))
  have f21 := f14.other W17 (Or.inr (slot_ne (Or.inl (hw _ (own_mt 107 rfl))) (Or.inl (hw _ (own_mt 91 rfl))) (by decide) (t := .int) (t' := (.array .byte)) (by decide) (by decide)))
  have f23 := V7q.other W17 (Ne.symm ne8)
  have K24 := K16.wr W17 (Or.inl (own_mt 0 rfl))
  have N17 := Fr.snoc X17 N7 gn_o
  refine own_vF m T17 38 #[vR o, vI (21 : Int32), vI (16 : Int32)] [] (fun t k => st17 t k) ?_
  exact own_ret X17 (v := none) (fun _ => rfl) hlk (fun fs hr => X17.returnOut hx hret (hb hby d18_38) hr) (by rw [e17]; exact ⟨r7, rfl, N17, K24, sz_r7, f19, f17w, f20, f21, f23⟩) (by decide) (by decide)
def Qen34_21_22 (Z : State) (o ar : Addr) (cs : Int32) (ci ca : Addr) (h0 : Heap) (n0 : Nat) (v : Option Value) (h : Heap) (L : List Loc) : Prop := v = none ∧ Fr n0 L ∧ h = h0
set_option maxRecDepth 65536 in
set_option maxHeartbeats 40000000 in
theorem rm_Qen34_21_22 (l : Launch) (Z : State) (a0 : Array Value) (hw : ∀ d ∈ tables_1, d.before a0 Z = true) (o ar : Addr) (cs : Int32) (ci ca : Addr) (h0 : Heap) (n0 : Nat) (Z0 : n0 ≤ h0.size) (Od : Old Z n0 h0) (SS : own_SS Z cs ci ca) (Eo_o : Exa Z h0 o "java/lang/StringBuilder") (Fv_o : Fld Z h0 o "java/lang/AbstractStringBuilder" "value" "[B" (.ref ar)) (Fc_o : Fld Z h0 o "java/lang/AbstractStringBuilder" "coder" "B" (.int 0)) (Fn_o : Fld Z h0 o "java/lang/AbstractStringBuilder" "count" "I" (.int 21)) (Vb_ar : own_By Z h0 ar (34 : Int32)) :
    own_MG l Z ((⟨"java/lang/AbstractStringBuilder", "ensureCapacityInternal", "(I)V"⟩ : MethodName)) jdk_68_method_9_code 3 none ({ frames := 0, cells := 0, slots := 0, locals := 0 } : Room) #[(.ref o), (.int 22)] h0 (Qen34_21_22 Z o ar cs ci ca h0 n0) := by
  refine own_mkG (plainFor_of_name pn_java_lang_AbstractStringBuilder) ?_
  intro p e s m below meth c s₁ X0 hx hby hml hown hnm hret hlk hZ e0
  have N0 := Fr.nil n0
  rw [ef_RI3 m o (22 : Int32)]
  refine own_vF m s₁ 1 #[vR o, vI (22 : Int32), .unset] [(.ref o)] (fun t k => XS.aloadN X0.here hx rfl (hb hby d18_0) rfl rfl k) ?_
  obtain ⟨T1, X1, e1, st1⟩ := getF (host := "") X0 hx hZ hown (Or.inl (hw _ (own_mt 90 rfl))) Via.refl e0 Fv_o (g := (mkF m 1 #[vR o, vI (22 : Int32), .unset] [(.ref o)])) rfl rfl (hb hby d18_1)
  refine own_vF m T1 4 #[vR o, vI (22 : Int32), .unset] [(.ref ar)] (fun t k => st1 t k) ?_
  obtain ⟨-, -, ⟨c2, Ar2, q2a, q2b, q2c, q2d, q2e⟩, -⟩ := id Vb_ar
  refine own_vF m T1 5 #[vR o, vI (22 : Int32), .unset] [(.int 34)] (fun t k => (fun t k => X1.arraylength hx (by rw [e1]; exact Ar2.1) (State.isArrayOf_alike hZ.alike Ar2.2.1) (g := (mkF m 4 #[vR o, vI (22 : Int32), .unset] [(.ref ar)])) rfl rfl (hb hby d18_4) t (by rw [len_of q2b q2c]; exact k)) t k) ?_
  refine own_vF m T1 6 #[vR o, vI (22 : Int32), .unset] [(.ref o), (.int 34)] (fun t k => XS.aloadN X1.here hx rfl (hb hby d18_5) rfl rfl k) ?_
  obtain ⟨T3, X3, e3, st3⟩ := getF (host := "") X1 hx hZ hown (Or.inl (hw _ (own_mt 92 rfl))) Via.refl e1 Fc_o (g := (mkF m 6 #[vR o, vI (22 : Int32), .unset] [(.ref o), (.int 34)])) rfl rfl (hb hby d18_6)
  refine own_vF m T3 9 #[vR o, vI (22 : Int32), .unset] [(.int 0), (.int 34)] (fun t k => st3 t k) ?_
  refine own_vF m T3 10 #[vR o, vI (22 : Int32), .unset] [(.int ((34 : Int32) >>> ((0 : Int32) &&& 31)))] (fun t k => XS.ishr X3.here hx rfl (hb hby d18_9) rfl k) ?_
  rw [show ((34 : Int32) >>> ((0 : Int32) &&& 31)) = (34 : Int32) from by decide]
  refine own_vF m T3 11 #[vR o, vI (22 : Int32), vI (34 : Int32)] [] (fun t k => XS.istoreN X3.here hx rfl (hb hby d18_10) rfl (l' := #[vR o, vI (22 : Int32), vI (34 : Int32)]) rfl k) ?_
  refine own_vF m T3 12 #[vR o, vI (22 : Int32), vI (34 : Int32)] [(.int 22)] (fun t k => XS.iloadN X3.here hx rfl (hb hby d18_11) rfl k) ?_
  refine own_vF m T3 13 #[vR o, vI (22 : Int32), vI (34 : Int32)] [(.int 34), (.int 22)] (fun t k => XS.iloadN X3.here hx rfl (hb hby d18_12) rfl k) ?_
  refine own_vF m T3 14 #[vR o, vI (22 : Int32), vI (34 : Int32)] [(.int ((22 : Int32) - (34 : Int32)))] (fun t k => XS.isub X3.here hx rfl (hb hby d18_13) rfl k) ?_
  rw [show ((22 : Int32) - (34 : Int32)) = (-12 : Int32) from by decide]
  refine own_vF m T3 38 #[vR o, vI (22 : Int32), vI (34 : Int32)] [] (fun t k => XS.ifYes X3.here hx rfl (pc0 := 14) (pc' := 38) rfl (hb hby d18_14) rfl ((if0 _ _).trans (flt (by decide : ¬ ((0 : Int32) < (-12 : Int32)))).2.2.2) (by decide) (by decide) k) ?_
  exact own_ret X3 (v := none) (fun _ => rfl) hlk (fun fs hr => X3.returnOut hx hret (hb hby d18_38) hr) (by rw [e3]; exact ⟨rfl, N0, rfl⟩) (by decide) (by decide)
def Qen16_0_16 (Z : State) (o ar : Addr) (cs : Int32) (ci ca : Addr) (h0 : Heap) (n0 : Nat) (v : Option Value) (h : Heap) (L : List Loc) : Prop := v = none ∧ Fr n0 L ∧ h = h0
set_option maxRecDepth 65536 in
set_option maxHeartbeats 40000000 in
theorem rm_Qen16_0_16 (l : Launch) (Z : State) (a0 : Array Value) (hw : ∀ d ∈ tables_1, d.before a0 Z = true) (o ar : Addr) (cs : Int32) (ci ca : Addr) (h0 : Heap) (n0 : Nat) (Z0 : n0 ≤ h0.size) (Od : Old Z n0 h0) (SS : own_SS Z cs ci ca) (Eo_o : Exa Z h0 o "java/lang/StringBuilder") (Fv_o : Fld Z h0 o "java/lang/AbstractStringBuilder" "value" "[B" (.ref ar)) (Fc_o : Fld Z h0 o "java/lang/AbstractStringBuilder" "coder" "B" (.int 0)) (Fn_o : Fld Z h0 o "java/lang/AbstractStringBuilder" "count" "I" (.int 0)) (Vb_ar : own_By Z h0 ar (16 : Int32)) :
    own_MG l Z ((⟨"java/lang/AbstractStringBuilder", "ensureCapacityInternal", "(I)V"⟩ : MethodName)) jdk_68_method_9_code 3 none ({ frames := 0, cells := 0, slots := 0, locals := 0 } : Room) #[(.ref o), (.int 16)] h0 (Qen16_0_16 Z o ar cs ci ca h0 n0) := by
  refine own_mkG (plainFor_of_name pn_java_lang_AbstractStringBuilder) ?_
  intro p e s m below meth c s₁ X0 hx hby hml hown hnm hret hlk hZ e0
  have N0 := Fr.nil n0
  rw [ef_RI3 m o (16 : Int32)]
  refine own_vF m s₁ 1 #[vR o, vI (16 : Int32), .unset] [(.ref o)] (fun t k => XS.aloadN X0.here hx rfl (hb hby d18_0) rfl rfl k) ?_
  obtain ⟨T1, X1, e1, st1⟩ := getF (host := "") X0 hx hZ hown (Or.inl (hw _ (own_mt 90 rfl))) Via.refl e0 Fv_o (g := (mkF m 1 #[vR o, vI (16 : Int32), .unset] [(.ref o)])) rfl rfl (hb hby d18_1)
  refine own_vF m T1 4 #[vR o, vI (16 : Int32), .unset] [(.ref ar)] (fun t k => st1 t k) ?_
  obtain ⟨-, -, ⟨c2, Ar2, q2a, q2b, q2c, q2d, q2e⟩, -⟩ := id Vb_ar
  refine own_vF m T1 5 #[vR o, vI (16 : Int32), .unset] [(.int 16)] (fun t k => (fun t k => X1.arraylength hx (by rw [e1]; exact Ar2.1) (State.isArrayOf_alike hZ.alike Ar2.2.1) (g := (mkF m 4 #[vR o, vI (16 : Int32), .unset] [(.ref ar)])) rfl rfl (hb hby d18_4) t (by rw [len_of q2b q2c]; exact k)) t k) ?_
  refine own_vF m T1 6 #[vR o, vI (16 : Int32), .unset] [(.ref o), (.int 16)] (fun t k => XS.aloadN X1.here hx rfl (hb hby d18_5) rfl rfl k) ?_
  obtain ⟨T3, X3, e3, st3⟩ := getF (host := "") X1 hx hZ hown (Or.inl (hw _ (own_mt 92 rfl))) Via.refl e1 Fc_o (g := (mkF m 6 #[vR o, vI (16 : Int32), .unset] [(.ref o), (.int 16)])) rfl rfl (hb hby d18_6)
  refine own_vF m T3 9 #[vR o, vI (16 : Int32), .unset] [(.int 0), (.int 16)] (fun t k => st3 t k) ?_
  refine own_vF m T3 10 #[vR o, vI (16 : Int32), .unset] [(.int ((16 : Int32) >>> ((0 : Int32) &&& 31)))] (fun t k => XS.ishr X3.here hx rfl (hb hby d18_9) rfl k) ?_
  rw [show ((16 : Int32) >>> ((0 : Int32) &&& 31)) = (16 : Int32) from by decide]
  refine own_vF m T3 11 #[vR o, vI (16 : Int32), vI (16 : Int32)] [] (fun t k => XS.istoreN X3.here hx rfl (hb hby d18_10) rfl (l' := #[vR o, vI (16 : Int32), vI (16 : Int32)]) rfl k) ?_
  refine own_vF m T3 12 #[vR o, vI (16 : Int32), vI (16 : Int32)] [(.int 16)] (fun t k => XS.iloadN X3.here hx rfl (hb hby d18_11) rfl k) ?_
  refine own_vF m T3 13 #[vR o, vI (16 : Int32), vI (16 : Int32)] [(.int 16), (.int 16)] (fun t k => XS.iloadN X3.here hx rfl (hb hby d18_12) rfl k) ?_
  refine own_vF m T3 14 #[vR o, vI (16 : Int32), vI (16 : Int32)] [(.int ((16 : Int32) - (16 : Int32)))] (fun t k => XS.isub X3.here hx rfl (hb hby d18_13) rfl k) ?_
  rw [show ((16 : Int32) - (16 : Int32)) = (0 : Int32) from by decide]
  refine own_vF m T3 38 #[vR o, vI (16 : Int32), vI (16 : Int32)] [] (fun t k => XS.ifYes X3.here hx rfl (pc0 := 14) (pc' := 38) rfl (hb hby d18_14) rfl ((if0 _ _).trans (flt (by decide : ¬ ((0 : Int32) < (0 : Int32)))).2.2.2) (by decide) (by decide) k) ?_
  exact own_ret X3 (v := none) (fun _ => rfl) hlk (fun fs hr => X3.returnOut hx hret (hb hby d18_38) hr) (by rw [e3]; exact ⟨rfl, N0, rfl⟩) (by decide) (by decide)
def Qen16_16_17 (Z : State) (o ar : Addr) (cs : Int32) (ci ca : Addr) (h0 : Heap) (n0 : Nat) (v : Option Value) (h : Heap) (L : List Loc) : Prop := ∃ r, v = none ∧ Fr n0 L ∧ Keep h0 h [o] ∧ h0.size ≤ r ∧ Exa Z h o "java/lang/StringBuilder" ∧ Fld Z h o "java/lang/AbstractStringBuilder" "value" "[B" (.ref r) ∧ Fld Z h o "java/lang/AbstractStringBuilder" "coder" "B" (.int 0) ∧ Fld Z h o "java/lang/AbstractStringBuilder" "count" "I" (.int 16) ∧ own_By Z h r (34 : Int32)
set_option maxRecDepth 65536 in
set_option maxHeartbeats 40000000 in
theorem rm_Qen16_16_17 (l : Launch) (Z : State) (a0 : Array Value) (hw : ∀ d ∈ tables_1, d.before a0 Z = true) (o ar : Addr) (cs : Int32) (ci ca : Addr) (h0 : Heap) (n0 : Nat) (Z0 : n0 ≤ h0.size) (Od : Old Z n0 h0) (SS : own_SS Z cs ci ca) (Eo_o : Exa Z h0 o "java/lang/StringBuilder") (Fv_o : Fld Z h0 o "java/lang/AbstractStringBuilder" "value" "[B" (.ref ar)) (Fc_o : Fld Z h0 o "java/lang/AbstractStringBuilder" "coder" "B" (.int 0)) (Fn_o : Fld Z h0 o "java/lang/AbstractStringBuilder" "count" "I" (.int 16)) (Vb_ar : own_By Z h0 ar (16 : Int32)) (gn_o : n0 ≤ o) :
    own_MG l Z ((⟨"java/lang/AbstractStringBuilder", "ensureCapacityInternal", "(I)V"⟩ : MethodName)) jdk_68_method_9_code 3 none ({ frames := 3, cells := 1, slots := 34, locals := 75 } : Room) #[(.ref o), (.int 17)] h0 (Qen16_16_17 Z o ar cs ci ca h0 n0) := by
  refine own_mkG (plainFor_of_name pn_java_lang_AbstractStringBuilder) ?_
  intro p e s m below meth c s₁ X0 hx hby hml hown hnm hret hlk hZ e0
  have N0 := Fr.nil n0
  have K0 := Keep.refl h0 [o]
  rw [ef_RI3 m o (17 : Int32)]
  refine own_vF m s₁ 1 #[vR o, vI (17 : Int32), .unset] [(.ref o)] (fun t k => XS.aloadN X0.here hx rfl (hb hby d18_0) rfl rfl k) ?_
  obtain ⟨T1, X1, e1, st1⟩ := getF (host := "") X0 hx hZ hown (Or.inl (hw _ (own_mt 90 rfl))) Via.refl e0 Fv_o (g := (mkF m 1 #[vR o, vI (17 : Int32), .unset] [(.ref o)])) rfl rfl (hb hby d18_1)
  refine own_vF m T1 4 #[vR o, vI (17 : Int32), .unset] [(.ref ar)] (fun t k => st1 t k) ?_
  obtain ⟨-, -, ⟨c2, Ar2, q2a, q2b, q2c, q2d, q2e⟩, -⟩ := id Vb_ar
  refine own_vF m T1 5 #[vR o, vI (17 : Int32), .unset] [(.int 16)] (fun t k => (fun t k => X1.arraylength hx (by rw [e1]; exact Ar2.1) (State.isArrayOf_alike hZ.alike Ar2.2.1) (g := (mkF m 4 #[vR o, vI (17 : Int32), .unset] [(.ref ar)])) rfl rfl (hb hby d18_4) t (by rw [len_of q2b q2c]; exact k)) t k) ?_
  refine own_vF m T1 6 #[vR o, vI (17 : Int32), .unset] [(.ref o), (.int 16)] (fun t k => XS.aloadN X1.here hx rfl (hb hby d18_5) rfl rfl k) ?_
  obtain ⟨T3, X3, e3, st3⟩ := getF (host := "") X1 hx hZ hown (Or.inl (hw _ (own_mt 92 rfl))) Via.refl e1 Fc_o (g := (mkF m 6 #[vR o, vI (17 : Int32), .unset] [(.ref o), (.int 16)])) rfl rfl (hb hby d18_6)
  refine own_vF m T3 9 #[vR o, vI (17 : Int32), .unset] [(.int 0), (.int 16)] (fun t k => st3 t k) ?_
  refine own_vF m T3 10 #[vR o, vI (17 : Int32), .unset] [(.int ((16 : Int32) >>> ((0 : Int32) &&& 31)))] (fun t k => XS.ishr X3.here hx rfl (hb hby d18_9) rfl k) ?_
  rw [show ((16 : Int32) >>> ((0 : Int32) &&& 31)) = (16 : Int32) from by decide]
  refine own_vF m T3 11 #[vR o, vI (17 : Int32), vI (16 : Int32)] [] (fun t k => XS.istoreN X3.here hx rfl (hb hby d18_10) rfl (l' := #[vR o, vI (17 : Int32), vI (16 : Int32)]) rfl k) ?_
  refine own_vF m T3 12 #[vR o, vI (17 : Int32), vI (16 : Int32)] [(.int 17)] (fun t k => XS.iloadN X3.here hx rfl (hb hby d18_11) rfl k) ?_
  refine own_vF m T3 13 #[vR o, vI (17 : Int32), vI (16 : Int32)] [(.int 16), (.int 17)] (fun t k => XS.iloadN X3.here hx rfl (hb hby d18_12) rfl k) ?_
  refine own_vF m T3 14 #[vR o, vI (17 : Int32), vI (16 : Int32)] [(.int ((17 : Int32) - (16 : Int32)))] (fun t k => XS.isub X3.here hx rfl (hb hby d18_13) rfl k) ?_
  rw [show ((17 : Int32) - (16 : Int32)) = (1 : Int32) from by decide]
  refine own_vF m T3 17 #[vR o, vI (17 : Int32), vI (16 : Int32)] [] (fun t k => XS.ifNo X3.here hx rfl (hb hby d18_14) rfl ((if0 _ _).trans (tlt (by decide : ((0 : Int32) < (1 : Int32)))).2.2.2) k) ?_
  refine own_vF m T3 18 #[vR o, vI (17 : Int32), vI (16 : Int32)] [(.ref o)] (fun t k => XS.aloadN X3.here hx rfl (hb hby d18_17) rfl rfl k) ?_
  refine own_vF m T3 19 #[vR o, vI (17 : Int32), vI (16 : Int32)] [(.ref o), (.ref o)] (fun t k => XS.aloadN X3.here hx rfl (hb hby d18_18) rfl rfl k) ?_
  obtain ⟨T4, X4, e4, st4⟩ := getF (host := "") X3 hx hZ hown (Or.inl (hw _ (own_mt 90 rfl))) Via.refl e3 Fv_o (g := (mkF m 19 #[vR o, vI (17 : Int32), vI (16 : Int32)] [(.ref o), (.ref o)])) rfl rfl (hb hby d18_19)
  refine own_vF m T4 22 #[vR o, vI (17 : Int32), vI (16 : Int32)] [(.ref ar), (.ref o)] (fun t k => st4 t k) ?_
  refine own_vF m T4 23 #[vR o, vI (17 : Int32), vI (16 : Int32)] [(.ref o), (.ref ar), (.ref o)] (fun t k => XS.aloadN X4.here hx rfl (hb hby d18_22) rfl rfl k) ?_
  refine own_vF m T4 24 #[vR o, vI (17 : Int32), vI (16 : Int32)] [(.int 17), (.ref o), (.ref ar), (.ref o)] (fun t k => XS.iloadN X4.here hx rfl (hb hby d18_23) rfl k) ?_
  obtain ⟨_, T5, L5, X5, hQ5, st5⟩ := own_callP X4 hx hZ (y := (⟨"java/lang/AbstractStringBuilder", "newCapacity", "(I)I"⟩ : MethodName)) (W := 2) (C := "java/lang/StringBuilder") hown (hw _ (own_mt 113 rfl)) (hw _ (own_mt 115 rfl)) (hw _ (own_mt 116 rfl)) (hw _ (own_mt 114 rfl)) (hw _ (own_mt 86 rfl)) (hw _ (own_mt 117 rfl)) (by decide) (rm_Qnc16_17 l Z a0 hw o ar cs ci ca h0 n0 Z0 Od SS Eo_o Fv_o Fc_o Fn_o Vb_ar) (by decide) (by decide) e4 Eo_o (g := (mkF m 24 #[vR o, vI (17 : Int32), vI (16 : Int32)] [(.int 17), (.ref o), (.ref ar), (.ref o)])) rfl (by rw [hml]; rfl) (argsL := [(.int 17)]) (rest := [(.ref ar), (.ref o)]) rfl (lenOf pd_I__I rfl) rfl own_w0 (hb hby d18_24) (by decide) (by decide)
  obtain ⟨rfl, N5q, e5⟩ := hQ5
  have N5 := Fr.app N0 N5q
  refine own_vF m T5 27 #[vR o, vI (17 : Int32), vI (16 : Int32)] [(.int 34), (.ref ar), (.ref o)] (fun t k => st5 t k) ?_
  refine own_vF m T5 28 #[vR o, vI (17 : Int32), vI (16 : Int32)] [(.ref o), (.int 34), (.ref ar), (.ref o)] (fun t k => XS.aloadN X5.here hx rfl (hb hby d18_27) rfl rfl k) ?_
  obtain ⟨T6, X6, e6, st6⟩ := getF (host := "") X5 hx hZ hown (Or.inl (hw _ (own_mt 92 rfl))) Via.refl e5 Fc_o (g := (mkF m 28 #[vR o, vI (17 : Int32), vI (16 : Int32)] [(.ref o), (.int 34), (.ref ar), (.ref o)])) rfl rfl (hb hby d18_28)
  refine own_vF m T6 31 #[vR o, vI (17 : Int32), vI (16 : Int32)] [(.int 0), (.int 34), (.ref ar), (.ref o)] (fun t k => st6 t k) ?_
  refine own_vF m T6 32 #[vR o, vI (17 : Int32), vI (16 : Int32)] [(.int ((34 : Int32) <<< ((0 : Int32) &&& 31))), (.ref ar), (.ref o)] (fun t k => XS.ishl X6.here hx rfl (hb hby d18_31) rfl k) ?_
  rw [show ((34 : Int32) <<< ((0 : Int32) &&& 31)) = (34 : Int32) from by decide]
  obtain ⟨_, T7, L7, X7, hQ7, st7⟩ := own_callS X6 hx hZ (y := (⟨"java/util/Arrays", "copyOf", "([BI)[B"⟩ : MethodName)) (W := 1) hown (hw _ (own_mt 128 rfl)) (hw _ (own_mt 129 rfl)) (hw _ (own_mt 130 rfl)) (hw _ (own_mt 131 rfl)) (by decide) (rm_Qco l Z a0 hw ar h0 n0 Z0 Vb_ar) (by decide) (by decide) e6 (g := (mkF m 32 #[vR o, vI (17 : Int32), vI (16 : Int32)] [(.int 34), (.ref ar), (.ref o)])) rfl (by rw [hml]; rfl) (argsL := [(.ref ar), (.int 34)]) (rest := [(.ref o)]) rfl (lenOf pd_ABI__AB rfl) rfl own_w0 (hb hby d18_32) (by decide) (by decide)
  obtain ⟨r7, rfl, N7q, K7q, sq_r7, V7q⟩ := hQ7
  have N7 := Fr.app N5 N7q
  have ne8 : o ≠ r7 := Nat.ne_of_lt (Nat.lt_of_lt_of_le Eo_o.lt sq_r7)
  have sz_r7 : h0.size ≤ r7 := Nat.le_trans K0.1 sq_r7
  have f11 := Eo_o.keep K7q
  have f12 := Fv_o.keep K7q nin0
  have f13 := Fc_o.keep K7q nin0
  have f14 := Fn_o.keep K7q nin0
  have K16 := K0.trans K7q all0
  refine own_vF m T7 35 #[vR o, vI (17 : Int32), vI (16 : Int32)] [(.ref r7), (.ref o)] (fun t k => st7 t k) ?_
  obtain ⟨T17, h17, X17, e17, W17, st17⟩ := putF (host := "") X7 hx hZ hown (Or.inl (hw _ (own_mt 90 rfl))) Via.refl rfl f12 f11 (Or.inl (hw _ (own_mt 91 rfl))) (hw _ (own_mt 77 rfl)) (ty := (.array .byte)) (by decide) rfl rfl (g := (mkF m 35 #[vR o, vI (17 : Int32), vI (16 : Int32)] [(.ref r7), (.ref o)])) rfl rfl (hb hby d18_35)
  have f17w := f12.same W17
  have f19 := f11.wr W17
  have f20 := f13.other W17 (Or.inr (slot_ne (Or.inl (hw _ (own_mt 93 rfl))) (Or.inl (hw _ (own_mt 91 rfl))) (by decide) (t := .byte) (t' := (.array .byte)) (by decide) (by decide)))
  have f21 := f14.other W17 (Or.inr (slot_ne (Or.inl (hw _ (own_mt 107 rfl))) (Or.inl (hw _ (own_mt 91 rfl))) (by decide) (t := .int) (t' := (.array .byte)) (by decide) (by decide)))
  have f23 := V7q.other W17 (Ne.symm ne8)
  have K24 := K16.wr W17 (Or.inl (own_mt 0 rfl))
  have N17 := Fr.snoc X17 N7 gn_o
  refine own_vF m T17 38 #[vR o, vI (17 : Int32), vI (16 : Int32)] [] (fun t k => st17 t k) ?_
  exact own_ret X17 (v := none) (fun _ => rfl) hlk (fun fs hr => X17.returnOut hx hret (hb hby d18_38) hr) (by rw [e17]; exact ⟨r7, rfl, N17, K24, sz_r7, f19, f17w, f20, f21, f23⟩) (by decide) (by decide)
def Qif34_0_21 (Z : State) (o ar sg sa : Addr) (cs : Int32) (ci ca : Addr) (h0 : Heap) (n0 : Nat) (v : Option Value) (h : Heap) (L : List Loc) : Prop := v = none ∧ Fr n0 L ∧ h = h0
theorem d19_0 : decode jdk_68_method_71_code 0 = .ok (.getstatic 18, 3) := by decide +kernel
theorem d19_3 : decode jdk_68_method_71_code 3 = .ok (.ifCond .eq 18, 3) := by decide +kernel
theorem d19_6 : decode jdk_68_method_71_code 6 = .ok (.aload_n 0, 1) := by decide +kernel
theorem d19_7 : decode jdk_68_method_71_code 7 = .ok (.getfield 22, 3) := by decide +kernel
theorem d19_10 : decode jdk_68_method_71_code 10 = .ok (.aload_n 1, 1) := by decide +kernel
theorem d19_11 : decode jdk_68_method_71_code 11 = .ok (.invokevirtual 40, 3) := by decide +kernel
theorem d19_14 : decode jdk_68_method_71_code 14 = .ok (.if_icmp .eq 7, 3) := by decide +kernel
theorem d19_21 : decode jdk_68_method_71_code 21 = .ok (.return_, 1) := by decide +kernel
set_option maxRecDepth 65536 in
set_option maxHeartbeats 40000000 in
theorem rm_Qif34_0_21 (l : Launch) (Z : State) (a0 : Array Value) (hw : ∀ d ∈ tables_1, d.before a0 Z = true) (o ar sg sa : Addr) (cs : Int32) (ci ca : Addr) (h0 : Heap) (n0 : Nat) (Z0 : n0 ≤ h0.size) (Od : Old Z n0 h0) (SS : own_SS Z cs ci ca) (Eo_o : Exa Z h0 o "java/lang/StringBuilder") (Fv_o : Fld Z h0 o "java/lang/AbstractStringBuilder" "value" "[B" (.ref ar)) (Fc_o : Fld Z h0 o "java/lang/AbstractStringBuilder" "coder" "B" (.int 0)) (Fn_o : Fld Z h0 o "java/lang/AbstractStringBuilder" "count" "I" (.int 0)) (Vb_ar : own_By Z h0 ar (34 : Int32)) (Es_sg : Exa Z h0 sg "java/lang/String") (Fc_sg : Fld Z h0 sg "java/lang/String" "coder" "B" (.int 0)) (Fv_sg : Fld Z h0 sg "java/lang/String" "value" "[B" (.ref sa)) :
    own_MG l Z ((⟨"java/lang/AbstractStringBuilder", "inflateIfNeededFor", "(Ljava/lang/String;)V"⟩ : MethodName)) jdk_68_method_71_code 2 none ({ frames := 1, cells := 0, slots := 0, locals := 13 } : Room) #[(.ref o), (.ref sg)] h0 (Qif34_0_21 Z o ar sg sa cs ci ca h0 n0) := by
  refine own_mkG (plainFor_of_name pn_java_lang_AbstractStringBuilder) ?_
  intro p e s m below meth c s₁ X0 hx hby hml hown hnm hret hlk hZ e0
  have N0 := Fr.nil n0
  rw [ef_RR2 m o sg]
  obtain ⟨T1, X1, e1, st1⟩ := getS2 (host := "") X0 hx hZ hown (Or.inl (hw _ (own_mt 89 rfl))) Via.refl e0 (SS.1.ext Od.2) (g := (mkF m 0 #[vR o, vR sg] [])) rfl (hb hby d19_0)
  refine own_vF m T1 3 #[vR o, vR sg] [(.int cs)] (fun t k => st1 t k) ?_
  refine own_vF m T1 6 #[vR o, vR sg] [] (fun t k => XS.ifNo X1.here hx rfl (hb hby d19_3) rfl ((if0 _ _).trans (feq SS.2.1).1) k) ?_
  refine own_vF m T1 7 #[vR o, vR sg] [(.ref o)] (fun t k => XS.aloadN X1.here hx rfl (hb hby d19_6) rfl rfl k) ?_
  obtain ⟨T2, X2, e2, st2⟩ := getF (host := "") X1 hx hZ hown (Or.inl (hw _ (own_mt 92 rfl))) Via.refl e1 Fc_o (g := (mkF m 7 #[vR o, vR sg] [(.ref o)])) rfl rfl (hb hby d19_7)
  refine own_vF m T2 10 #[vR o, vR sg] [(.int 0)] (fun t k => st2 t k) ?_
  refine own_vF m T2 11 #[vR o, vR sg] [(.ref sg), (.int 0)] (fun t k => XS.aloadN X2.here hx rfl (hb hby d19_10) rfl rfl k) ?_
  obtain ⟨_, T3, L3, X3, hQ3, st3⟩ := own_callV X2 hx hZ (y := (⟨"java/lang/String", "coder", "()B"⟩ : MethodName)) (W := 1) (C := "java/lang/String") hown (hw _ (own_mt 149 rfl)) (hw _ (own_mt 70 rfl)) (hw _ (own_mt 72 rfl)) (hw _ (own_mt 71 rfl)) (hw _ (own_mt 6 rfl)) (hw _ (own_mt 73 rfl)) (by decide) (rm_Qcd l Z a0 hw sg sa cs ci ca h0 n0 Z0 Od SS Es_sg Fc_sg Fv_sg) (by decide) (by decide) e2 Es_sg (g := (mkF m 11 #[vR o, vR sg] [(.ref sg), (.int 0)])) rfl (by rw [hml]; rfl) (argsL := []) (rest := [(.int 0)]) rfl (lenOf pd___B rfl) rfl own_w0 (hb hby d19_11) (by decide) (by decide)
  obtain ⟨rfl, N3q, e3⟩ := hQ3
  have N3 := Fr.app N0 N3q
  refine own_vF m T3 14 #[vR o, vR sg] [(.int 0), (.int 0)] (fun t k => st3 t k) ?_
  refine own_vF m T3 21 #[vR o, vR sg] [] (fun t k => XS.icmpYes X3.here hx rfl (pc0 := 14) (pc' := 21) rfl (hb hby d19_14) rfl (teq (by decide : ((0 : Int32) = (0 : Int32)))).1 (by decide) (by decide) k) ?_
  exact own_ret X3 (v := none) (fun _ => rfl) hlk (fun fs hr => X3.returnOut hx hret (hb hby d19_21) hr) (by rw [e3]; exact ⟨rfl, N3, rfl⟩) (by decide) (by decide)
def Qgb34_0_21 (Z : State) (sg sa ar : Addr) (cs : Int32) (ci ca : Addr) (h0 : Heap) (n0 : Nat) (v : Option Value) (h : Heap) (L : List Loc) : Prop := v = none ∧ Fr n0 L ∧ Keep h0 h [ar] ∧ own_By Z h ar (34 : Int32)
theorem d20_0 : decode jdk_42_method_147_code 0 = .ok (.aload_n 0, 1) := by decide +kernel
theorem d20_1 : decode jdk_42_method_147_code 1 = .ok (.invokevirtual 335, 3) := by decide +kernel
theorem d20_4 : decode jdk_42_method_147_code 4 = .ok (.iload_n 3, 1) := by decide +kernel
theorem d20_5 : decode jdk_42_method_147_code 5 = .ok (.if_icmp .ne 23, 3) := by decide +kernel
theorem d20_8 : decode jdk_42_method_147_code 8 = .ok (.aload_n 0, 1) := by decide +kernel
theorem d20_9 : decode jdk_42_method_147_code 9 = .ok (.getfield 9, 3) := by decide +kernel
theorem d20_12 : decode jdk_42_method_147_code 12 = .ok (.iconst 0, 1) := by decide +kernel
theorem d20_13 : decode jdk_42_method_147_code 13 = .ok (.aload_n 1, 1) := by decide +kernel
theorem d20_14 : decode jdk_42_method_147_code 14 = .ok (.iload_n 2, 1) := by decide +kernel
theorem d20_15 : decode jdk_42_method_147_code 15 = .ok (.iload_n 3, 1) := by decide +kernel
theorem d20_16 : decode jdk_42_method_147_code 16 = .ok (.ishl, 1) := by decide +kernel
theorem d20_17 : decode jdk_42_method_147_code 17 = .ok (.aload_n 0, 1) := by decide +kernel
theorem d20_18 : decode jdk_42_method_147_code 18 = .ok (.getfield 9, 3) := by decide +kernel
theorem d20_21 : decode jdk_42_method_147_code 21 = .ok (.arraylength, 1) := by decide +kernel
theorem d20_22 : decode jdk_42_method_147_code 22 = .ok (.invokestatic 212, 3) := by decide +kernel
theorem d20_25 : decode jdk_42_method_147_code 25 = .ok (.goto 18, 3) := by decide +kernel
theorem d20_43 : decode jdk_42_method_147_code 43 = .ok (.return_, 1) := by decide +kernel
theorem ef_RRII4 (m : MethodId) (x0 : Addr) (x1 : Addr) (x2 : Int32) (x3 : Int32) : entryFrame m #[(.ref x0), (.ref x1), (.int x2), (.int x3)] 4 = mkF m 0 #[vR x0, vR x1, vI x2, vI x3] [] := by first | (simp [entryFrame, mkF, argsToLocals, Value.category]; done) | rfl
set_option maxRecDepth 65536 in
set_option maxHeartbeats 40000000 in
theorem rm_Qgb34_0_21 (l : Launch) (Z : State) (a0 : Array Value) (hw : ∀ d ∈ tables_1, d.before a0 Z = true) (sg sa ar : Addr) (cs : Int32) (ci ca : Addr) (h0 : Heap) (n0 : Nat) (Z0 : n0 ≤ h0.size) (Od : Old Z n0 h0) (SS : own_SS Z cs ci ca) (Es_sg : Exa Z h0 sg "java/lang/String") (Fc_sg : Fld Z h0 sg "java/lang/String" "coder" "B" (.int 0)) (Fv_sg : Fld Z h0 sg "java/lang/String" "value" "[B" (.ref sa)) (Vb_sa : own_By Z h0 sa (21 : Int32)) (Vb_ar : own_By Z h0 ar (34 : Int32)) (gn_ar : n0 ≤ ar) (ne_sa : sa ≠ ar) :
    own_MG l Z ((⟨"java/lang/String", "getBytes", "([BIB)V"⟩ : MethodName)) jdk_42_method_147_code 4 none ({ frames := 1, cells := 0, slots := 0, locals := 60 } : Room) #[(.ref sg), (.ref ar), (.int 0), (.int 0)] h0 (Qgb34_0_21 Z sg sa ar cs ci ca h0 n0) := by
  refine own_mkG (plainFor_of_name pn_java_lang_String) ?_
  intro p e s m below meth c s₁ X0 hx hby hml hown hnm hret hlk hZ e0
  have N0 := Fr.nil n0
  have K0 := Keep.refl h0 [ar]
  rw [ef_RRII4 m sg ar (0 : Int32) (0 : Int32)]
  refine own_vF m s₁ 1 #[vR sg, vR ar, vI (0 : Int32), vI (0 : Int32)] [(.ref sg)] (fun t k => XS.aloadN X0.here hx rfl (hb hby d20_0) rfl rfl k) ?_
  obtain ⟨_, T1, L1, X1, hQ1, st1⟩ := own_callV X0 hx hZ (y := (⟨"java/lang/String", "coder", "()B"⟩ : MethodName)) (W := 0) (C := "java/lang/String") hown (hw _ (own_mt 69 rfl)) (hw _ (own_mt 70 rfl)) (hw _ (own_mt 72 rfl)) (hw _ (own_mt 71 rfl)) (hw _ (own_mt 6 rfl)) (hw _ (own_mt 73 rfl)) (by decide) (rm_Qcd l Z a0 hw sg sa cs ci ca h0 n0 Z0 Od SS Es_sg Fc_sg Fv_sg) (by decide) (by decide) e0 Es_sg (g := (mkF m 1 #[vR sg, vR ar, vI (0 : Int32), vI (0 : Int32)] [(.ref sg)])) rfl (by rw [hml]; rfl) (argsL := []) (rest := []) rfl (lenOf pd___B rfl) rfl own_w0 (hb hby d20_1) (by decide) (by decide)
  obtain ⟨rfl, N1q, e1⟩ := hQ1
  have N1 := Fr.app N0 N1q
  refine own_vF m T1 4 #[vR sg, vR ar, vI (0 : Int32), vI (0 : Int32)] [(.int 0)] (fun t k => st1 t k) ?_
  refine own_vF m T1 5 #[vR sg, vR ar, vI (0 : Int32), vI (0 : Int32)] [(.int 0), (.int 0)] (fun t k => XS.iloadN X1.here hx rfl (hb hby d20_4) rfl k) ?_
  refine own_vF m T1 8 #[vR sg, vR ar, vI (0 : Int32), vI (0 : Int32)] [] (fun t k => XS.icmpNo X1.here hx rfl (hb hby d20_5) rfl (teq (by decide : ((0 : Int32) = (0 : Int32)))).2 k) ?_
  refine own_vF m T1 9 #[vR sg, vR ar, vI (0 : Int32), vI (0 : Int32)] [(.ref sg)] (fun t k => XS.aloadN X1.here hx rfl (hb hby d20_8) rfl rfl k) ?_
  obtain ⟨T2, X2, e2, st2⟩ := getF (host := "") X1 hx hZ hown (Or.inl (hw _ (own_mt 43 rfl))) Via.refl e1 Fv_sg (g := (mkF m 9 #[vR sg, vR ar, vI (0 : Int32), vI (0 : Int32)] [(.ref sg)])) rfl rfl (hb hby d20_9)
  refine own_vF m T2 12 #[vR sg, vR ar, vI (0 : Int32), vI (0 : Int32)] [(.ref sa)] (fun t k => st2 t k) ?_
  refine own_vF m T2 13 #[vR sg, vR ar, vI (0 : Int32), vI (0 : Int32)] [(.int 0), (.ref sa)] (fun t k => XS.iconst X2.here hx rfl (hb hby d20_12) k) ?_
  refine own_vF m T2 14 #[vR sg, vR ar, vI (0 : Int32), vI (0 : Int32)] [(.ref ar), (.int 0), (.ref sa)] (fun t k => XS.aloadN X2.here hx rfl (hb hby d20_13) rfl rfl k) ?_
  refine own_vF m T2 15 #[vR sg, vR ar, vI (0 : Int32), vI (0 : Int32)] [(.int 0), (.ref ar), (.int 0), (.ref sa)] (fun t k => XS.iloadN X2.here hx rfl (hb hby d20_14) rfl k) ?_
  refine own_vF m T2 16 #[vR sg, vR ar, vI (0 : Int32), vI (0 : Int32)] [(.int 0), (.int 0), (.ref ar), (.int 0), (.ref sa)] (fun t k => XS.iloadN X2.here hx rfl (hb hby d20_15) rfl k) ?_
  refine own_vF m T2 17 #[vR sg, vR ar, vI (0 : Int32), vI (0 : Int32)] [(.int ((0 : Int32) <<< ((0 : Int32) &&& 31))), (.ref ar), (.int 0), (.ref sa)] (fun t k => XS.ishl X2.here hx rfl (hb hby d20_16) rfl k) ?_
  rw [show ((0 : Int32) <<< ((0 : Int32) &&& 31)) = (0 : Int32) from by decide]
  refine own_vF m T2 18 #[vR sg, vR ar, vI (0 : Int32), vI (0 : Int32)] [(.ref sg), (.int 0), (.ref ar), (.int 0), (.ref sa)] (fun t k => XS.aloadN X2.here hx rfl (hb hby d20_17) rfl rfl k) ?_
  obtain ⟨T3, X3, e3, st3⟩ := getF (host := "") X2 hx hZ hown (Or.inl (hw _ (own_mt 43 rfl))) Via.refl e2 Fv_sg (g := (mkF m 18 #[vR sg, vR ar, vI (0 : Int32), vI (0 : Int32)] [(.ref sg), (.int 0), (.ref ar), (.int 0), (.ref sa)])) rfl rfl (hb hby d20_18)
  refine own_vF m T3 21 #[vR sg, vR ar, vI (0 : Int32), vI (0 : Int32)] [(.ref sa), (.int 0), (.ref ar), (.int 0), (.ref sa)] (fun t k => st3 t k) ?_
  obtain ⟨-, -, ⟨c4, Ar4, q4a, q4b, q4c, q4d, q4e⟩, -⟩ := id Vb_sa
  refine own_vF m T3 22 #[vR sg, vR ar, vI (0 : Int32), vI (0 : Int32)] [(.int 21), (.int 0), (.ref ar), (.int 0), (.ref sa)] (fun t k => (fun t k => X3.arraylength hx (by rw [e3]; exact Ar4.1) (State.isArrayOf_alike hZ.alike Ar4.2.1) (g := (mkF m 21 #[vR sg, vR ar, vI (0 : Int32), vI (0 : Int32)] [(.ref sa), (.int 0), (.ref ar), (.int 0), (.ref sa)])) rfl rfl (hb hby d20_21) t (by rw [len_of q4b q4c]; exact k)) t k) ?_
  obtain ⟨T5, h5, L5, X5, e5, N5, K5q, V5, st5⟩ := own_cpB X3 hx hZ hown (hw _ (own_mt 155 rfl)) (hw _ (own_mt 138 rfl)) (hw _ (own_mt 136 rfl)) (hw _ (own_mt 137 rfl)) e3 Vb_sa Vb_ar (by decide) (by decide) (by decide) (by decide) (by decide) N1 gn_ar (g := (mkF m 22 #[vR sg, vR ar, vI (0 : Int32), vI (0 : Int32)] [(.int 21), (.int 0), (.ref ar), (.int 0), (.ref sa)])) rfl (by rw [hml]; rfl) rfl (hb hby d20_22) (by decide) (W := 0) own_w0 (by decide)
  subst e5
  have K11 := K0.trans K5q (allS (Or.inl (own_mt 0 rfl)) all0)
  refine own_vF m T5 25 #[vR sg, vR ar, vI (0 : Int32), vI (0 : Int32)] [] (fun t k => st5 t k) ?_
  refine own_vF m T5 43 #[vR sg, vR ar, vI (0 : Int32), vI (0 : Int32)] [] (fun t k => XS.goto X5.here hx rfl (pc0 := 25) (pc' := 43) rfl (hb hby d20_25) (by decide) (by decide) k) ?_
  exact own_ret X5 (v := none) (fun _ => rfl) hlk (fun fs hr => X5.returnOut hx hret (hb hby d20_43) hr) (by exact ⟨rfl, N5, K11, V5⟩) (by decide) (by decide)
def Qps34_0_21 (Z : State) (o ar sg sa : Addr) (cs : Int32) (ci ca : Addr) (h0 : Heap) (n0 : Nat) (v : Option Value) (h : Heap) (L : List Loc) : Prop := v = none ∧ Fr n0 L ∧ Keep h0 h [ar] ∧ own_By Z h ar (34 : Int32)
theorem d21_0 : decode jdk_68_method_73_code 0 = .ok (.aload_n 0, 1) := by decide +kernel
theorem d21_1 : decode jdk_68_method_73_code 1 = .ok (.aload_n 2, 1) := by decide +kernel
theorem pd_Ljava_lang_String___V : parseMethodDescriptor "(Ljava/lang/String;)V" = some ⟨[(.object "java/lang/String")], none⟩ := by decide +kernel
theorem d21_2 : decode jdk_68_method_73_code 2 = .ok (.invokevirtual 397, 3) := by decide +kernel
theorem d21_5 : decode jdk_68_method_73_code 5 = .ok (.aload_n 2, 1) := by decide +kernel
theorem d21_6 : decode jdk_68_method_73_code 6 = .ok (.aload_n 0, 1) := by decide +kernel
theorem d21_7 : decode jdk_68_method_73_code 7 = .ok (.getfield 15, 3) := by decide +kernel
theorem d21_10 : decode jdk_68_method_73_code 10 = .ok (.iload_n 1, 1) := by decide +kernel
theorem d21_11 : decode jdk_68_method_73_code 11 = .ok (.aload_n 0, 1) := by decide +kernel
theorem d21_12 : decode jdk_68_method_73_code 12 = .ok (.getfield 22, 3) := by decide +kernel
theorem pd_ABIB__V : parseMethodDescriptor "([BIB)V" = some ⟨[(.array .byte), .int, .byte], none⟩ := by decide +kernel
theorem d21_15 : decode jdk_68_method_73_code 15 = .ok (.invokevirtual 399, 3) := by decide +kernel
theorem d21_18 : decode jdk_68_method_73_code 18 = .ok (.return_, 1) := by decide +kernel
theorem ef_RIR3 (m : MethodId) (x0 : Addr) (x1 : Int32) (x2 : Addr) : entryFrame m #[(.ref x0), (.int x1), (.ref x2)] 3 = mkF m 0 #[vR x0, vI x1, vR x2] [] := by first | (simp [entryFrame, mkF, argsToLocals, Value.category]; done) | rfl
set_option maxRecDepth 65536 in
set_option maxHeartbeats 40000000 in
theorem rm_Qps34_0_21 (l : Launch) (Z : State) (a0 : Array Value) (hw : ∀ d ∈ tables_1, d.before a0 Z = true) (o ar sg sa : Addr) (cs : Int32) (ci ca : Addr) (h0 : Heap) (n0 : Nat) (Z0 : n0 ≤ h0.size) (Od : Old Z n0 h0) (SS : own_SS Z cs ci ca) (Eo_o : Exa Z h0 o "java/lang/StringBuilder") (Fv_o : Fld Z h0 o "java/lang/AbstractStringBuilder" "value" "[B" (.ref ar)) (Fc_o : Fld Z h0 o "java/lang/AbstractStringBuilder" "coder" "B" (.int 0)) (Fn_o : Fld Z h0 o "java/lang/AbstractStringBuilder" "count" "I" (.int 0)) (Vb_ar : own_By Z h0 ar (34 : Int32)) (Es_sg : Exa Z h0 sg "java/lang/String") (Fc_sg : Fld Z h0 sg "java/lang/String" "coder" "B" (.int 0)) (Fv_sg : Fld Z h0 sg "java/lang/String" "value" "[B" (.ref sa)) (Vb_sa : own_By Z h0 sa (21 : Int32)) (gn_ar : n0 ≤ ar) (ne_sa : sa ≠ ar) :
    own_MG l Z ((⟨"java/lang/AbstractStringBuilder", "putStringAt", "(ILjava/lang/String;)V"⟩ : MethodName)) jdk_68_method_73_code 3 none ({ frames := 2, cells := 0, slots := 0, locals := 75 } : Room) #[(.ref o), (.int 0), (.ref sg)] h0 (Qps34_0_21 Z o ar sg sa cs ci ca h0 n0) := by
  refine own_mkG (plainFor_of_name pn_java_lang_AbstractStringBuilder) ?_
  intro p e s m below meth c s₁ X0 hx hby hml hown hnm hret hlk hZ e0
  have N0 := Fr.nil n0
  have K0 := Keep.refl h0 [ar]
  rw [ef_RIR3 m o (0 : Int32) sg]
  refine own_vF m s₁ 1 #[vR o, vI (0 : Int32), vR sg] [(.ref o)] (fun t k => XS.aloadN X0.here hx rfl (hb hby d21_0) rfl rfl k) ?_
  refine own_vF m s₁ 2 #[vR o, vI (0 : Int32), vR sg] [(.ref sg), (.ref o)] (fun t k => XS.aloadN X0.here hx rfl (hb hby d21_1) rfl rfl k) ?_
  obtain ⟨_, T1, L1, X1, hQ1, st1⟩ := own_callP X0 hx hZ (y := (⟨"java/lang/AbstractStringBuilder", "inflateIfNeededFor", "(Ljava/lang/String;)V"⟩ : MethodName)) (W := 0) (C := "java/lang/StringBuilder") hown (hw _ (own_mt 144 rfl)) (hw _ (own_mt 146 rfl)) (hw _ (own_mt 147 rfl)) (hw _ (own_mt 145 rfl)) (hw _ (own_mt 86 rfl)) (hw _ (own_mt 148 rfl)) (by decide) (rm_Qif34_0_21 l Z a0 hw o ar sg sa cs ci ca h0 n0 Z0 Od SS Eo_o Fv_o Fc_o Fn_o Vb_ar Es_sg Fc_sg Fv_sg) (by decide) (by decide) e0 Eo_o (g := (mkF m 2 #[vR o, vI (0 : Int32), vR sg] [(.ref sg), (.ref o)])) rfl (by rw [hml]; rfl) (argsL := [(.ref sg)]) (rest := []) rfl (lenOf pd_Ljava_lang_String___V rfl) rfl own_w0 (hb hby d21_2) (by decide) (by decide)
  obtain ⟨rfl, N1q, e1⟩ := hQ1
  have N1 := Fr.app N0 N1q
  refine own_vF m T1 5 #[vR o, vI (0 : Int32), vR sg] [] (fun t k => st1 t k) ?_
  refine own_vF m T1 6 #[vR o, vI (0 : Int32), vR sg] [(.ref sg)] (fun t k => XS.aloadN X1.here hx rfl (hb hby d21_5) rfl rfl k) ?_
  refine own_vF m T1 7 #[vR o, vI (0 : Int32), vR sg] [(.ref o), (.ref sg)] (fun t k => XS.aloadN X1.here hx rfl (hb hby d21_6) rfl rfl k) ?_
  obtain ⟨T2, X2, e2, st2⟩ := getF (host := "") X1 hx hZ hown (Or.inl (hw _ (own_mt 90 rfl))) Via.refl e1 Fv_o (g := (mkF m 7 #[vR o, vI (0 : Int32), vR sg] [(.ref o), (.ref sg)])) rfl rfl (hb hby d21_7)
  refine own_vF m T2 10 #[vR o, vI (0 : Int32), vR sg] [(.ref ar), (.ref sg)] (fun t k => st2 t k) ?_
  refine own_vF m T2 11 #[vR o, vI (0 : Int32), vR sg] [(.int 0), (.ref ar), (.ref sg)] (fun t k => XS.iloadN X2.here hx rfl (hb hby d21_10) rfl k) ?_
  refine own_vF m T2 12 #[vR o, vI (0 : Int32), vR sg] [(.ref o), (.int 0), (.ref ar), (.ref sg)] (fun t k => XS.aloadN X2.here hx rfl (hb hby d21_11) rfl rfl k) ?_
  obtain ⟨T3, X3, e3, st3⟩ := getF (host := "") X2 hx hZ hown (Or.inl (hw _ (own_mt 92 rfl))) Via.refl e2 Fc_o (g := (mkF m 12 #[vR o, vI (0 : Int32), vR sg] [(.ref o), (.int 0), (.ref ar), (.ref sg)])) rfl rfl (hb hby d21_12)
  refine own_vF m T3 15 #[vR o, vI (0 : Int32), vR sg] [(.int 0), (.int 0), (.ref ar), (.ref sg)] (fun t k => st3 t k) ?_
  obtain ⟨_, T4, L4, X4, hQ4, st4⟩ := own_callV X3 hx hZ (y := (⟨"java/lang/String", "getBytes", "([BIB)V"⟩ : MethodName)) (W := 0) (C := "java/lang/String") hown (hw _ (own_mt 150 rfl)) (hw _ (own_mt 151 rfl)) (hw _ (own_mt 153 rfl)) (hw _ (own_mt 152 rfl)) (hw _ (own_mt 6 rfl)) (hw _ (own_mt 154 rfl)) (by decide) (rm_Qgb34_0_21 l Z a0 hw sg sa ar cs ci ca h0 n0 Z0 Od SS Es_sg Fc_sg Fv_sg Vb_sa Vb_ar gn_ar ne_sa) (by decide) (by decide) e3 Es_sg (g := (mkF m 15 #[vR o, vI (0 : Int32), vR sg] [(.int 0), (.int 0), (.ref ar), (.ref sg)])) rfl (by rw [hml]; rfl) (argsL := [(.ref ar), (.int 0), (.int 0)]) (rest := []) rfl (lenOf pd_ABIB__V rfl) rfl own_w0 (hb hby d21_15) (by decide) (by decide)
  obtain ⟨rfl, N4q, K4q, V4q⟩ := hQ4
  have N4 := Fr.app N1 N4q
  have K14 := K0.trans K4q (allS (Or.inl (own_mt 0 rfl)) all0)
  refine own_vF m T4 18 #[vR o, vI (0 : Int32), vR sg] [] (fun t k => st4 t k) ?_
  exact own_ret X4 (v := none) (fun _ => rfl) hlk (fun fs hr => X4.returnOut hx hret (hb hby d21_18) hr) (by exact ⟨rfl, N4, K14, V4q⟩) (by decide) (by decide)
def Qif34_21_1 (Z : State) (o ar sg sa : Addr) (cs : Int32) (ci ca : Addr) (h0 : Heap) (n0 : Nat) (v : Option Value) (h : Heap) (L : List Loc) : Prop := v = none ∧ Fr n0 L ∧ h = h0
set_option maxRecDepth 65536 in
set_option maxHeartbeats 40000000 in
theorem rm_Qif34_21_1 (l : Launch) (Z : State) (a0 : Array Value) (hw : ∀ d ∈ tables_1, d.before a0 Z = true) (o ar sg sa : Addr) (cs : Int32) (ci ca : Addr) (h0 : Heap) (n0 : Nat) (Z0 : n0 ≤ h0.size) (Od : Old Z n0 h0) (SS : own_SS Z cs ci ca) (Eo_o : Exa Z h0 o "java/lang/StringBuilder") (Fv_o : Fld Z h0 o "java/lang/AbstractStringBuilder" "value" "[B" (.ref ar)) (Fc_o : Fld Z h0 o "java/lang/AbstractStringBuilder" "coder" "B" (.int 0)) (Fn_o : Fld Z h0 o "java/lang/AbstractStringBuilder" "count" "I" (.int 21)) (Vb_ar : own_By Z h0 ar (34 : Int32)) (Es_sg : Exa Z h0 sg "java/lang/String") (Fc_sg : Fld Z h0 sg "java/lang/String" "coder" "B" (.int 0)) (Fv_sg : Fld Z h0 sg "java/lang/String" "value" "[B" (.ref sa)) :
    own_MG l Z ((⟨"java/lang/AbstractStringBuilder", "inflateIfNeededFor", "(Ljava/lang/String;)V"⟩ : MethodName)) jdk_68_method_71_code 2 none ({ frames := 1, cells := 0, slots := 0, locals := 13 } : Room) #[(.ref o), (.ref sg)] h0 (Qif34_21_1 Z o ar sg sa cs ci ca h0 n0) := by
  refine own_mkG (plainFor_of_name pn_java_lang_AbstractStringBuilder) ?_
  intro p e s m below meth c s₁ X0 hx hby hml hown hnm hret hlk hZ e0
  have N0 := Fr.nil n0
  rw [ef_RR2 m o sg]
  obtain ⟨T1, X1, e1, st1⟩ := getS2 (host := "") X0 hx hZ hown (Or.inl (hw _ (own_mt 89 rfl))) Via.refl e0 (SS.1.ext Od.2) (g := (mkF m 0 #[vR o, vR sg] [])) rfl (hb hby d19_0)
  refine own_vF m T1 3 #[vR o, vR sg] [(.int cs)] (fun t k => st1 t k) ?_
  refine own_vF m T1 6 #[vR o, vR sg] [] (fun t k => XS.ifNo X1.here hx rfl (hb hby d19_3) rfl ((if0 _ _).trans (feq SS.2.1).1) k) ?_
  refine own_vF m T1 7 #[vR o, vR sg] [(.ref o)] (fun t k => XS.aloadN X1.here hx rfl (hb hby d19_6) rfl rfl k) ?_
  obtain ⟨T2, X2, e2, st2⟩ := getF (host := "") X1 hx hZ hown (Or.inl (hw _ (own_mt 92 rfl))) Via.refl e1 Fc_o (g := (mkF m 7 #[vR o, vR sg] [(.ref o)])) rfl rfl (hb hby d19_7)
  refine own_vF m T2 10 #[vR o, vR sg] [(.int 0)] (fun t k => st2 t k) ?_
  refine own_vF m T2 11 #[vR o, vR sg] [(.ref sg), (.int 0)] (fun t k => XS.aloadN X2.here hx rfl (hb hby d19_10) rfl rfl k) ?_
  obtain ⟨_, T3, L3, X3, hQ3, st3⟩ := own_callV X2 hx hZ (y := (⟨"java/lang/String", "coder", "()B"⟩ : MethodName)) (W := 1) (C := "java/lang/String") hown (hw _ (own_mt 149 rfl)) (hw _ (own_mt 70 rfl)) (hw _ (own_mt 72 rfl)) (hw _ (own_mt 71 rfl)) (hw _ (own_mt 6 rfl)) (hw _ (own_mt 73 rfl)) (by decide) (rm_Qcd l Z a0 hw sg sa cs ci ca h0 n0 Z0 Od SS Es_sg Fc_sg Fv_sg) (by decide) (by decide) e2 Es_sg (g := (mkF m 11 #[vR o, vR sg] [(.ref sg), (.int 0)])) rfl (by rw [hml]; rfl) (argsL := []) (rest := [(.int 0)]) rfl (lenOf pd___B rfl) rfl own_w0 (hb hby d19_11) (by decide) (by decide)
  obtain ⟨rfl, N3q, e3⟩ := hQ3
  have N3 := Fr.app N0 N3q
  refine own_vF m T3 14 #[vR o, vR sg] [(.int 0), (.int 0)] (fun t k => st3 t k) ?_
  refine own_vF m T3 21 #[vR o, vR sg] [] (fun t k => XS.icmpYes X3.here hx rfl (pc0 := 14) (pc' := 21) rfl (hb hby d19_14) rfl (teq (by decide : ((0 : Int32) = (0 : Int32)))).1 (by decide) (by decide) k) ?_
  exact own_ret X3 (v := none) (fun _ => rfl) hlk (fun fs hr => X3.returnOut hx hret (hb hby d19_21) hr) (by rw [e3]; exact ⟨rfl, N3, rfl⟩) (by decide) (by decide)
def Qgb34_21_1 (Z : State) (sg sa ar : Addr) (cs : Int32) (ci ca : Addr) (h0 : Heap) (n0 : Nat) (v : Option Value) (h : Heap) (L : List Loc) : Prop := v = none ∧ Fr n0 L ∧ Keep h0 h [ar] ∧ own_By Z h ar (34 : Int32)
set_option maxRecDepth 65536 in
set_option maxHeartbeats 40000000 in
theorem rm_Qgb34_21_1 (l : Launch) (Z : State) (a0 : Array Value) (hw : ∀ d ∈ tables_1, d.before a0 Z = true) (sg sa ar : Addr) (cs : Int32) (ci ca : Addr) (h0 : Heap) (n0 : Nat) (Z0 : n0 ≤ h0.size) (Od : Old Z n0 h0) (SS : own_SS Z cs ci ca) (Es_sg : Exa Z h0 sg "java/lang/String") (Fc_sg : Fld Z h0 sg "java/lang/String" "coder" "B" (.int 0)) (Fv_sg : Fld Z h0 sg "java/lang/String" "value" "[B" (.ref sa)) (Vb_sa : own_By Z h0 sa (1 : Int32)) (Vb_ar : own_By Z h0 ar (34 : Int32)) (gn_ar : n0 ≤ ar) (ne_sa : sa ≠ ar) :
    own_MG l Z ((⟨"java/lang/String", "getBytes", "([BIB)V"⟩ : MethodName)) jdk_42_method_147_code 4 none ({ frames := 1, cells := 0, slots := 0, locals := 60 } : Room) #[(.ref sg), (.ref ar), (.int 21), (.int 0)] h0 (Qgb34_21_1 Z sg sa ar cs ci ca h0 n0) := by
  refine own_mkG (plainFor_of_name pn_java_lang_String) ?_
  intro p e s m below meth c s₁ X0 hx hby hml hown hnm hret hlk hZ e0
  have N0 := Fr.nil n0
  have K0 := Keep.refl h0 [ar]
  rw [ef_RRII4 m sg ar (21 : Int32) (0 : Int32)]
  refine own_vF m s₁ 1 #[vR sg, vR ar, vI (21 : Int32), vI (0 : Int32)] [(.ref sg)] (fun t k => XS.aloadN X0.here hx rfl (hb hby d20_0) rfl rfl k) ?_
  obtain ⟨_, T1, L1, X1, hQ1, st1⟩ := own_callV X0 hx hZ (y := (⟨"java/lang/String", "coder", "()B"⟩ : MethodName)) (W := 0) (C := "java/lang/String") hown (hw _ (own_mt 69 rfl)) (hw _ (own_mt 70 rfl)) (hw _ (own_mt 72 rfl)) (hw _ (own_mt 71 rfl)) (hw _ (own_mt 6 rfl)) (hw _ (own_mt 73 rfl)) (by decide) (rm_Qcd l Z a0 hw sg sa cs ci ca h0 n0 Z0 Od SS Es_sg Fc_sg Fv_sg) (by decide) (by decide) e0 Es_sg (g := (mkF m 1 #[vR sg, vR ar, vI (21 : Int32), vI (0 : Int32)] [(.ref sg)])) rfl (by rw [hml]; rfl) (argsL := []) (rest := []) rfl (lenOf pd___B rfl) rfl own_w0 (hb hby d20_1) (by decide) (by decide)
  obtain ⟨rfl, N1q, e1⟩ := hQ1
  have N1 := Fr.app N0 N1q
  refine own_vF m T1 4 #[vR sg, vR ar, vI (21 : Int32), vI (0 : Int32)] [(.int 0)] (fun t k => st1 t k) ?_
  refine own_vF m T1 5 #[vR sg, vR ar, vI (21 : Int32), vI (0 : Int32)] [(.int 0), (.int 0)] (fun t k => XS.iloadN X1.here hx rfl (hb hby d20_4) rfl k) ?_
  refine own_vF m T1 8 #[vR sg, vR ar, vI (21 : Int32), vI (0 : Int32)] [] (fun t k => XS.icmpNo X1.here hx rfl (hb hby d20_5) rfl (teq (by decide : ((0 : Int32) = (0 : Int32)))).2 k) ?_
  refine own_vF m T1 9 #[vR sg, vR ar, vI (21 : Int32), vI (0 : Int32)] [(.ref sg)] (fun t k => XS.aloadN X1.here hx rfl (hb hby d20_8) rfl rfl k) ?_
  obtain ⟨T2, X2, e2, st2⟩ := getF (host := "") X1 hx hZ hown (Or.inl (hw _ (own_mt 43 rfl))) Via.refl e1 Fv_sg (g := (mkF m 9 #[vR sg, vR ar, vI (21 : Int32), vI (0 : Int32)] [(.ref sg)])) rfl rfl (hb hby d20_9)
  refine own_vF m T2 12 #[vR sg, vR ar, vI (21 : Int32), vI (0 : Int32)] [(.ref sa)] (fun t k => st2 t k) ?_
  refine own_vF m T2 13 #[vR sg, vR ar, vI (21 : Int32), vI (0 : Int32)] [(.int 0), (.ref sa)] (fun t k => XS.iconst X2.here hx rfl (hb hby d20_12) k) ?_
  refine own_vF m T2 14 #[vR sg, vR ar, vI (21 : Int32), vI (0 : Int32)] [(.ref ar), (.int 0), (.ref sa)] (fun t k => XS.aloadN X2.here hx rfl (hb hby d20_13) rfl rfl k) ?_
  refine own_vF m T2 15 #[vR sg, vR ar, vI (21 : Int32), vI (0 : Int32)] [(.int 21), (.ref ar), (.int 0), (.ref sa)] (fun t k => XS.iloadN X2.here hx rfl (hb hby d20_14) rfl k) ?_
  refine own_vF m T2 16 #[vR sg, vR ar, vI (21 : Int32), vI (0 : Int32)] [(.int 0), (.int 21), (.ref ar), (.int 0), (.ref sa)] (fun t k => XS.iloadN X2.here hx rfl (hb hby d20_15) rfl k) ?_
  refine own_vF m T2 17 #[vR sg, vR ar, vI (21 : Int32), vI (0 : Int32)] [(.int ((21 : Int32) <<< ((0 : Int32) &&& 31))), (.ref ar), (.int 0), (.ref sa)] (fun t k => XS.ishl X2.here hx rfl (hb hby d20_16) rfl k) ?_
  rw [show ((21 : Int32) <<< ((0 : Int32) &&& 31)) = (21 : Int32) from by decide]
  refine own_vF m T2 18 #[vR sg, vR ar, vI (21 : Int32), vI (0 : Int32)] [(.ref sg), (.int 21), (.ref ar), (.int 0), (.ref sa)] (fun t k => XS.aloadN X2.here hx rfl (hb hby d20_17) rfl rfl k) ?_
  obtain ⟨T3, X3, e3, st3⟩ := getF (host := "") X2 hx hZ hown (Or.inl (hw _ (own_mt 43 rfl))) Via.refl e2 Fv_sg (g := (mkF m 18 #[vR sg, vR ar, vI (21 : Int32), vI (0 : Int32)] [(.ref sg), (.int 21), (.ref ar), (.int 0), (.ref sa)])) rfl rfl (hb hby d20_18)
  refine own_vF m T3 21 #[vR sg, vR ar, vI (21 : Int32), vI (0 : Int32)] [(.ref sa), (.int 21), (.ref ar), (.int 0), (.ref sa)] (fun t k => st3 t k) ?_
  obtain ⟨-, -, ⟨c4, Ar4, q4a, q4b, q4c, q4d, q4e⟩, -⟩ := id Vb_sa
  refine own_vF m T3 22 #[vR sg, vR ar, vI (21 : Int32), vI (0 : Int32)] [(.int 1), (.int 21), (.ref ar), (.int 0), (.ref sa)] (fun t k => (fun t k => X3.arraylength hx (by rw [e3]; exact Ar4.1) (State.isArrayOf_alike hZ.alike Ar4.2.1) (g := (mkF m 21 #[vR sg, vR ar, vI (21 : Int32), vI (0 : Int32)] [(.ref sa), (.int 21), (.ref ar), (.int 0), (.ref sa)])) rfl rfl (hb hby d20_21) t (by rw [len_of q4b q4c]; exact k)) t k) ?_
  obtain ⟨T5, h5, L5, X5, e5, N5, K5q, V5, st5⟩ := own_cpB X3 hx hZ hown (hw _ (own_mt 155 rfl)) (hw _ (own_mt 138 rfl)) (hw _ (own_mt 136 rfl)) (hw _ (own_mt 137 rfl)) e3 Vb_sa Vb_ar (by decide) (by decide) (by decide) (by decide) (by decide) N1 gn_ar (g := (mkF m 22 #[vR sg, vR ar, vI (21 : Int32), vI (0 : Int32)] [(.int 1), (.int 21), (.ref ar), (.int 0), (.ref sa)])) rfl (by rw [hml]; rfl) rfl (hb hby d20_22) (by decide) (W := 0) own_w0 (by decide)
  subst e5
  have K11 := K0.trans K5q (allS (Or.inl (own_mt 0 rfl)) all0)
  refine own_vF m T5 25 #[vR sg, vR ar, vI (21 : Int32), vI (0 : Int32)] [] (fun t k => st5 t k) ?_
  refine own_vF m T5 43 #[vR sg, vR ar, vI (21 : Int32), vI (0 : Int32)] [] (fun t k => XS.goto X5.here hx rfl (pc0 := 25) (pc' := 43) rfl (hb hby d20_25) (by decide) (by decide) k) ?_
  exact own_ret X5 (v := none) (fun _ => rfl) hlk (fun fs hr => X5.returnOut hx hret (hb hby d20_43) hr) (by exact ⟨rfl, N5, K11, V5⟩) (by decide) (by decide)
def Qps34_21_1 (Z : State) (o ar sg sa : Addr) (cs : Int32) (ci ca : Addr) (h0 : Heap) (n0 : Nat) (v : Option Value) (h : Heap) (L : List Loc) : Prop := v = none ∧ Fr n0 L ∧ Keep h0 h [ar] ∧ own_By Z h ar (34 : Int32)
set_option maxRecDepth 65536 in
set_option maxHeartbeats 40000000 in
theorem rm_Qps34_21_1 (l : Launch) (Z : State) (a0 : Array Value) (hw : ∀ d ∈ tables_1, d.before a0 Z = true) (o ar sg sa : Addr) (cs : Int32) (ci ca : Addr) (h0 : Heap) (n0 : Nat) (Z0 : n0 ≤ h0.size) (Od : Old Z n0 h0) (SS : own_SS Z cs ci ca) (Eo_o : Exa Z h0 o "java/lang/StringBuilder") (Fv_o : Fld Z h0 o "java/lang/AbstractStringBuilder" "value" "[B" (.ref ar)) (Fc_o : Fld Z h0 o "java/lang/AbstractStringBuilder" "coder" "B" (.int 0)) (Fn_o : Fld Z h0 o "java/lang/AbstractStringBuilder" "count" "I" (.int 21)) (Vb_ar : own_By Z h0 ar (34 : Int32)) (Es_sg : Exa Z h0 sg "java/lang/String") (Fc_sg : Fld Z h0 sg "java/lang/String" "coder" "B" (.int 0)) (Fv_sg : Fld Z h0 sg "java/lang/String" "value" "[B" (.ref sa)) (Vb_sa : own_By Z h0 sa (1 : Int32)) (gn_ar : n0 ≤ ar) (ne_sa : sa ≠ ar) :
    own_MG l Z ((⟨"java/lang/AbstractStringBuilder", "putStringAt", "(ILjava/lang/String;)V"⟩ : MethodName)) jdk_68_method_73_code 3 none ({ frames := 2, cells := 0, slots := 0, locals := 75 } : Room) #[(.ref o), (.int 21), (.ref sg)] h0 (Qps34_21_1 Z o ar sg sa cs ci ca h0 n0) := by
  refine own_mkG (plainFor_of_name pn_java_lang_AbstractStringBuilder) ?_
  intro p e s m below meth c s₁ X0 hx hby hml hown hnm hret hlk hZ e0
  have N0 := Fr.nil n0
  have K0 := Keep.refl h0 [ar]
  rw [ef_RIR3 m o (21 : Int32) sg]
  refine own_vF m s₁ 1 #[vR o, vI (21 : Int32), vR sg] [(.ref o)] (fun t k => XS.aloadN X0.here hx rfl (hb hby d21_0) rfl rfl k) ?_
  refine own_vF m s₁ 2 #[vR o, vI (21 : Int32), vR sg] [(.ref sg), (.ref o)] (fun t k => XS.aloadN X0.here hx rfl (hb hby d21_1) rfl rfl k) ?_
  obtain ⟨_, T1, L1, X1, hQ1, st1⟩ := own_callP X0 hx hZ (y := (⟨"java/lang/AbstractStringBuilder", "inflateIfNeededFor", "(Ljava/lang/String;)V"⟩ : MethodName)) (W := 0) (C := "java/lang/StringBuilder") hown (hw _ (own_mt 144 rfl)) (hw _ (own_mt 146 rfl)) (hw _ (own_mt 147 rfl)) (hw _ (own_mt 145 rfl)) (hw _ (own_mt 86 rfl)) (hw _ (own_mt 148 rfl)) (by decide) (rm_Qif34_21_1 l Z a0 hw o ar sg sa cs ci ca h0 n0 Z0 Od SS Eo_o Fv_o Fc_o Fn_o Vb_ar Es_sg Fc_sg Fv_sg) (by decide) (by decide) e0 Eo_o (g := (mkF m 2 #[vR o, vI (21 : Int32), vR sg] [(.ref sg), (.ref o)])) rfl (by rw [hml]; rfl) (argsL := [(.ref sg)]) (rest := []) rfl (lenOf pd_Ljava_lang_String___V rfl) rfl own_w0 (hb hby d21_2) (by decide) (by decide)
  obtain ⟨rfl, N1q, e1⟩ := hQ1
  have N1 := Fr.app N0 N1q
  refine own_vF m T1 5 #[vR o, vI (21 : Int32), vR sg] [] (fun t k => st1 t k) ?_
  refine own_vF m T1 6 #[vR o, vI (21 : Int32), vR sg] [(.ref sg)] (fun t k => XS.aloadN X1.here hx rfl (hb hby d21_5) rfl rfl k) ?_
  refine own_vF m T1 7 #[vR o, vI (21 : Int32), vR sg] [(.ref o), (.ref sg)] (fun t k => XS.aloadN X1.here hx rfl (hb hby d21_6) rfl rfl k) ?_
  obtain ⟨T2, X2, e2, st2⟩ := getF (host := "") X1 hx hZ hown (Or.inl (hw _ (own_mt 90 rfl))) Via.refl e1 Fv_o (g := (mkF m 7 #[vR o, vI (21 : Int32), vR sg] [(.ref o), (.ref sg)])) rfl rfl (hb hby d21_7)
  refine own_vF m T2 10 #[vR o, vI (21 : Int32), vR sg] [(.ref ar), (.ref sg)] (fun t k => st2 t k) ?_
  refine own_vF m T2 11 #[vR o, vI (21 : Int32), vR sg] [(.int 21), (.ref ar), (.ref sg)] (fun t k => XS.iloadN X2.here hx rfl (hb hby d21_10) rfl k) ?_
  refine own_vF m T2 12 #[vR o, vI (21 : Int32), vR sg] [(.ref o), (.int 21), (.ref ar), (.ref sg)] (fun t k => XS.aloadN X2.here hx rfl (hb hby d21_11) rfl rfl k) ?_
  obtain ⟨T3, X3, e3, st3⟩ := getF (host := "") X2 hx hZ hown (Or.inl (hw _ (own_mt 92 rfl))) Via.refl e2 Fc_o (g := (mkF m 12 #[vR o, vI (21 : Int32), vR sg] [(.ref o), (.int 21), (.ref ar), (.ref sg)])) rfl rfl (hb hby d21_12)
  refine own_vF m T3 15 #[vR o, vI (21 : Int32), vR sg] [(.int 0), (.int 21), (.ref ar), (.ref sg)] (fun t k => st3 t k) ?_
  obtain ⟨_, T4, L4, X4, hQ4, st4⟩ := own_callV X3 hx hZ (y := (⟨"java/lang/String", "getBytes", "([BIB)V"⟩ : MethodName)) (W := 0) (C := "java/lang/String") hown (hw _ (own_mt 150 rfl)) (hw _ (own_mt 151 rfl)) (hw _ (own_mt 153 rfl)) (hw _ (own_mt 152 rfl)) (hw _ (own_mt 6 rfl)) (hw _ (own_mt 154 rfl)) (by decide) (rm_Qgb34_21_1 l Z a0 hw sg sa ar cs ci ca h0 n0 Z0 Od SS Es_sg Fc_sg Fv_sg Vb_sa Vb_ar gn_ar ne_sa) (by decide) (by decide) e3 Es_sg (g := (mkF m 15 #[vR o, vI (21 : Int32), vR sg] [(.int 0), (.int 21), (.ref ar), (.ref sg)])) rfl (by rw [hml]; rfl) (argsL := [(.ref ar), (.int 21), (.int 0)]) (rest := []) rfl (lenOf pd_ABIB__V rfl) rfl own_w0 (hb hby d21_15) (by decide) (by decide)
  obtain ⟨rfl, N4q, K4q, V4q⟩ := hQ4
  have N4 := Fr.app N1 N4q
  have K14 := K0.trans K4q (allS (Or.inl (own_mt 0 rfl)) all0)
  refine own_vF m T4 18 #[vR o, vI (21 : Int32), vR sg] [] (fun t k => st4 t k) ?_
  exact own_ret X4 (v := none) (fun _ => rfl) hlk (fun fs hr => X4.returnOut hx hret (hb hby d21_18) hr) (by exact ⟨rfl, N4, K14, V4q⟩) (by decide) (by decide)
def Qif16_0_16 (Z : State) (o ar sg sa : Addr) (cs : Int32) (ci ca : Addr) (h0 : Heap) (n0 : Nat) (v : Option Value) (h : Heap) (L : List Loc) : Prop := v = none ∧ Fr n0 L ∧ h = h0
set_option maxRecDepth 65536 in
set_option maxHeartbeats 40000000 in
theorem rm_Qif16_0_16 (l : Launch) (Z : State) (a0 : Array Value) (hw : ∀ d ∈ tables_1, d.before a0 Z = true) (o ar sg sa : Addr) (cs : Int32) (ci ca : Addr) (h0 : Heap) (n0 : Nat) (Z0 : n0 ≤ h0.size) (Od : Old Z n0 h0) (SS : own_SS Z cs ci ca) (Eo_o : Exa Z h0 o "java/lang/StringBuilder") (Fv_o : Fld Z h0 o "java/lang/AbstractStringBuilder" "value" "[B" (.ref ar)) (Fc_o : Fld Z h0 o "java/lang/AbstractStringBuilder" "coder" "B" (.int 0)) (Fn_o : Fld Z h0 o "java/lang/AbstractStringBuilder" "count" "I" (.int 0)) (Vb_ar : own_By Z h0 ar (16 : Int32)) (Es_sg : Exa Z h0 sg "java/lang/String") (Fc_sg : Fld Z h0 sg "java/lang/String" "coder" "B" (.int 0)) (Fv_sg : Fld Z h0 sg "java/lang/String" "value" "[B" (.ref sa)) :
    own_MG l Z ((⟨"java/lang/AbstractStringBuilder", "inflateIfNeededFor", "(Ljava/lang/String;)V"⟩ : MethodName)) jdk_68_method_71_code 2 none ({ frames := 1, cells := 0, slots := 0, locals := 13 } : Room) #[(.ref o), (.ref sg)] h0 (Qif16_0_16 Z o ar sg sa cs ci ca h0 n0) := by
  refine own_mkG (plainFor_of_name pn_java_lang_AbstractStringBuilder) ?_
  intro p e s m below meth c s₁ X0 hx hby hml hown hnm hret hlk hZ e0
  have N0 := Fr.nil n0
  rw [ef_RR2 m o sg]
  obtain ⟨T1, X1, e1, st1⟩ := getS2 (host := "") X0 hx hZ hown (Or.inl (hw _ (own_mt 89 rfl))) Via.refl e0 (SS.1.ext Od.2) (g := (mkF m 0 #[vR o, vR sg] [])) rfl (hb hby d19_0)
  refine own_vF m T1 3 #[vR o, vR sg] [(.int cs)] (fun t k => st1 t k) ?_
  refine own_vF m T1 6 #[vR o, vR sg] [] (fun t k => XS.ifNo X1.here hx rfl (hb hby d19_3) rfl ((if0 _ _).trans (feq SS.2.1).1) k) ?_
  refine own_vF m T1 7 #[vR o, vR sg] [(.ref o)] (fun t k => XS.aloadN X1.here hx rfl (hb hby d19_6) rfl rfl k) ?_
  obtain ⟨T2, X2, e2, st2⟩ := getF (host := "") X1 hx hZ hown (Or.inl (hw _ (own_mt 92 rfl))) Via.refl e1 Fc_o (g := (mkF m 7 #[vR o, vR sg] [(.ref o)])) rfl rfl (hb hby d19_7)
  refine own_vF m T2 10 #[vR o, vR sg] [(.int 0)] (fun t k => st2 t k) ?_
  refine own_vF m T2 11 #[vR o, vR sg] [(.ref sg), (.int 0)] (fun t k => XS.aloadN X2.here hx rfl (hb hby d19_10) rfl rfl k) ?_
  obtain ⟨_, T3, L3, X3, hQ3, st3⟩ := own_callV X2 hx hZ (y := (⟨"java/lang/String", "coder", "()B"⟩ : MethodName)) (W := 1) (C := "java/lang/String") hown (hw _ (own_mt 149 rfl)) (hw _ (own_mt 70 rfl)) (hw _ (own_mt 72 rfl)) (hw _ (own_mt 71 rfl)) (hw _ (own_mt 6 rfl)) (hw _ (own_mt 73 rfl)) (by decide) (rm_Qcd l Z a0 hw sg sa cs ci ca h0 n0 Z0 Od SS Es_sg Fc_sg Fv_sg) (by decide) (by decide) e2 Es_sg (g := (mkF m 11 #[vR o, vR sg] [(.ref sg), (.int 0)])) rfl (by rw [hml]; rfl) (argsL := []) (rest := [(.int 0)]) rfl (lenOf pd___B rfl) rfl own_w0 (hb hby d19_11) (by decide) (by decide)
  obtain ⟨rfl, N3q, e3⟩ := hQ3
  have N3 := Fr.app N0 N3q
  refine own_vF m T3 14 #[vR o, vR sg] [(.int 0), (.int 0)] (fun t k => st3 t k) ?_
  refine own_vF m T3 21 #[vR o, vR sg] [] (fun t k => XS.icmpYes X3.here hx rfl (pc0 := 14) (pc' := 21) rfl (hb hby d19_14) rfl (teq (by decide : ((0 : Int32) = (0 : Int32)))).1 (by decide) (by decide) k) ?_
  exact own_ret X3 (v := none) (fun _ => rfl) hlk (fun fs hr => X3.returnOut hx hret (hb hby d19_21) hr) (by rw [e3]; exact ⟨rfl, N3, rfl⟩) (by decide) (by decide)
def Qgb16_0_16 (Z : State) (sg sa ar : Addr) (cs : Int32) (ci ca : Addr) (h0 : Heap) (n0 : Nat) (v : Option Value) (h : Heap) (L : List Loc) : Prop := v = none ∧ Fr n0 L ∧ Keep h0 h [ar] ∧ own_By Z h ar (16 : Int32)
set_option maxRecDepth 65536 in
set_option maxHeartbeats 40000000 in
theorem rm_Qgb16_0_16 (l : Launch) (Z : State) (a0 : Array Value) (hw : ∀ d ∈ tables_1, d.before a0 Z = true) (sg sa ar : Addr) (cs : Int32) (ci ca : Addr) (h0 : Heap) (n0 : Nat) (Z0 : n0 ≤ h0.size) (Od : Old Z n0 h0) (SS : own_SS Z cs ci ca) (Es_sg : Exa Z h0 sg "java/lang/String") (Fc_sg : Fld Z h0 sg "java/lang/String" "coder" "B" (.int 0)) (Fv_sg : Fld Z h0 sg "java/lang/String" "value" "[B" (.ref sa)) (Vb_sa : own_By Z h0 sa (16 : Int32)) (Vb_ar : own_By Z h0 ar (16 : Int32)) (gn_ar : n0 ≤ ar) (ne_sa : sa ≠ ar) :
    own_MG l Z ((⟨"java/lang/String", "getBytes", "([BIB)V"⟩ : MethodName)) jdk_42_method_147_code 4 none ({ frames := 1, cells := 0, slots := 0, locals := 60 } : Room) #[(.ref sg), (.ref ar), (.int 0), (.int 0)] h0 (Qgb16_0_16 Z sg sa ar cs ci ca h0 n0) := by
  refine own_mkG (plainFor_of_name pn_java_lang_String) ?_
  intro p e s m below meth c s₁ X0 hx hby hml hown hnm hret hlk hZ e0
  have N0 := Fr.nil n0
  have K0 := Keep.refl h0 [ar]
  rw [ef_RRII4 m sg ar (0 : Int32) (0 : Int32)]
  refine own_vF m s₁ 1 #[vR sg, vR ar, vI (0 : Int32), vI (0 : Int32)] [(.ref sg)] (fun t k => XS.aloadN X0.here hx rfl (hb hby d20_0) rfl rfl k) ?_
  obtain ⟨_, T1, L1, X1, hQ1, st1⟩ := own_callV X0 hx hZ (y := (⟨"java/lang/String", "coder", "()B"⟩ : MethodName)) (W := 0) (C := "java/lang/String") hown (hw _ (own_mt 69 rfl)) (hw _ (own_mt 70 rfl)) (hw _ (own_mt 72 rfl)) (hw _ (own_mt 71 rfl)) (hw _ (own_mt 6 rfl)) (hw _ (own_mt 73 rfl)) (by decide) (rm_Qcd l Z a0 hw sg sa cs ci ca h0 n0 Z0 Od SS Es_sg Fc_sg Fv_sg) (by decide) (by decide) e0 Es_sg (g := (mkF m 1 #[vR sg, vR ar, vI (0 : Int32), vI (0 : Int32)] [(.ref sg)])) rfl (by rw [hml]; rfl) (argsL := []) (rest := []) rfl (lenOf pd___B rfl) rfl own_w0 (hb hby d20_1) (by decide) (by decide)
  obtain ⟨rfl, N1q, e1⟩ := hQ1
  have N1 := Fr.app N0 N1q
  refine own_vF m T1 4 #[vR sg, vR ar, vI (0 : Int32), vI (0 : Int32)] [(.int 0)] (fun t k => st1 t k) ?_
  refine own_vF m T1 5 #[vR sg, vR ar, vI (0 : Int32), vI (0 : Int32)] [(.int 0), (.int 0)] (fun t k => XS.iloadN X1.here hx rfl (hb hby d20_4) rfl k) ?_
  refine own_vF m T1 8 #[vR sg, vR ar, vI (0 : Int32), vI (0 : Int32)] [] (fun t k => XS.icmpNo X1.here hx rfl (hb hby d20_5) rfl (teq (by decide : ((0 : Int32) = (0 : Int32)))).2 k) ?_
  refine own_vF m T1 9 #[vR sg, vR ar, vI (0 : Int32), vI (0 : Int32)] [(.ref sg)] (fun t k => XS.aloadN X1.here hx rfl (hb hby d20_8) rfl rfl k) ?_
  obtain ⟨T2, X2, e2, st2⟩ := getF (host := "") X1 hx hZ hown (Or.inl (hw _ (own_mt 43 rfl))) Via.refl e1 Fv_sg (g := (mkF m 9 #[vR sg, vR ar, vI (0 : Int32), vI (0 : Int32)] [(.ref sg)])) rfl rfl (hb hby d20_9)
  refine own_vF m T2 12 #[vR sg, vR ar, vI (0 : Int32), vI (0 : Int32)] [(.ref sa)] (fun t k => st2 t k) ?_
  refine own_vF m T2 13 #[vR sg, vR ar, vI (0 : Int32), vI (0 : Int32)] [(.int 0), (.ref sa)] (fun t k => XS.iconst X2.here hx rfl (hb hby d20_12) k) ?_
  refine own_vF m T2 14 #[vR sg, vR ar, vI (0 : Int32), vI (0 : Int32)] [(.ref ar), (.int 0), (.ref sa)] (fun t k => XS.aloadN X2.here hx rfl (hb hby d20_13) rfl rfl k) ?_
  refine own_vF m T2 15 #[vR sg, vR ar, vI (0 : Int32), vI (0 : Int32)] [(.int 0), (.ref ar), (.int 0), (.ref sa)] (fun t k => XS.iloadN X2.here hx rfl (hb hby d20_14) rfl k) ?_
  refine own_vF m T2 16 #[vR sg, vR ar, vI (0 : Int32), vI (0 : Int32)] [(.int 0), (.int 0), (.ref ar), (.int 0), (.ref sa)] (fun t k => XS.iloadN X2.here hx rfl (hb hby d20_15) rfl k) ?_
  refine own_vF m T2 17 #[vR sg, vR ar, vI (0 : Int32), vI (0 : Int32)] [(.int ((0 : Int32) <<< ((0 : Int32) &&& 31))), (.ref ar), (.int 0), (.ref sa)] (fun t k => XS.ishl X2.here hx rfl (hb hby d20_16) rfl k) ?_
  rw [show ((0 : Int32) <<< ((0 : Int32) &&& 31)) = (0 : Int32) from by decide]
  refine own_vF m T2 18 #[vR sg, vR ar, vI (0 : Int32), vI (0 : Int32)] [(.ref sg), (.int 0), (.ref ar), (.int 0), (.ref sa)] (fun t k => XS.aloadN X2.here hx rfl (hb hby d20_17) rfl rfl k) ?_
  obtain ⟨T3, X3, e3, st3⟩ := getF (host := "") X2 hx hZ hown (Or.inl (hw _ (own_mt 43 rfl))) Via.refl e2 Fv_sg (g := (mkF m 18 #[vR sg, vR ar, vI (0 : Int32), vI (0 : Int32)] [(.ref sg), (.int 0), (.ref ar), (.int 0), (.ref sa)])) rfl rfl (hb hby d20_18)
  refine own_vF m T3 21 #[vR sg, vR ar, vI (0 : Int32), vI (0 : Int32)] [(.ref sa), (.int 0), (.ref ar), (.int 0), (.ref sa)] (fun t k => st3 t k) ?_
  obtain ⟨-, -, ⟨c4, Ar4, q4a, q4b, q4c, q4d, q4e⟩, -⟩ := id Vb_sa
  refine own_vF m T3 22 #[vR sg, vR ar, vI (0 : Int32), vI (0 : Int32)] [(.int 16), (.int 0), (.ref ar), (.int 0), (.ref sa)] (fun t k => (fun t k => X3.arraylength hx (by rw [e3]; exact Ar4.1) (State.isArrayOf_alike hZ.alike Ar4.2.1) (g := (mkF m 21 #[vR sg, vR ar, vI (0 : Int32), vI (0 : Int32)] [(.ref sa), (.int 0), (.ref ar), (.int 0), (.ref sa)])) rfl rfl (hb hby d20_21) t (by rw [len_of q4b q4c]; exact k)) t k) ?_
  obtain ⟨T5, h5, L5, X5, e5, N5, K5q, V5, st5⟩ := own_cpB X3 hx hZ hown (hw _ (own_mt 155 rfl)) (hw _ (own_mt 138 rfl)) (hw _ (own_mt 136 rfl)) (hw _ (own_mt 137 rfl)) e3 Vb_sa Vb_ar (by decide) (by decide) (by decide) (by decide) (by decide) N1 gn_ar (g := (mkF m 22 #[vR sg, vR ar, vI (0 : Int32), vI (0 : Int32)] [(.int 16), (.int 0), (.ref ar), (.int 0), (.ref sa)])) rfl (by rw [hml]; rfl) rfl (hb hby d20_22) (by decide) (W := 0) own_w0 (by decide)
  subst e5
  have K11 := K0.trans K5q (allS (Or.inl (own_mt 0 rfl)) all0)
  refine own_vF m T5 25 #[vR sg, vR ar, vI (0 : Int32), vI (0 : Int32)] [] (fun t k => st5 t k) ?_
  refine own_vF m T5 43 #[vR sg, vR ar, vI (0 : Int32), vI (0 : Int32)] [] (fun t k => XS.goto X5.here hx rfl (pc0 := 25) (pc' := 43) rfl (hb hby d20_25) (by decide) (by decide) k) ?_
  exact own_ret X5 (v := none) (fun _ => rfl) hlk (fun fs hr => X5.returnOut hx hret (hb hby d20_43) hr) (by exact ⟨rfl, N5, K11, V5⟩) (by decide) (by decide)
def Qps16_0_16 (Z : State) (o ar sg sa : Addr) (cs : Int32) (ci ca : Addr) (h0 : Heap) (n0 : Nat) (v : Option Value) (h : Heap) (L : List Loc) : Prop := v = none ∧ Fr n0 L ∧ Keep h0 h [ar] ∧ own_By Z h ar (16 : Int32)
set_option maxRecDepth 65536 in
set_option maxHeartbeats 40000000 in
theorem rm_Qps16_0_16 (l : Launch) (Z : State) (a0 : Array Value) (hw : ∀ d ∈ tables_1, d.before a0 Z = true) (o ar sg sa : Addr) (cs : Int32) (ci ca : Addr) (h0 : Heap) (n0 : Nat) (Z0 : n0 ≤ h0.size) (Od : Old Z n0 h0) (SS : own_SS Z cs ci ca) (Eo_o : Exa Z h0 o "java/lang/StringBuilder") (Fv_o : Fld Z h0 o "java/lang/AbstractStringBuilder" "value" "[B" (.ref ar)) (Fc_o : Fld Z h0 o "java/lang/AbstractStringBuilder" "coder" "B" (.int 0)) (Fn_o : Fld Z h0 o "java/lang/AbstractStringBuilder" "count" "I" (.int 0)) (Vb_ar : own_By Z h0 ar (16 : Int32)) (Es_sg : Exa Z h0 sg "java/lang/String") (Fc_sg : Fld Z h0 sg "java/lang/String" "coder" "B" (.int 0)) (Fv_sg : Fld Z h0 sg "java/lang/String" "value" "[B" (.ref sa)) (Vb_sa : own_By Z h0 sa (16 : Int32)) (gn_ar : n0 ≤ ar) (ne_sa : sa ≠ ar) :
    own_MG l Z ((⟨"java/lang/AbstractStringBuilder", "putStringAt", "(ILjava/lang/String;)V"⟩ : MethodName)) jdk_68_method_73_code 3 none ({ frames := 2, cells := 0, slots := 0, locals := 75 } : Room) #[(.ref o), (.int 0), (.ref sg)] h0 (Qps16_0_16 Z o ar sg sa cs ci ca h0 n0) := by
  refine own_mkG (plainFor_of_name pn_java_lang_AbstractStringBuilder) ?_
  intro p e s m below meth c s₁ X0 hx hby hml hown hnm hret hlk hZ e0
  have N0 := Fr.nil n0
  have K0 := Keep.refl h0 [ar]
  rw [ef_RIR3 m o (0 : Int32) sg]
  refine own_vF m s₁ 1 #[vR o, vI (0 : Int32), vR sg] [(.ref o)] (fun t k => XS.aloadN X0.here hx rfl (hb hby d21_0) rfl rfl k) ?_
  refine own_vF m s₁ 2 #[vR o, vI (0 : Int32), vR sg] [(.ref sg), (.ref o)] (fun t k => XS.aloadN X0.here hx rfl (hb hby d21_1) rfl rfl k) ?_
  obtain ⟨_, T1, L1, X1, hQ1, st1⟩ := own_callP X0 hx hZ (y := (⟨"java/lang/AbstractStringBuilder", "inflateIfNeededFor", "(Ljava/lang/String;)V"⟩ : MethodName)) (W := 0) (C := "java/lang/StringBuilder") hown (hw _ (own_mt 144 rfl)) (hw _ (own_mt 146 rfl)) (hw _ (own_mt 147 rfl)) (hw _ (own_mt 145 rfl)) (hw _ (own_mt 86 rfl)) (hw _ (own_mt 148 rfl)) (by decide) (rm_Qif16_0_16 l Z a0 hw o ar sg sa cs ci ca h0 n0 Z0 Od SS Eo_o Fv_o Fc_o Fn_o Vb_ar Es_sg Fc_sg Fv_sg) (by decide) (by decide) e0 Eo_o (g := (mkF m 2 #[vR o, vI (0 : Int32), vR sg] [(.ref sg), (.ref o)])) rfl (by rw [hml]; rfl) (argsL := [(.ref sg)]) (rest := []) rfl (lenOf pd_Ljava_lang_String___V rfl) rfl own_w0 (hb hby d21_2) (by decide) (by decide)
  obtain ⟨rfl, N1q, e1⟩ := hQ1
  have N1 := Fr.app N0 N1q
  refine own_vF m T1 5 #[vR o, vI (0 : Int32), vR sg] [] (fun t k => st1 t k) ?_
  refine own_vF m T1 6 #[vR o, vI (0 : Int32), vR sg] [(.ref sg)] (fun t k => XS.aloadN X1.here hx rfl (hb hby d21_5) rfl rfl k) ?_
  refine own_vF m T1 7 #[vR o, vI (0 : Int32), vR sg] [(.ref o), (.ref sg)] (fun t k => XS.aloadN X1.here hx rfl (hb hby d21_6) rfl rfl k) ?_
  obtain ⟨T2, X2, e2, st2⟩ := getF (host := "") X1 hx hZ hown (Or.inl (hw _ (own_mt 90 rfl))) Via.refl e1 Fv_o (g := (mkF m 7 #[vR o, vI (0 : Int32), vR sg] [(.ref o), (.ref sg)])) rfl rfl (hb hby d21_7)
  refine own_vF m T2 10 #[vR o, vI (0 : Int32), vR sg] [(.ref ar), (.ref sg)] (fun t k => st2 t k) ?_
  refine own_vF m T2 11 #[vR o, vI (0 : Int32), vR sg] [(.int 0), (.ref ar), (.ref sg)] (fun t k => XS.iloadN X2.here hx rfl (hb hby d21_10) rfl k) ?_
  refine own_vF m T2 12 #[vR o, vI (0 : Int32), vR sg] [(.ref o), (.int 0), (.ref ar), (.ref sg)] (fun t k => XS.aloadN X2.here hx rfl (hb hby d21_11) rfl rfl k) ?_
  obtain ⟨T3, X3, e3, st3⟩ := getF (host := "") X2 hx hZ hown (Or.inl (hw _ (own_mt 92 rfl))) Via.refl e2 Fc_o (g := (mkF m 12 #[vR o, vI (0 : Int32), vR sg] [(.ref o), (.int 0), (.ref ar), (.ref sg)])) rfl rfl (hb hby d21_12)
  refine own_vF m T3 15 #[vR o, vI (0 : Int32), vR sg] [(.int 0), (.int 0), (.ref ar), (.ref sg)] (fun t k => st3 t k) ?_
  obtain ⟨_, T4, L4, X4, hQ4, st4⟩ := own_callV X3 hx hZ (y := (⟨"java/lang/String", "getBytes", "([BIB)V"⟩ : MethodName)) (W := 0) (C := "java/lang/String") hown (hw _ (own_mt 150 rfl)) (hw _ (own_mt 151 rfl)) (hw _ (own_mt 153 rfl)) (hw _ (own_mt 152 rfl)) (hw _ (own_mt 6 rfl)) (hw _ (own_mt 154 rfl)) (by decide) (rm_Qgb16_0_16 l Z a0 hw sg sa ar cs ci ca h0 n0 Z0 Od SS Es_sg Fc_sg Fv_sg Vb_sa Vb_ar gn_ar ne_sa) (by decide) (by decide) e3 Es_sg (g := (mkF m 15 #[vR o, vI (0 : Int32), vR sg] [(.int 0), (.int 0), (.ref ar), (.ref sg)])) rfl (by rw [hml]; rfl) (argsL := [(.ref ar), (.int 0), (.int 0)]) (rest := []) rfl (lenOf pd_ABIB__V rfl) rfl own_w0 (hb hby d21_15) (by decide) (by decide)
  obtain ⟨rfl, N4q, K4q, V4q⟩ := hQ4
  have N4 := Fr.app N1 N4q
  have K14 := K0.trans K4q (allS (Or.inl (own_mt 0 rfl)) all0)
  refine own_vF m T4 18 #[vR o, vI (0 : Int32), vR sg] [] (fun t k => st4 t k) ?_
  exact own_ret X4 (v := none) (fun _ => rfl) hlk (fun fs hr => X4.returnOut hx hret (hb hby d21_18) hr) (by exact ⟨rfl, N4, K14, V4q⟩) (by decide) (by decide)
def Qif34_16_1 (Z : State) (o ar sg sa : Addr) (cs : Int32) (ci ca : Addr) (h0 : Heap) (n0 : Nat) (v : Option Value) (h : Heap) (L : List Loc) : Prop := v = none ∧ Fr n0 L ∧ h = h0
set_option maxRecDepth 65536 in
set_option maxHeartbeats 40000000 in
theorem rm_Qif34_16_1 (l : Launch) (Z : State) (a0 : Array Value) (hw : ∀ d ∈ tables_1, d.before a0 Z = true) (o ar sg sa : Addr) (cs : Int32) (ci ca : Addr) (h0 : Heap) (n0 : Nat) (Z0 : n0 ≤ h0.size) (Od : Old Z n0 h0) (SS : own_SS Z cs ci ca) (Eo_o : Exa Z h0 o "java/lang/StringBuilder") (Fv_o : Fld Z h0 o "java/lang/AbstractStringBuilder" "value" "[B" (.ref ar)) (Fc_o : Fld Z h0 o "java/lang/AbstractStringBuilder" "coder" "B" (.int 0)) (Fn_o : Fld Z h0 o "java/lang/AbstractStringBuilder" "count" "I" (.int 16)) (Vb_ar : own_By Z h0 ar (34 : Int32)) (Es_sg : Exa Z h0 sg "java/lang/String") (Fc_sg : Fld Z h0 sg "java/lang/String" "coder" "B" (.int 0)) (Fv_sg : Fld Z h0 sg "java/lang/String" "value" "[B" (.ref sa)) :
    own_MG l Z ((⟨"java/lang/AbstractStringBuilder", "inflateIfNeededFor", "(Ljava/lang/String;)V"⟩ : MethodName)) jdk_68_method_71_code 2 none ({ frames := 1, cells := 0, slots := 0, locals := 13 } : Room) #[(.ref o), (.ref sg)] h0 (Qif34_16_1 Z o ar sg sa cs ci ca h0 n0) := by
  refine own_mkG (plainFor_of_name pn_java_lang_AbstractStringBuilder) ?_
  intro p e s m below meth c s₁ X0 hx hby hml hown hnm hret hlk hZ e0
  have N0 := Fr.nil n0
  rw [ef_RR2 m o sg]
  obtain ⟨T1, X1, e1, st1⟩ := getS2 (host := "") X0 hx hZ hown (Or.inl (hw _ (own_mt 89 rfl))) Via.refl e0 (SS.1.ext Od.2) (g := (mkF m 0 #[vR o, vR sg] [])) rfl (hb hby d19_0)
  refine own_vF m T1 3 #[vR o, vR sg] [(.int cs)] (fun t k => st1 t k) ?_
  refine own_vF m T1 6 #[vR o, vR sg] [] (fun t k => XS.ifNo X1.here hx rfl (hb hby d19_3) rfl ((if0 _ _).trans (feq SS.2.1).1) k) ?_
  refine own_vF m T1 7 #[vR o, vR sg] [(.ref o)] (fun t k => XS.aloadN X1.here hx rfl (hb hby d19_6) rfl rfl k) ?_
  obtain ⟨T2, X2, e2, st2⟩ := getF (host := "") X1 hx hZ hown (Or.inl (hw _ (own_mt 92 rfl))) Via.refl e1 Fc_o (g := (mkF m 7 #[vR o, vR sg] [(.ref o)])) rfl rfl (hb hby d19_7)
  refine own_vF m T2 10 #[vR o, vR sg] [(.int 0)] (fun t k => st2 t k) ?_
  refine own_vF m T2 11 #[vR o, vR sg] [(.ref sg), (.int 0)] (fun t k => XS.aloadN X2.here hx rfl (hb hby d19_10) rfl rfl k) ?_
  obtain ⟨_, T3, L3, X3, hQ3, st3⟩ := own_callV X2 hx hZ (y := (⟨"java/lang/String", "coder", "()B"⟩ : MethodName)) (W := 1) (C := "java/lang/String") hown (hw _ (own_mt 149 rfl)) (hw _ (own_mt 70 rfl)) (hw _ (own_mt 72 rfl)) (hw _ (own_mt 71 rfl)) (hw _ (own_mt 6 rfl)) (hw _ (own_mt 73 rfl)) (by decide) (rm_Qcd l Z a0 hw sg sa cs ci ca h0 n0 Z0 Od SS Es_sg Fc_sg Fv_sg) (by decide) (by decide) e2 Es_sg (g := (mkF m 11 #[vR o, vR sg] [(.ref sg), (.int 0)])) rfl (by rw [hml]; rfl) (argsL := []) (rest := [(.int 0)]) rfl (lenOf pd___B rfl) rfl own_w0 (hb hby d19_11) (by decide) (by decide)
  obtain ⟨rfl, N3q, e3⟩ := hQ3
  have N3 := Fr.app N0 N3q
  refine own_vF m T3 14 #[vR o, vR sg] [(.int 0), (.int 0)] (fun t k => st3 t k) ?_
  refine own_vF m T3 21 #[vR o, vR sg] [] (fun t k => XS.icmpYes X3.here hx rfl (pc0 := 14) (pc' := 21) rfl (hb hby d19_14) rfl (teq (by decide : ((0 : Int32) = (0 : Int32)))).1 (by decide) (by decide) k) ?_
  exact own_ret X3 (v := none) (fun _ => rfl) hlk (fun fs hr => X3.returnOut hx hret (hb hby d19_21) hr) (by rw [e3]; exact ⟨rfl, N3, rfl⟩) (by decide) (by decide)
def Qgb34_16_1 (Z : State) (sg sa ar : Addr) (cs : Int32) (ci ca : Addr) (h0 : Heap) (n0 : Nat) (v : Option Value) (h : Heap) (L : List Loc) : Prop := v = none ∧ Fr n0 L ∧ Keep h0 h [ar] ∧ own_By Z h ar (34 : Int32)
set_option maxRecDepth 65536 in
set_option maxHeartbeats 40000000 in
theorem rm_Qgb34_16_1 (l : Launch) (Z : State) (a0 : Array Value) (hw : ∀ d ∈ tables_1, d.before a0 Z = true) (sg sa ar : Addr) (cs : Int32) (ci ca : Addr) (h0 : Heap) (n0 : Nat) (Z0 : n0 ≤ h0.size) (Od : Old Z n0 h0) (SS : own_SS Z cs ci ca) (Es_sg : Exa Z h0 sg "java/lang/String") (Fc_sg : Fld Z h0 sg "java/lang/String" "coder" "B" (.int 0)) (Fv_sg : Fld Z h0 sg "java/lang/String" "value" "[B" (.ref sa)) (Vb_sa : own_By Z h0 sa (1 : Int32)) (Vb_ar : own_By Z h0 ar (34 : Int32)) (gn_ar : n0 ≤ ar) (ne_sa : sa ≠ ar) :
    own_MG l Z ((⟨"java/lang/String", "getBytes", "([BIB)V"⟩ : MethodName)) jdk_42_method_147_code 4 none ({ frames := 1, cells := 0, slots := 0, locals := 60 } : Room) #[(.ref sg), (.ref ar), (.int 16), (.int 0)] h0 (Qgb34_16_1 Z sg sa ar cs ci ca h0 n0) := by
  refine own_mkG (plainFor_of_name pn_java_lang_String) ?_
  intro p e s m below meth c s₁ X0 hx hby hml hown hnm hret hlk hZ e0
  have N0 := Fr.nil n0
  have K0 := Keep.refl h0 [ar]
  rw [ef_RRII4 m sg ar (16 : Int32) (0 : Int32)]
  refine own_vF m s₁ 1 #[vR sg, vR ar, vI (16 : Int32), vI (0 : Int32)] [(.ref sg)] (fun t k => XS.aloadN X0.here hx rfl (hb hby d20_0) rfl rfl k) ?_
  obtain ⟨_, T1, L1, X1, hQ1, st1⟩ := own_callV X0 hx hZ (y := (⟨"java/lang/String", "coder", "()B"⟩ : MethodName)) (W := 0) (C := "java/lang/String") hown (hw _ (own_mt 69 rfl)) (hw _ (own_mt 70 rfl)) (hw _ (own_mt 72 rfl)) (hw _ (own_mt 71 rfl)) (hw _ (own_mt 6 rfl)) (hw _ (own_mt 73 rfl)) (by decide) (rm_Qcd l Z a0 hw sg sa cs ci ca h0 n0 Z0 Od SS Es_sg Fc_sg Fv_sg) (by decide) (by decide) e0 Es_sg (g := (mkF m 1 #[vR sg, vR ar, vI (16 : Int32), vI (0 : Int32)] [(.ref sg)])) rfl (by rw [hml]; rfl) (argsL := []) (rest := []) rfl (lenOf pd___B rfl) rfl own_w0 (hb hby d20_1) (by decide) (by decide)
  obtain ⟨rfl, N1q, e1⟩ := hQ1
  have N1 := Fr.app N0 N1q
  refine own_vF m T1 4 #[vR sg, vR ar, vI (16 : Int32), vI (0 : Int32)] [(.int 0)] (fun t k => st1 t k) ?_
  refine own_vF m T1 5 #[vR sg, vR ar, vI (16 : Int32), vI (0 : Int32)] [(.int 0), (.int 0)] (fun t k => XS.iloadN X1.here hx rfl (hb hby d20_4) rfl k) ?_
  refine own_vF m T1 8 #[vR sg, vR ar, vI (16 : Int32), vI (0 : Int32)] [] (fun t k => XS.icmpNo X1.here hx rfl (hb hby d20_5) rfl (teq (by decide : ((0 : Int32) = (0 : Int32)))).2 k) ?_
  refine own_vF m T1 9 #[vR sg, vR ar, vI (16 : Int32), vI (0 : Int32)] [(.ref sg)] (fun t k => XS.aloadN X1.here hx rfl (hb hby d20_8) rfl rfl k) ?_
  obtain ⟨T2, X2, e2, st2⟩ := getF (host := "") X1 hx hZ hown (Or.inl (hw _ (own_mt 43 rfl))) Via.refl e1 Fv_sg (g := (mkF m 9 #[vR sg, vR ar, vI (16 : Int32), vI (0 : Int32)] [(.ref sg)])) rfl rfl (hb hby d20_9)
  refine own_vF m T2 12 #[vR sg, vR ar, vI (16 : Int32), vI (0 : Int32)] [(.ref sa)] (fun t k => st2 t k) ?_
  refine own_vF m T2 13 #[vR sg, vR ar, vI (16 : Int32), vI (0 : Int32)] [(.int 0), (.ref sa)] (fun t k => XS.iconst X2.here hx rfl (hb hby d20_12) k) ?_
  refine own_vF m T2 14 #[vR sg, vR ar, vI (16 : Int32), vI (0 : Int32)] [(.ref ar), (.int 0), (.ref sa)] (fun t k => XS.aloadN X2.here hx rfl (hb hby d20_13) rfl rfl k) ?_
  refine own_vF m T2 15 #[vR sg, vR ar, vI (16 : Int32), vI (0 : Int32)] [(.int 16), (.ref ar), (.int 0), (.ref sa)] (fun t k => XS.iloadN X2.here hx rfl (hb hby d20_14) rfl k) ?_
  refine own_vF m T2 16 #[vR sg, vR ar, vI (16 : Int32), vI (0 : Int32)] [(.int 0), (.int 16), (.ref ar), (.int 0), (.ref sa)] (fun t k => XS.iloadN X2.here hx rfl (hb hby d20_15) rfl k) ?_
  refine own_vF m T2 17 #[vR sg, vR ar, vI (16 : Int32), vI (0 : Int32)] [(.int ((16 : Int32) <<< ((0 : Int32) &&& 31))), (.ref ar), (.int 0), (.ref sa)] (fun t k => XS.ishl X2.here hx rfl (hb hby d20_16) rfl k) ?_
  rw [show ((16 : Int32) <<< ((0 : Int32) &&& 31)) = (16 : Int32) from by decide]
  refine own_vF m T2 18 #[vR sg, vR ar, vI (16 : Int32), vI (0 : Int32)] [(.ref sg), (.int 16), (.ref ar), (.int 0), (.ref sa)] (fun t k => XS.aloadN X2.here hx rfl (hb hby d20_17) rfl rfl k) ?_
  obtain ⟨T3, X3, e3, st3⟩ := getF (host := "") X2 hx hZ hown (Or.inl (hw _ (own_mt 43 rfl))) Via.refl e2 Fv_sg (g := (mkF m 18 #[vR sg, vR ar, vI (16 : Int32), vI (0 : Int32)] [(.ref sg), (.int 16), (.ref ar), (.int 0), (.ref sa)])) rfl rfl (hb hby d20_18)
  refine own_vF m T3 21 #[vR sg, vR ar, vI (16 : Int32), vI (0 : Int32)] [(.ref sa), (.int 16), (.ref ar), (.int 0), (.ref sa)] (fun t k => st3 t k) ?_
  obtain ⟨-, -, ⟨c4, Ar4, q4a, q4b, q4c, q4d, q4e⟩, -⟩ := id Vb_sa
  refine own_vF m T3 22 #[vR sg, vR ar, vI (16 : Int32), vI (0 : Int32)] [(.int 1), (.int 16), (.ref ar), (.int 0), (.ref sa)] (fun t k => (fun t k => X3.arraylength hx (by rw [e3]; exact Ar4.1) (State.isArrayOf_alike hZ.alike Ar4.2.1) (g := (mkF m 21 #[vR sg, vR ar, vI (16 : Int32), vI (0 : Int32)] [(.ref sa), (.int 16), (.ref ar), (.int 0), (.ref sa)])) rfl rfl (hb hby d20_21) t (by rw [len_of q4b q4c]; exact k)) t k) ?_
  obtain ⟨T5, h5, L5, X5, e5, N5, K5q, V5, st5⟩ := own_cpB X3 hx hZ hown (hw _ (own_mt 155 rfl)) (hw _ (own_mt 138 rfl)) (hw _ (own_mt 136 rfl)) (hw _ (own_mt 137 rfl)) e3 Vb_sa Vb_ar (by decide) (by decide) (by decide) (by decide) (by decide) N1 gn_ar (g := (mkF m 22 #[vR sg, vR ar, vI (16 : Int32), vI (0 : Int32)] [(.int 1), (.int 16), (.ref ar), (.int 0), (.ref sa)])) rfl (by rw [hml]; rfl) rfl (hb hby d20_22) (by decide) (W := 0) own_w0 (by decide)
  subst e5
  have K11 := K0.trans K5q (allS (Or.inl (own_mt 0 rfl)) all0)
  refine own_vF m T5 25 #[vR sg, vR ar, vI (16 : Int32), vI (0 : Int32)] [] (fun t k => st5 t k) ?_
  refine own_vF m T5 43 #[vR sg, vR ar, vI (16 : Int32), vI (0 : Int32)] [] (fun t k => XS.goto X5.here hx rfl (pc0 := 25) (pc' := 43) rfl (hb hby d20_25) (by decide) (by decide) k) ?_
  exact own_ret X5 (v := none) (fun _ => rfl) hlk (fun fs hr => X5.returnOut hx hret (hb hby d20_43) hr) (by exact ⟨rfl, N5, K11, V5⟩) (by decide) (by decide)
def Qps34_16_1 (Z : State) (o ar sg sa : Addr) (cs : Int32) (ci ca : Addr) (h0 : Heap) (n0 : Nat) (v : Option Value) (h : Heap) (L : List Loc) : Prop := v = none ∧ Fr n0 L ∧ Keep h0 h [ar] ∧ own_By Z h ar (34 : Int32)
set_option maxRecDepth 65536 in
set_option maxHeartbeats 40000000 in
theorem rm_Qps34_16_1 (l : Launch) (Z : State) (a0 : Array Value) (hw : ∀ d ∈ tables_1, d.before a0 Z = true) (o ar sg sa : Addr) (cs : Int32) (ci ca : Addr) (h0 : Heap) (n0 : Nat) (Z0 : n0 ≤ h0.size) (Od : Old Z n0 h0) (SS : own_SS Z cs ci ca) (Eo_o : Exa Z h0 o "java/lang/StringBuilder") (Fv_o : Fld Z h0 o "java/lang/AbstractStringBuilder" "value" "[B" (.ref ar)) (Fc_o : Fld Z h0 o "java/lang/AbstractStringBuilder" "coder" "B" (.int 0)) (Fn_o : Fld Z h0 o "java/lang/AbstractStringBuilder" "count" "I" (.int 16)) (Vb_ar : own_By Z h0 ar (34 : Int32)) (Es_sg : Exa Z h0 sg "java/lang/String") (Fc_sg : Fld Z h0 sg "java/lang/String" "coder" "B" (.int 0)) (Fv_sg : Fld Z h0 sg "java/lang/String" "value" "[B" (.ref sa)) (Vb_sa : own_By Z h0 sa (1 : Int32)) (gn_ar : n0 ≤ ar) (ne_sa : sa ≠ ar) :
    own_MG l Z ((⟨"java/lang/AbstractStringBuilder", "putStringAt", "(ILjava/lang/String;)V"⟩ : MethodName)) jdk_68_method_73_code 3 none ({ frames := 2, cells := 0, slots := 0, locals := 75 } : Room) #[(.ref o), (.int 16), (.ref sg)] h0 (Qps34_16_1 Z o ar sg sa cs ci ca h0 n0) := by
  refine own_mkG (plainFor_of_name pn_java_lang_AbstractStringBuilder) ?_
  intro p e s m below meth c s₁ X0 hx hby hml hown hnm hret hlk hZ e0
  have N0 := Fr.nil n0
  have K0 := Keep.refl h0 [ar]
  rw [ef_RIR3 m o (16 : Int32) sg]
  refine own_vF m s₁ 1 #[vR o, vI (16 : Int32), vR sg] [(.ref o)] (fun t k => XS.aloadN X0.here hx rfl (hb hby d21_0) rfl rfl k) ?_
  refine own_vF m s₁ 2 #[vR o, vI (16 : Int32), vR sg] [(.ref sg), (.ref o)] (fun t k => XS.aloadN X0.here hx rfl (hb hby d21_1) rfl rfl k) ?_
  obtain ⟨_, T1, L1, X1, hQ1, st1⟩ := own_callP X0 hx hZ (y := (⟨"java/lang/AbstractStringBuilder", "inflateIfNeededFor", "(Ljava/lang/String;)V"⟩ : MethodName)) (W := 0) (C := "java/lang/StringBuilder") hown (hw _ (own_mt 144 rfl)) (hw _ (own_mt 146 rfl)) (hw _ (own_mt 147 rfl)) (hw _ (own_mt 145 rfl)) (hw _ (own_mt 86 rfl)) (hw _ (own_mt 148 rfl)) (by decide) (rm_Qif34_16_1 l Z a0 hw o ar sg sa cs ci ca h0 n0 Z0 Od SS Eo_o Fv_o Fc_o Fn_o Vb_ar Es_sg Fc_sg Fv_sg) (by decide) (by decide) e0 Eo_o (g := (mkF m 2 #[vR o, vI (16 : Int32), vR sg] [(.ref sg), (.ref o)])) rfl (by rw [hml]; rfl) (argsL := [(.ref sg)]) (rest := []) rfl (lenOf pd_Ljava_lang_String___V rfl) rfl own_w0 (hb hby d21_2) (by decide) (by decide)
  obtain ⟨rfl, N1q, e1⟩ := hQ1
  have N1 := Fr.app N0 N1q
  refine own_vF m T1 5 #[vR o, vI (16 : Int32), vR sg] [] (fun t k => st1 t k) ?_
  refine own_vF m T1 6 #[vR o, vI (16 : Int32), vR sg] [(.ref sg)] (fun t k => XS.aloadN X1.here hx rfl (hb hby d21_5) rfl rfl k) ?_
  refine own_vF m T1 7 #[vR o, vI (16 : Int32), vR sg] [(.ref o), (.ref sg)] (fun t k => XS.aloadN X1.here hx rfl (hb hby d21_6) rfl rfl k) ?_
  obtain ⟨T2, X2, e2, st2⟩ := getF (host := "") X1 hx hZ hown (Or.inl (hw _ (own_mt 90 rfl))) Via.refl e1 Fv_o (g := (mkF m 7 #[vR o, vI (16 : Int32), vR sg] [(.ref o), (.ref sg)])) rfl rfl (hb hby d21_7)
  refine own_vF m T2 10 #[vR o, vI (16 : Int32), vR sg] [(.ref ar), (.ref sg)] (fun t k => st2 t k) ?_
  refine own_vF m T2 11 #[vR o, vI (16 : Int32), vR sg] [(.int 16), (.ref ar), (.ref sg)] (fun t k => XS.iloadN X2.here hx rfl (hb hby d21_10) rfl k) ?_
  refine own_vF m T2 12 #[vR o, vI (16 : Int32), vR sg] [(.ref o), (.int 16), (.ref ar), (.ref sg)] (fun t k => XS.aloadN X2.here hx rfl (hb hby d21_11) rfl rfl k) ?_
  obtain ⟨T3, X3, e3, st3⟩ := getF (host := "") X2 hx hZ hown (Or.inl (hw _ (own_mt 92 rfl))) Via.refl e2 Fc_o (g := (mkF m 12 #[vR o, vI (16 : Int32), vR sg] [(.ref o), (.int 16), (.ref ar), (.ref sg)])) rfl rfl (hb hby d21_12)
  refine own_vF m T3 15 #[vR o, vI (16 : Int32), vR sg] [(.int 0), (.int 16), (.ref ar), (.ref sg)] (fun t k => st3 t k) ?_
  obtain ⟨_, T4, L4, X4, hQ4, st4⟩ := own_callV X3 hx hZ (y := (⟨"java/lang/String", "getBytes", "([BIB)V"⟩ : MethodName)) (W := 0) (C := "java/lang/String") hown (hw _ (own_mt 150 rfl)) (hw _ (own_mt 151 rfl)) (hw _ (own_mt 153 rfl)) (hw _ (own_mt 152 rfl)) (hw _ (own_mt 6 rfl)) (hw _ (own_mt 154 rfl)) (by decide) (rm_Qgb34_16_1 l Z a0 hw sg sa ar cs ci ca h0 n0 Z0 Od SS Es_sg Fc_sg Fv_sg Vb_sa Vb_ar gn_ar ne_sa) (by decide) (by decide) e3 Es_sg (g := (mkF m 15 #[vR o, vI (16 : Int32), vR sg] [(.int 0), (.int 16), (.ref ar), (.ref sg)])) rfl (by rw [hml]; rfl) (argsL := [(.ref ar), (.int 16), (.int 0)]) (rest := []) rfl (lenOf pd_ABIB__V rfl) rfl own_w0 (hb hby d21_15) (by decide) (by decide)
  obtain ⟨rfl, N4q, K4q, V4q⟩ := hQ4
  have N4 := Fr.app N1 N4q
  have K14 := K0.trans K4q (allS (Or.inl (own_mt 0 rfl)) all0)
  refine own_vF m T4 18 #[vR o, vI (16 : Int32), vR sg] [] (fun t k => st4 t k) ?_
  exact own_ret X4 (v := none) (fun _ => rfl) hlk (fun fs hr => X4.returnOut hx hret (hb hby d21_18) hr) (by exact ⟨rfl, N4, K14, V4q⟩) (by decide) (by decide)
def Qap16_0_21 (Z : State) (o ar sg sa : Addr) (cs : Int32) (ci ca : Addr) (h0 : Heap) (n0 : Nat) (v : Option Value) (h : Heap) (L : List Loc) : Prop := ∃ r, v = some (.ref o) ∧ Fr n0 L ∧ Keep h0 h [o] ∧ h0.size ≤ r ∧ Exa Z h o "java/lang/StringBuilder" ∧ Fld Z h o "java/lang/AbstractStringBuilder" "value" "[B" (.ref r) ∧ Fld Z h o "java/lang/AbstractStringBuilder" "coder" "B" (.int 0) ∧ Fld Z h o "java/lang/AbstractStringBuilder" "count" "I" (.int 21) ∧ own_By Z h r (34 : Int32)
theorem d22_0 : decode jdk_68_method_22_code 0 = .ok (.aload_n 1, 1) := by decide +kernel
theorem d22_1 : decode jdk_68_method_22_code 1 = .ok (.ifnonnull 8, 3) := by decide +kernel
theorem d22_9 : decode jdk_68_method_22_code 9 = .ok (.aload_n 1, 1) := by decide +kernel
theorem d22_10 : decode jdk_68_method_22_code 10 = .ok (.invokevirtual 32, 3) := by decide +kernel
theorem d22_13 : decode jdk_68_method_22_code 13 = .ok (.istore_n 2, 1) := by decide +kernel
theorem d22_14 : decode jdk_68_method_22_code 14 = .ok (.aload_n 0, 1) := by decide +kernel
theorem d22_15 : decode jdk_68_method_22_code 15 = .ok (.aload_n 0, 1) := by decide +kernel
theorem d22_16 : decode jdk_68_method_22_code 16 = .ok (.getfield 79, 3) := by decide +kernel
theorem d22_19 : decode jdk_68_method_22_code 19 = .ok (.iload_n 2, 1) := by decide +kernel
theorem d22_20 : decode jdk_68_method_22_code 20 = .ok (.iadd, 1) := by decide +kernel
theorem d22_21 : decode jdk_68_method_22_code 21 = .ok (.invokevirtual 100, 3) := by decide +kernel
theorem d22_24 : decode jdk_68_method_22_code 24 = .ok (.aload_n 0, 1) := by decide +kernel
theorem d22_25 : decode jdk_68_method_22_code 25 = .ok (.aload_n 0, 1) := by decide +kernel
theorem d22_26 : decode jdk_68_method_22_code 26 = .ok (.getfield 79, 3) := by decide +kernel
theorem d22_29 : decode jdk_68_method_22_code 29 = .ok (.aload_n 1, 1) := by decide +kernel
theorem pd_ILjava_lang_String___V : parseMethodDescriptor "(ILjava/lang/String;)V" = some ⟨[.int, (.object "java/lang/String")], none⟩ := by decide +kernel
theorem d22_30 : decode jdk_68_method_22_code 30 = .ok (.invokevirtual 208, 3) := by decide +kernel
theorem d22_33 : decode jdk_68_method_22_code 33 = .ok (.aload_n 0, 1) := by decide +kernel
theorem d22_34 : decode jdk_68_method_22_code 34 = .ok (.dup, 1) := by decide +kernel
theorem d22_35 : decode jdk_68_method_22_code 35 = .ok (.getfield 79, 3) := by decide +kernel
theorem d22_38 : decode jdk_68_method_22_code 38 = .ok (.iload_n 2, 1) := by decide +kernel
theorem d22_39 : decode jdk_68_method_22_code 39 = .ok (.iadd, 1) := by decide +kernel
theorem d22_40 : decode jdk_68_method_22_code 40 = .ok (.putfield 79, 3) := by decide +kernel
theorem d22_43 : decode jdk_68_method_22_code 43 = .ok (.aload_n 0, 1) := by decide +kernel
theorem d22_44 : decode jdk_68_method_22_code 44 = .ok (.areturn, 1) := by decide +kernel
theorem ef_RR3 (m : MethodId) (x0 : Addr) (x1 : Addr) : entryFrame m #[(.ref x0), (.ref x1)] 3 = mkF m 0 #[vR x0, vR x1, .unset] [] := by first | (simp [entryFrame, mkF, argsToLocals, Value.category]; done) | rfl
set_option maxRecDepth 65536 in
set_option maxHeartbeats 40000000 in
theorem rm_Qap16_0_21 (l : Launch) (Z : State) (a0 : Array Value) (hw : ∀ d ∈ tables_1, d.before a0 Z = true) (o ar sg sa : Addr) (cs : Int32) (ci ca : Addr) (h0 : Heap) (n0 : Nat) (Z0 : n0 ≤ h0.size) (Od : Old Z n0 h0) (SS : own_SS Z cs ci ca) (Eo_o : Exa Z h0 o "java/lang/StringBuilder") (Fv_o : Fld Z h0 o "java/lang/AbstractStringBuilder" "value" "[B" (.ref ar)) (Fc_o : Fld Z h0 o "java/lang/AbstractStringBuilder" "coder" "B" (.int 0)) (Fn_o : Fld Z h0 o "java/lang/AbstractStringBuilder" "count" "I" (.int 0)) (Vb_ar : own_By Z h0 ar (16 : Int32)) (Es_sg : Exa Z h0 sg "java/lang/String") (Fc_sg : Fld Z h0 sg "java/lang/String" "coder" "B" (.int 0)) (Fv_sg : Fld Z h0 sg "java/lang/String" "value" "[B" (.ref sa)) (Vb_sa : own_By Z h0 sa (21 : Int32)) (gn_o : n0 ≤ o) (ne_sa : sa ≠ ar) :
    own_MG l Z ((⟨"java/lang/AbstractStringBuilder", "append", "(Ljava/lang/String;)Ljava/lang/AbstractStringBuilder;"⟩ : MethodName)) jdk_68_method_22_code 3 (some (.object "java/lang/AbstractStringBuilder")) ({ frames := 4, cells := 1, slots := 34, locals := 89 } : Room) #[(.ref o), (.ref sg)] h0 (Qap16_0_21 Z o ar sg sa cs ci ca h0 n0) := by
  refine own_mkG (plainFor_of_name pn_java_lang_AbstractStringBuilder) ?_
  intro p e s m below meth c s₁ X0 hx hby hml hown hnm hret hlk hZ e0
  have N0 := Fr.nil n0
  have K0 := Keep.refl h0 [o]
  rw [ef_RR3 m o sg]
  refine own_vF m s₁ 1 #[vR o, vR sg, .unset] [(.ref sg)] (fun t k => XS.aloadN X0.here hx rfl (hb hby d22_0) rfl rfl k) ?_
  refine own_vF m s₁ 9 #[vR o, vR sg, .unset] [] (fun t k => XS.ifnonnullYes X0.here hx rfl (pc0 := 1) (pc' := 9) rfl (hb hby d22_1) rfl (by decide) (by decide) k) ?_
  refine own_vF m s₁ 10 #[vR o, vR sg, .unset] [(.ref sg)] (fun t k => XS.aloadN X0.here hx rfl (hb hby d22_9) rfl rfl k) ?_
  obtain ⟨_, T1, L1, X1, hQ1, st1⟩ := own_callV X0 hx hZ (y := (⟨"java/lang/String", "length", "()I"⟩ : MethodName)) (W := 0) (C := "java/lang/String") hown (hw _ (own_mt 105 rfl)) (hw _ (own_mt 65 rfl)) (hw _ (own_mt 67 rfl)) (hw _ (own_mt 66 rfl)) (hw _ (own_mt 6 rfl)) (hw _ (own_mt 68 rfl)) (by decide) (rm_Qln21 l Z a0 hw sg sa cs ci ca h0 n0 Z0 Od SS Es_sg Fc_sg Fv_sg Vb_sa) (by decide) (by decide) e0 Es_sg (g := (mkF m 10 #[vR o, vR sg, .unset] [(.ref sg)])) rfl (by rw [hml]; rfl) (argsL := []) (rest := []) rfl (lenOf pd___I rfl) rfl own_w0 (hb hby d22_10) (by decide) (by decide)
  obtain ⟨rfl, N1q, e1⟩ := hQ1
  have N1 := Fr.app N0 N1q
  refine own_vF m T1 13 #[vR o, vR sg, .unset] [(.int 21)] (fun t k => st1 t k) ?_
  refine own_vF m T1 14 #[vR o, vR sg, vI (21 : Int32)] [] (fun t k => XS.istoreN X1.here hx rfl (hb hby d22_13) rfl (l' := #[vR o, vR sg, vI (21 : Int32)]) rfl k) ?_
  refine own_vF m T1 15 #[vR o, vR sg, vI (21 : Int32)] [(.ref o)] (fun t k => XS.aloadN X1.here hx rfl (hb hby d22_14) rfl rfl k) ?_
  refine own_vF m T1 16 #[vR o, vR sg, vI (21 : Int32)] [(.ref o), (.ref o)] (fun t k => XS.aloadN X1.here hx rfl (hb hby d22_15) rfl rfl k) ?_
  obtain ⟨T2, X2, e2, st2⟩ := getF (host := "") X1 hx hZ hown (Or.inl (hw _ (own_mt 106 rfl))) Via.refl e1 Fn_o (g := (mkF m 16 #[vR o, vR sg, vI (21 : Int32)] [(.ref o), (.ref o)])) rfl rfl (hb hby d22_16)
  refine own_vF m T2 19 #[vR o, vR sg, vI (21 : Int32)] [(.int 0), (.ref o)] (fun t k => st2 t k) ?_
  refine own_vF m T2 20 #[vR o, vR sg, vI (21 : Int32)] [(.int 21), (.int 0), (.ref o)] (fun t k => XS.iloadN X2.here hx rfl (hb hby d22_19) rfl k) ?_
  refine own_vF m T2 21 #[vR o, vR sg, vI (21 : Int32)] [(.int ((0 : Int32) + (21 : Int32))), (.ref o)] (fun t k => XS.iadd X2.here hx rfl (hb hby d22_20) rfl k) ?_
  rw [show ((0 : Int32) + (21 : Int32)) = (21 : Int32) from by decide]
  obtain ⟨_, T3, L3, X3, hQ3, st3⟩ := own_callP X2 hx hZ (y := (⟨"java/lang/AbstractStringBuilder", "ensureCapacityInternal", "(I)V"⟩ : MethodName)) (W := 0) (C := "java/lang/StringBuilder") hown (hw _ (own_mt 108 rfl)) (hw _ (own_mt 110 rfl)) (hw _ (own_mt 111 rfl)) (hw _ (own_mt 109 rfl)) (hw _ (own_mt 86 rfl)) (hw _ (own_mt 112 rfl)) (by decide) (rm_Qen16_0_21 l Z a0 hw o ar cs ci ca h0 n0 Z0 Od SS Eo_o Fv_o Fc_o Fn_o Vb_ar gn_o) (by decide) (by decide) e2 Eo_o (g := (mkF m 21 #[vR o, vR sg, vI (21 : Int32)] [(.int 21), (.ref o)])) rfl (by rw [hml]; rfl) (argsL := [(.int 21)]) (rest := []) rfl (lenOf pd_I__V rfl) rfl own_w0 (hb hby d22_21) (by decide) (by decide)
  obtain ⟨r3, rfl, N3q, K3q, sq_r3, E3q, Fval3, Fcod3, Fcou3, V3q⟩ := hQ3
  have N3 := Fr.app N1 N3q
  have ne4 : o ≠ r3 := Nat.ne_of_lt (Nat.lt_of_lt_of_le Eo_o.lt sq_r3)
  have ne7 : sa ≠ r3 := Nat.ne_of_lt (Nat.lt_of_lt_of_le Vb_sa.lt sq_r3)
  have gn_r3 : n0 ≤ r3 := Nat.le_trans Z0 sq_r3
  have sz_r3 : h0.size ≤ r3 := Nat.le_trans K0.1 sq_r3
  have f8 := Od.keep K3q (allS gn_o all0)
  have f11 := Es_sg.keep K3q
  have f12 := Fc_sg.keep K3q (ninS (Exa.ne Es_sg Eo_o (by decide)) nin0)
  have f13 := Fv_sg.keep K3q (ninS (Exa.ne Es_sg Eo_o (by decide)) nin0)
  have f14 := Vb_sa.keep K3q (ninS (Ne.symm (own_By.ne Vb_sa Eo_o (hw _ (own_mt 77 rfl)))) nin0)
  have Z15 : n0 ≤ T3.heap.size := Nat.le_trans Z0 K3q.1
  have K15 := K0.trans K3q (allS (Or.inl (own_mt 0 rfl)) all0)
  refine own_vF m T3 24 #[vR o, vR sg, vI (21 : Int32)] [] (fun t k => st3 t k) ?_
  refine own_vF m T3 25 #[vR o, vR sg, vI (21 : Int32)] [(.ref o)] (fun t k => XS.aloadN X3.here hx rfl (hb hby d22_24) rfl rfl k) ?_
  refine own_vF m T3 26 #[vR o, vR sg, vI (21 : Int32)] [(.ref o), (.ref o)] (fun t k => XS.aloadN X3.here hx rfl (hb hby d22_25) rfl rfl k) ?_
  obtain ⟨T16, X16, e16, st16⟩ := getF (host := "") X3 hx hZ hown (Or.inl (hw _ (own_mt 106 rfl))) Via.refl rfl Fcou3 (g := (mkF m 26 #[vR o, vR sg, vI (21 : Int32)] [(.ref o), (.ref o)])) rfl rfl (hb hby d22_26)
  refine own_vF m T16 29 #[vR o, vR sg, vI (21 : Int32)] [(.int 0), (.ref o)] (fun t k => st16 t k) ?_
  refine own_vF m T16 30 #[vR o, vR sg, vI (21 : Int32)] [(.ref sg), (.int 0), (.ref o)] (fun t k => XS.aloadN X16.here hx rfl (hb hby d22_29) rfl rfl k) ?_
  obtain ⟨_, T17, L17, X17, hQ17, st17⟩ := own_callP X16 hx hZ (y := (⟨"java/lang/AbstractStringBuilder", "putStringAt", "(ILjava/lang/String;)V"⟩ : MethodName)) (W := 0) (C := "java/lang/StringBuilder") hown (hw _ (own_mt 139 rfl)) (hw _ (own_mt 141 rfl)) (hw _ (own_mt 142 rfl)) (hw _ (own_mt 140 rfl)) (hw _ (own_mt 86 rfl)) (hw _ (own_mt 143 rfl)) (by decide) (rm_Qps34_0_21 l Z a0 hw o r3 sg sa cs ci ca T3.heap n0 Z15 f8 SS E3q Fval3 Fcod3 Fcou3 V3q f11 f12 f13 f14 gn_r3 ne7) (by decide) (by decide) e16 E3q (g := (mkF m 30 #[vR o, vR sg, vI (21 : Int32)] [(.ref sg), (.int 0), (.ref o)])) rfl (by rw [hml]; rfl) (argsL := [(.int 0), (.ref sg)]) (rest := []) rfl (lenOf pd_ILjava_lang_String___V rfl) rfl own_w0 (hb hby d22_30) (by decide) (by decide)
  obtain ⟨rfl, N17q, K17q, V17q⟩ := hQ17
  have N17 := Fr.app N3 N17q
  have f19 := E3q.keep K17q
  have f25 := Fval3.keep K17q (ninS ne4 nin0)
  have f26 := Fcod3.keep K17q (ninS ne4 nin0)
  have f27 := Fcou3.keep K17q (ninS ne4 nin0)
  have K28 := K15.trans K17q (allS (Or.inr sz_r3) all0)
  refine own_vF m T17 33 #[vR o, vR sg, vI (21 : Int32)] [] (fun t k => st17 t k) ?_
  refine own_vF m T17 34 #[vR o, vR sg, vI (21 : Int32)] [(.ref o)] (fun t k => XS.aloadN X17.here hx rfl (hb hby d22_33) rfl rfl k) ?_
  refine own_vF m T17 35 #[vR o, vR sg, vI (21 : Int32)] [(.ref o), (.ref o)] (fun t k => XS.dup X17.here hx rfl (hb hby d22_34) rfl rfl k) ?_
  obtain ⟨T29, X29, e29, st29⟩ := getF (host := "") X17 hx hZ hown (Or.inl (hw _ (own_mt 106 rfl))) Via.refl rfl f27 (g := (mkF m 35 #[vR o, vR sg, vI (21 : Int32)] [(.ref o), (.ref o)])) rfl rfl (hb hby d22_35)
  refine own_vF m T29 38 #[vR o, vR sg, vI (21 : Int32)] [(.int 0), (.ref o)] (fun t k => st29 t k) ?_
  refine own_vF m T29 39 #[vR o, vR sg, vI (21 : Int32)] [(.int 21), (.int 0), (.ref o)] (fun t k => XS.iloadN X29.here hx rfl (hb hby d22_38) rfl k) ?_
  refine own_vF m T29 40 #[vR o, vR sg, vI (21 : Int32)] [(.int ((0 : Int32) + (21 : Int32))), (.ref o)] (fun t k => XS.iadd X29.here hx rfl (hb hby d22_39) rfl k) ?_
  rw [show ((0 : Int32) + (21 : Int32)) = (21 : Int32) from by decide]
  obtain ⟨T30, h30, X30, e30, W30, st30⟩ := putF (host := "") X29 hx hZ hown (Or.inl (hw _ (own_mt 106 rfl))) Via.refl e29 f27 f19 (Or.inl (hw _ (own_mt 107 rfl))) (hw _ (own_mt 77 rfl)) (ty := .int) (by decide) rfl rfl (g := (mkF m 40 #[vR o, vR sg, vI (21 : Int32)] [(.int 21), (.ref o)])) rfl rfl (hb hby d22_40)
  have f30w := f27.same W30
  have f32 := f19.wr W30
  have f38 := f25.other W30 (Or.inr (slot_ne (Or.inl (hw _ (own_mt 91 rfl))) (Or.inl (hw _ (own_mt 107 rfl))) (by decide) (t := (.array .byte)) (t' := .int) (by decide) (by decide)))
  have f39 := f26.other W30 (Or.inr (slot_ne (Or.inl (hw _ (own_mt 93 rfl))) (Or.inl (hw _ (own_mt 107 rfl))) (by decide) (t := .byte) (t' := .int) (by decide) (by decide)))
  have f40 := V17q.other W30 (Ne.symm ne4)
  have K41 := K28.wr W30 (Or.inl (own_mt 0 rfl))
  have N30 := Fr.snoc X30 N17 gn_o
  refine own_vF m T30 43 #[vR o, vR sg, vI (21 : Int32)] [] (fun t k => st30 t k) ?_
  refine own_vF m T30 44 #[vR o, vR sg, vI (21 : Int32)] [(.ref o)] (fun t k => XS.aloadN X30.here hx rfl (hb hby d22_43) rfl rfl k) ?_
  exact own_ret X30 (v := some (.ref o)) (fun h => by rw [hret] at h; cases h) hlk (fun fs hr => retOut X30 hx (t := (.object "java/lang/AbstractStringBuilder")) hret rfl (Or.inr (Or.inr (Or.inr (Or.inr ⟨rfl, rfl, rfl⟩)))) (hb hby d22_44) hr) (by rw [e30]; exact ⟨r3, rfl, N30, K41, sz_r3, f32, f38, f39, f30w, f40⟩) (by decide) (by decide)
def Qsp16_0_21 (Z : State) (o ar sg sa : Addr) (cs : Int32) (ci ca : Addr) (h0 : Heap) (n0 : Nat) (v : Option Value) (h : Heap) (L : List Loc) : Prop := ∃ r, v = some (.ref o) ∧ Fr n0 L ∧ Keep h0 h [o] ∧ h0.size ≤ r ∧ Exa Z h o "java/lang/StringBuilder" ∧ Fld Z h o "java/lang/AbstractStringBuilder" "value" "[B" (.ref r) ∧ Fld Z h o "java/lang/AbstractStringBuilder" "coder" "B" (.int 0) ∧ Fld Z h o "java/lang/AbstractStringBuilder" "count" "I" (.int 21) ∧ own_By Z h r (34 : Int32)
theorem d23_0 : decode jdk_67_method_7_code 0 = .ok (.aload_n 0, 1) := by decide +kernel
theorem d23_1 : decode jdk_67_method_7_code 1 = .ok (.aload_n 1, 1) := by decide +kernel
theorem pd_Ljava_lang_String___Ljava_lang_AbstractStringBuilder_ : parseMethodDescriptor "(Ljava/lang/String;)Ljava/lang/AbstractStringBuilder;" = some ⟨[(.object "java/lang/String")], some (.object "java/lang/AbstractStringBuilder")⟩ := by decide +kernel
theorem d23_2 : decode jdk_67_method_7_code 2 = .ok (.invokespecial 29, 3) := by decide +kernel
theorem d23_5 : decode jdk_67_method_7_code 5 = .ok (.pop, 1) := by decide +kernel
theorem d23_6 : decode jdk_67_method_7_code 6 = .ok (.aload_n 0, 1) := by decide +kernel
theorem d23_7 : decode jdk_67_method_7_code 7 = .ok (.areturn, 1) := by decide +kernel
set_option maxRecDepth 65536 in
set_option maxHeartbeats 40000000 in
theorem rm_Qsp16_0_21 (l : Launch) (Z : State) (a0 : Array Value) (hw : ∀ d ∈ tables_1, d.before a0 Z = true) (o ar sg sa : Addr) (cs : Int32) (ci ca : Addr) (h0 : Heap) (n0 : Nat) (Z0 : n0 ≤ h0.size) (Od : Old Z n0 h0) (SS : own_SS Z cs ci ca) (Eo_o : Exa Z h0 o "java/lang/StringBuilder") (Fv_o : Fld Z h0 o "java/lang/AbstractStringBuilder" "value" "[B" (.ref ar)) (Fc_o : Fld Z h0 o "java/lang/AbstractStringBuilder" "coder" "B" (.int 0)) (Fn_o : Fld Z h0 o "java/lang/AbstractStringBuilder" "count" "I" (.int 0)) (Vb_ar : own_By Z h0 ar (16 : Int32)) (Es_sg : Exa Z h0 sg "java/lang/String") (Fc_sg : Fld Z h0 sg "java/lang/String" "coder" "B" (.int 0)) (Fv_sg : Fld Z h0 sg "java/lang/String" "value" "[B" (.ref sa)) (Vb_sa : own_By Z h0 sa (21 : Int32)) (gn_o : n0 ≤ o) (ne_sa : sa ≠ ar) :
    own_MG l Z ((⟨"java/lang/StringBuilder", "append", "(Ljava/lang/String;)Ljava/lang/StringBuilder;"⟩ : MethodName)) jdk_67_method_7_code 2 (some (.object "java/lang/StringBuilder")) ({ frames := 5, cells := 1, slots := 34, locals := 103 } : Room) #[(.ref o), (.ref sg)] h0 (Qsp16_0_21 Z o ar sg sa cs ci ca h0 n0) := by
  refine own_mkG (plainFor_of_name pn_java_lang_StringBuilder) ?_
  intro p e s m below meth c s₁ X0 hx hby hml hown hnm hret hlk hZ e0
  have N0 := Fr.nil n0
  have K0 := Keep.refl h0 [o]
  rw [ef_RR2 m o sg]
  refine own_vF m s₁ 1 #[vR o, vR sg] [(.ref o)] (fun t k => XS.aloadN X0.here hx rfl (hb hby d23_0) rfl rfl k) ?_
  refine own_vF m s₁ 2 #[vR o, vR sg] [(.ref sg), (.ref o)] (fun t k => XS.aloadN X0.here hx rfl (hb hby d23_1) rfl rfl k) ?_
  obtain ⟨_, T1, L1, X1, hQ1, st1⟩ := own_callU X0 hx hZ (x := (⟨"java/lang/AbstractStringBuilder", "ensureCapacityInternal", "(I)V"⟩ : MethodName)) (y := (⟨"java/lang/AbstractStringBuilder", "append", "(Ljava/lang/String;)Ljava/lang/AbstractStringBuilder;"⟩ : MethodName)) (by decide) (W := 0) (C := "java/lang/StringBuilder") hown (hw _ (own_mt 100 rfl)) (hw _ (own_mt 103 rfl)) rfl (hw _ (own_mt 111 rfl)) (hw _ (own_mt 102 rfl)) (hw _ (own_mt 101 rfl)) (hw _ (own_mt 86 rfl)) (hw _ (own_mt 104 rfl)) (by decide) (rm_Qap16_0_21 l Z a0 hw o ar sg sa cs ci ca h0 n0 Z0 Od SS Eo_o Fv_o Fc_o Fn_o Vb_ar Es_sg Fc_sg Fv_sg Vb_sa gn_o ne_sa) (by decide) (by decide) e0 Eo_o (g := (mkF m 2 #[vR o, vR sg] [(.ref sg), (.ref o)])) rfl (by rw [hml]; rfl) (argsL := [(.ref sg)]) (rest := []) rfl (lenOf pd_Ljava_lang_String___Ljava_lang_AbstractStringBuilder_ rfl) rfl own_w0 (hb hby d23_2) (by decide) (by decide)
  obtain ⟨r1, rfl, N1q, K1q, sq_r1, E1q, Fval1, Fcod1, Fcou1, V1q⟩ := hQ1
  have N1 := Fr.app N0 N1q
  have sz_r1 : h0.size ≤ r1 := Nat.le_trans K0.1 sq_r1
  have K13 := K0.trans K1q (allS (Or.inl (own_mt 0 rfl)) all0)
  refine own_vF m T1 5 #[vR o, vR sg] [(.ref o)] (fun t k => st1 t k) ?_
  refine own_vF m T1 6 #[vR o, vR sg] [] (fun t k => XS.pop X1.here hx rfl (hb hby d23_5) rfl rfl k) ?_
  refine own_vF m T1 7 #[vR o, vR sg] [(.ref o)] (fun t k => XS.aloadN X1.here hx rfl (hb hby d23_6) rfl rfl k) ?_
  exact own_ret X1 (v := some (.ref o)) (fun h => by rw [hret] at h; cases h) hlk (fun fs hr => retOut X1 hx (t := (.object "java/lang/StringBuilder")) hret rfl (Or.inr (Or.inr (Or.inr (Or.inr ⟨rfl, rfl, rfl⟩)))) (hb hby d23_7) hr) (by exact ⟨r1, rfl, N1, K13, sz_r1, E1q, Fval1, Fcod1, Fcou1, V1q⟩) (by decide) (by decide)
def Qap34_21_1 (Z : State) (o ar sg sa : Addr) (cs : Int32) (ci ca : Addr) (h0 : Heap) (n0 : Nat) (v : Option Value) (h : Heap) (L : List Loc) : Prop := v = some (.ref o) ∧ Fr n0 L ∧ Keep h0 h [o, ar] ∧ Exa Z h o "java/lang/StringBuilder" ∧ Fld Z h o "java/lang/AbstractStringBuilder" "value" "[B" (.ref ar) ∧ Fld Z h o "java/lang/AbstractStringBuilder" "coder" "B" (.int 0) ∧ Fld Z h o "java/lang/AbstractStringBuilder" "count" "I" (.int 22) ∧ own_By Z h ar (34 : Int32)
set_option maxRecDepth 65536 in
set_option maxHeartbeats 40000000 in
theorem rm_Qap34_21_1 (l : Launch) (Z : State) (a0 : Array Value) (hw : ∀ d ∈ tables_1, d.before a0 Z = true) (o ar sg sa : Addr) (cs : Int32) (ci ca : Addr) (h0 : Heap) (n0 : Nat) (Z0 : n0 ≤ h0.size) (Od : Old Z n0 h0) (SS : own_SS Z cs ci ca) (Eo_o : Exa Z h0 o "java/lang/StringBuilder") (Fv_o : Fld Z h0 o "java/lang/AbstractStringBuilder" "value" "[B" (.ref ar)) (Fc_o : Fld Z h0 o "java/lang/AbstractStringBuilder" "coder" "B" (.int 0)) (Fn_o : Fld Z h0 o "java/lang/AbstractStringBuilder" "count" "I" (.int 21)) (Vb_ar : own_By Z h0 ar (34 : Int32)) (Es_sg : Exa Z h0 sg "java/lang/String") (Fc_sg : Fld Z h0 sg "java/lang/String" "coder" "B" (.int 0)) (Fv_sg : Fld Z h0 sg "java/lang/String" "value" "[B" (.ref sa)) (Vb_sa : own_By Z h0 sa (1 : Int32)) (gn_o : n0 ≤ o) (gn_ar : n0 ≤ ar) (ne_sa : sa ≠ ar) :
    own_MG l Z ((⟨"java/lang/AbstractStringBuilder", "append", "(Ljava/lang/String;)Ljava/lang/AbstractStringBuilder;"⟩ : MethodName)) jdk_68_method_22_code 3 (some (.object "java/lang/AbstractStringBuilder")) ({ frames := 3, cells := 0, slots := 0, locals := 89 } : Room) #[(.ref o), (.ref sg)] h0 (Qap34_21_1 Z o ar sg sa cs ci ca h0 n0) := by
  refine own_mkG (plainFor_of_name pn_java_lang_AbstractStringBuilder) ?_
  intro p e s m below meth c s₁ X0 hx hby hml hown hnm hret hlk hZ e0
  have N0 := Fr.nil n0
  have K0 := Keep.refl h0 [o, ar]
  rw [ef_RR3 m o sg]
  refine own_vF m s₁ 1 #[vR o, vR sg, .unset] [(.ref sg)] (fun t k => XS.aloadN X0.here hx rfl (hb hby d22_0) rfl rfl k) ?_
  refine own_vF m s₁ 9 #[vR o, vR sg, .unset] [] (fun t k => XS.ifnonnullYes X0.here hx rfl (pc0 := 1) (pc' := 9) rfl (hb hby d22_1) rfl (by decide) (by decide) k) ?_
  refine own_vF m s₁ 10 #[vR o, vR sg, .unset] [(.ref sg)] (fun t k => XS.aloadN X0.here hx rfl (hb hby d22_9) rfl rfl k) ?_
  obtain ⟨_, T1, L1, X1, hQ1, st1⟩ := own_callV X0 hx hZ (y := (⟨"java/lang/String", "length", "()I"⟩ : MethodName)) (W := 0) (C := "java/lang/String") hown (hw _ (own_mt 105 rfl)) (hw _ (own_mt 65 rfl)) (hw _ (own_mt 67 rfl)) (hw _ (own_mt 66 rfl)) (hw _ (own_mt 6 rfl)) (hw _ (own_mt 68 rfl)) (by decide) (rm_Qln1 l Z a0 hw sg sa cs ci ca h0 n0 Z0 Od SS Es_sg Fc_sg Fv_sg Vb_sa) (by decide) (by decide) e0 Es_sg (g := (mkF m 10 #[vR o, vR sg, .unset] [(.ref sg)])) rfl (by rw [hml]; rfl) (argsL := []) (rest := []) rfl (lenOf pd___I rfl) rfl own_w0 (hb hby d22_10) (by decide) (by decide)
  obtain ⟨rfl, N1q, e1⟩ := hQ1
  have N1 := Fr.app N0 N1q
  refine own_vF m T1 13 #[vR o, vR sg, .unset] [(.int 1)] (fun t k => st1 t k) ?_
  refine own_vF m T1 14 #[vR o, vR sg, vI (1 : Int32)] [] (fun t k => XS.istoreN X1.here hx rfl (hb hby d22_13) rfl (l' := #[vR o, vR sg, vI (1 : Int32)]) rfl k) ?_
  refine own_vF m T1 15 #[vR o, vR sg, vI (1 : Int32)] [(.ref o)] (fun t k => XS.aloadN X1.here hx rfl (hb hby d22_14) rfl rfl k) ?_
  refine own_vF m T1 16 #[vR o, vR sg, vI (1 : Int32)] [(.ref o), (.ref o)] (fun t k => XS.aloadN X1.here hx rfl (hb hby d22_15) rfl rfl k) ?_
  obtain ⟨T2, X2, e2, st2⟩ := getF (host := "") X1 hx hZ hown (Or.inl (hw _ (own_mt 106 rfl))) Via.refl e1 Fn_o (g := (mkF m 16 #[vR o, vR sg, vI (1 : Int32)] [(.ref o), (.ref o)])) rfl rfl (hb hby d22_16)
  refine own_vF m T2 19 #[vR o, vR sg, vI (1 : Int32)] [(.int 21), (.ref o)] (fun t k => st2 t k) ?_
  refine own_vF m T2 20 #[vR o, vR sg, vI (1 : Int32)] [(.int 1), (.int 21), (.ref o)] (fun t k => XS.iloadN X2.here hx rfl (hb hby d22_19) rfl k) ?_
  refine own_vF m T2 21 #[vR o, vR sg, vI (1 : Int32)] [(.int ((21 : Int32) + (1 : Int32))), (.ref o)] (fun t k => XS.iadd X2.here hx rfl (hb hby d22_20) rfl k) ?_
  rw [show ((21 : Int32) + (1 : Int32)) = (22 : Int32) from by decide]
  obtain ⟨_, T3, L3, X3, hQ3, st3⟩ := own_callP X2 hx hZ (y := (⟨"java/lang/AbstractStringBuilder", "ensureCapacityInternal", "(I)V"⟩ : MethodName)) (W := 0) (C := "java/lang/StringBuilder") hown (hw _ (own_mt 108 rfl)) (hw _ (own_mt 110 rfl)) (hw _ (own_mt 111 rfl)) (hw _ (own_mt 109 rfl)) (hw _ (own_mt 86 rfl)) (hw _ (own_mt 112 rfl)) (by decide) (rm_Qen34_21_22 l Z a0 hw o ar cs ci ca h0 n0 Z0 Od SS Eo_o Fv_o Fc_o Fn_o Vb_ar) (by decide) (by decide) e2 Eo_o (g := (mkF m 21 #[vR o, vR sg, vI (1 : Int32)] [(.int 22), (.ref o)])) rfl (by rw [hml]; rfl) (argsL := [(.int 22)]) (rest := []) rfl (lenOf pd_I__V rfl) rfl own_w0 (hb hby d22_21) (by decide) (by decide)
  obtain ⟨rfl, N3q, e3⟩ := hQ3
  have N3 := Fr.app N1 N3q
  refine own_vF m T3 24 #[vR o, vR sg, vI (1 : Int32)] [] (fun t k => st3 t k) ?_
  refine own_vF m T3 25 #[vR o, vR sg, vI (1 : Int32)] [(.ref o)] (fun t k => XS.aloadN X3.here hx rfl (hb hby d22_24) rfl rfl k) ?_
  refine own_vF m T3 26 #[vR o, vR sg, vI (1 : Int32)] [(.ref o), (.ref o)] (fun t k => XS.aloadN X3.here hx rfl (hb hby d22_25) rfl rfl k) ?_
  obtain ⟨T4, X4, e4, st4⟩ := getF (host := "") X3 hx hZ hown (Or.inl (hw _ (own_mt 106 rfl))) Via.refl e3 Fn_o (g := (mkF m 26 #[vR o, vR sg, vI (1 : Int32)] [(.ref o), (.ref o)])) rfl rfl (hb hby d22_26)
  refine own_vF m T4 29 #[vR o, vR sg, vI (1 : Int32)] [(.int 21), (.ref o)] (fun t k => st4 t k) ?_
  refine own_vF m T4 30 #[vR o, vR sg, vI (1 : Int32)] [(.ref sg), (.int 21), (.ref o)] (fun t k => XS.aloadN X4.here hx rfl (hb hby d22_29) rfl rfl k) ?_
  obtain ⟨_, T5, L5, X5, hQ5, st5⟩ := own_callP X4 hx hZ (y := (⟨"java/lang/AbstractStringBuilder", "putStringAt", "(ILjava/lang/String;)V"⟩ : MethodName)) (W := 0) (C := "java/lang/StringBuilder") hown (hw _ (own_mt 139 rfl)) (hw _ (own_mt 141 rfl)) (hw _ (own_mt 142 rfl)) (hw _ (own_mt 140 rfl)) (hw _ (own_mt 86 rfl)) (hw _ (own_mt 143 rfl)) (by decide) (rm_Qps34_21_1 l Z a0 hw o ar sg sa cs ci ca h0 n0 Z0 Od SS Eo_o Fv_o Fc_o Fn_o Vb_ar Es_sg Fc_sg Fv_sg Vb_sa gn_ar ne_sa) (by decide) (by decide) e4 Eo_o (g := (mkF m 30 #[vR o, vR sg, vI (1 : Int32)] [(.ref sg), (.int 21), (.ref o)])) rfl (by rw [hml]; rfl) (argsL := [(.int 21), (.ref sg)]) (rest := []) rfl (lenOf pd_ILjava_lang_String___V rfl) rfl own_w0 (hb hby d22_30) (by decide) (by decide)
  obtain ⟨rfl, N5q, K5q, V5q⟩ := hQ5
  have N5 := Fr.app N3 N5q
  have f7 := Eo_o.keep K5q
  have f8 := Fv_o.keep K5q (ninS (own_By.ne Vb_ar Eo_o (hw _ (own_mt 77 rfl))) nin0)
  have f9 := Fc_o.keep K5q (ninS (own_By.ne Vb_ar Eo_o (hw _ (own_mt 77 rfl))) nin0)
  have f10 := Fn_o.keep K5q (ninS (own_By.ne Vb_ar Eo_o (hw _ (own_mt 77 rfl))) nin0)
  have K15 := K0.trans K5q (allS (Or.inl (own_mt 1 rfl)) all0)
  refine own_vF m T5 33 #[vR o, vR sg, vI (1 : Int32)] [] (fun t k => st5 t k) ?_
  refine own_vF m T5 34 #[vR o, vR sg, vI (1 : Int32)] [(.ref o)] (fun t k => XS.aloadN X5.here hx rfl (hb hby d22_33) rfl rfl k) ?_
  refine own_vF m T5 35 #[vR o, vR sg, vI (1 : Int32)] [(.ref o), (.ref o)] (fun t k => XS.dup X5.here hx rfl (hb hby d22_34) rfl rfl k) ?_
  obtain ⟨T16, X16, e16, st16⟩ := getF (host := "") X5 hx hZ hown (Or.inl (hw _ (own_mt 106 rfl))) Via.refl rfl f10 (g := (mkF m 35 #[vR o, vR sg, vI (1 : Int32)] [(.ref o), (.ref o)])) rfl rfl (hb hby d22_35)
  refine own_vF m T16 38 #[vR o, vR sg, vI (1 : Int32)] [(.int 21), (.ref o)] (fun t k => st16 t k) ?_
  refine own_vF m T16 39 #[vR o, vR sg, vI (1 : Int32)] [(.int 1), (.int 21), (.ref o)] (fun t k => XS.iloadN X16.here hx rfl (hb hby d22_38) rfl k) ?_
  refine own_vF m T16 40 #[vR o, vR sg, vI (1 : Int32)] [(.int ((21 : Int32) + (1 : Int32))), (.ref o)] (fun t k => XS.iadd X16.here hx rfl (hb hby d22_39) rfl k) ?_
  rw [show ((21 : Int32) + (1 : Int32)) = (22 : Int32) from by decide]
  obtain ⟨T17, h17, X17, e17, W17, st17⟩ := putF (host := "") X16 hx hZ hown (Or.inl (hw _ (own_mt 106 rfl))) Via.refl e16 f10 f7 (Or.inl (hw _ (own_mt 107 rfl))) (hw _ (own_mt 77 rfl)) (ty := .int) (by decide) rfl rfl (g := (mkF m 40 #[vR o, vR sg, vI (1 : Int32)] [(.int 22), (.ref o)])) rfl rfl (hb hby d22_40)
  have f17w := f10.same W17
  have f19 := f7.wr W17
  have f20 := f8.other W17 (Or.inr (slot_ne (Or.inl (hw _ (own_mt 91 rfl))) (Or.inl (hw _ (own_mt 107 rfl))) (by decide) (t := (.array .byte)) (t' := .int) (by decide) (by decide)))
  have f21 := f9.other W17 (Or.inr (slot_ne (Or.inl (hw _ (own_mt 93 rfl))) (Or.inl (hw _ (own_mt 107 rfl))) (by decide) (t := .byte) (t' := .int) (by decide) (by decide)))
  have f26 := V5q.other W17 (Ne.symm (own_By.ne V5q f7 (hw _ (own_mt 77 rfl))))
  have K27 := K15.wr W17 (Or.inl (own_mt 0 rfl))
  have N17 := Fr.snoc X17 N5 gn_o
  refine own_vF m T17 43 #[vR o, vR sg, vI (1 : Int32)] [] (fun t k => st17 t k) ?_
  refine own_vF m T17 44 #[vR o, vR sg, vI (1 : Int32)] [(.ref o)] (fun t k => XS.aloadN X17.here hx rfl (hb hby d22_43) rfl rfl k) ?_
  exact own_ret X17 (v := some (.ref o)) (fun h => by rw [hret] at h; cases h) hlk (fun fs hr => retOut X17 hx (t := (.object "java/lang/AbstractStringBuilder")) hret rfl (Or.inr (Or.inr (Or.inr (Or.inr ⟨rfl, rfl, rfl⟩)))) (hb hby d22_44) hr) (by rw [e17]; exact ⟨rfl, N17, K27, f19, f20, f21, f17w, f26⟩) (by decide) (by decide)
def Qsp34_21_1 (Z : State) (o ar sg sa : Addr) (cs : Int32) (ci ca : Addr) (h0 : Heap) (n0 : Nat) (v : Option Value) (h : Heap) (L : List Loc) : Prop := v = some (.ref o) ∧ Fr n0 L ∧ Keep h0 h [o, ar] ∧ Exa Z h o "java/lang/StringBuilder" ∧ Fld Z h o "java/lang/AbstractStringBuilder" "value" "[B" (.ref ar) ∧ Fld Z h o "java/lang/AbstractStringBuilder" "coder" "B" (.int 0) ∧ Fld Z h o "java/lang/AbstractStringBuilder" "count" "I" (.int 22) ∧ own_By Z h ar (34 : Int32)
set_option maxRecDepth 65536 in
set_option maxHeartbeats 40000000 in
theorem rm_Qsp34_21_1 (l : Launch) (Z : State) (a0 : Array Value) (hw : ∀ d ∈ tables_1, d.before a0 Z = true) (o ar sg sa : Addr) (cs : Int32) (ci ca : Addr) (h0 : Heap) (n0 : Nat) (Z0 : n0 ≤ h0.size) (Od : Old Z n0 h0) (SS : own_SS Z cs ci ca) (Eo_o : Exa Z h0 o "java/lang/StringBuilder") (Fv_o : Fld Z h0 o "java/lang/AbstractStringBuilder" "value" "[B" (.ref ar)) (Fc_o : Fld Z h0 o "java/lang/AbstractStringBuilder" "coder" "B" (.int 0)) (Fn_o : Fld Z h0 o "java/lang/AbstractStringBuilder" "count" "I" (.int 21)) (Vb_ar : own_By Z h0 ar (34 : Int32)) (Es_sg : Exa Z h0 sg "java/lang/String") (Fc_sg : Fld Z h0 sg "java/lang/String" "coder" "B" (.int 0)) (Fv_sg : Fld Z h0 sg "java/lang/String" "value" "[B" (.ref sa)) (Vb_sa : own_By Z h0 sa (1 : Int32)) (gn_o : n0 ≤ o) (gn_ar : n0 ≤ ar) (ne_sa : sa ≠ ar) :
    own_MG l Z ((⟨"java/lang/StringBuilder", "append", "(Ljava/lang/String;)Ljava/lang/StringBuilder;"⟩ : MethodName)) jdk_67_method_7_code 2 (some (.object "java/lang/StringBuilder")) ({ frames := 4, cells := 0, slots := 0, locals := 103 } : Room) #[(.ref o), (.ref sg)] h0 (Qsp34_21_1 Z o ar sg sa cs ci ca h0 n0) := by
  refine own_mkG (plainFor_of_name pn_java_lang_StringBuilder) ?_
  intro p e s m below meth c s₁ X0 hx hby hml hown hnm hret hlk hZ e0
  have N0 := Fr.nil n0
  have K0 := Keep.refl h0 [o, ar]
  rw [ef_RR2 m o sg]
  refine own_vF m s₁ 1 #[vR o, vR sg] [(.ref o)] (fun t k => XS.aloadN X0.here hx rfl (hb hby d23_0) rfl rfl k) ?_
  refine own_vF m s₁ 2 #[vR o, vR sg] [(.ref sg), (.ref o)] (fun t k => XS.aloadN X0.here hx rfl (hb hby d23_1) rfl rfl k) ?_
  obtain ⟨_, T1, L1, X1, hQ1, st1⟩ := own_callU X0 hx hZ (x := (⟨"java/lang/AbstractStringBuilder", "ensureCapacityInternal", "(I)V"⟩ : MethodName)) (y := (⟨"java/lang/AbstractStringBuilder", "append", "(Ljava/lang/String;)Ljava/lang/AbstractStringBuilder;"⟩ : MethodName)) (by decide) (W := 0) (C := "java/lang/StringBuilder") hown (hw _ (own_mt 100 rfl)) (hw _ (own_mt 103 rfl)) rfl (hw _ (own_mt 111 rfl)) (hw _ (own_mt 102 rfl)) (hw _ (own_mt 101 rfl)) (hw _ (own_mt 86 rfl)) (hw _ (own_mt 104 rfl)) (by decide) (rm_Qap34_21_1 l Z a0 hw o ar sg sa cs ci ca h0 n0 Z0 Od SS Eo_o Fv_o Fc_o Fn_o Vb_ar Es_sg Fc_sg Fv_sg Vb_sa gn_o gn_ar ne_sa) (by decide) (by decide) e0 Eo_o (g := (mkF m 2 #[vR o, vR sg] [(.ref sg), (.ref o)])) rfl (by rw [hml]; rfl) (argsL := [(.ref sg)]) (rest := []) rfl (lenOf pd_Ljava_lang_String___Ljava_lang_AbstractStringBuilder_ rfl) rfl own_w0 (hb hby d23_2) (by decide) (by decide)
  obtain ⟨rfl, N1q, K1q, E1q, Fval1, Fcod1, Fcou1, V1q⟩ := hQ1
  have N1 := Fr.app N0 N1q
  have K8 := K0.trans K1q (allS (Or.inl (own_mt 0 rfl)) (allS (Or.inl (own_mt 1 rfl)) all0))
  refine own_vF m T1 5 #[vR o, vR sg] [(.ref o)] (fun t k => st1 t k) ?_
  refine own_vF m T1 6 #[vR o, vR sg] [] (fun t k => XS.pop X1.here hx rfl (hb hby d23_5) rfl rfl k) ?_
  refine own_vF m T1 7 #[vR o, vR sg] [(.ref o)] (fun t k => XS.aloadN X1.here hx rfl (hb hby d23_6) rfl rfl k) ?_
  exact own_ret X1 (v := some (.ref o)) (fun h => by rw [hret] at h; cases h) hlk (fun fs hr => retOut X1 hx (t := (.object "java/lang/StringBuilder")) hret rfl (Or.inr (Or.inr (Or.inr (Or.inr ⟨rfl, rfl, rfl⟩)))) (hb hby d23_7) hr) (by exact ⟨rfl, N1, K8, E1q, Fval1, Fcod1, Fcou1, V1q⟩) (by decide) (by decide)
def Qap16_0_16 (Z : State) (o ar sg sa : Addr) (cs : Int32) (ci ca : Addr) (h0 : Heap) (n0 : Nat) (v : Option Value) (h : Heap) (L : List Loc) : Prop := v = some (.ref o) ∧ Fr n0 L ∧ Keep h0 h [o, ar] ∧ Exa Z h o "java/lang/StringBuilder" ∧ Fld Z h o "java/lang/AbstractStringBuilder" "value" "[B" (.ref ar) ∧ Fld Z h o "java/lang/AbstractStringBuilder" "coder" "B" (.int 0) ∧ Fld Z h o "java/lang/AbstractStringBuilder" "count" "I" (.int 16) ∧ own_By Z h ar (16 : Int32)
set_option maxRecDepth 65536 in
set_option maxHeartbeats 40000000 in
theorem rm_Qap16_0_16 (l : Launch) (Z : State) (a0 : Array Value) (hw : ∀ d ∈ tables_1, d.before a0 Z = true) (o ar sg sa : Addr) (cs : Int32) (ci ca : Addr) (h0 : Heap) (n0 : Nat) (Z0 : n0 ≤ h0.size) (Od : Old Z n0 h0) (SS : own_SS Z cs ci ca) (Eo_o : Exa Z h0 o "java/lang/StringBuilder") (Fv_o : Fld Z h0 o "java/lang/AbstractStringBuilder" "value" "[B" (.ref ar)) (Fc_o : Fld Z h0 o "java/lang/AbstractStringBuilder" "coder" "B" (.int 0)) (Fn_o : Fld Z h0 o "java/lang/AbstractStringBuilder" "count" "I" (.int 0)) (Vb_ar : own_By Z h0 ar (16 : Int32)) (Es_sg : Exa Z h0 sg "java/lang/String") (Fc_sg : Fld Z h0 sg "java/lang/String" "coder" "B" (.int 0)) (Fv_sg : Fld Z h0 sg "java/lang/String" "value" "[B" (.ref sa)) (Vb_sa : own_By Z h0 sa (16 : Int32)) (gn_o : n0 ≤ o) (gn_ar : n0 ≤ ar) (ne_sa : sa ≠ ar) :
    own_MG l Z ((⟨"java/lang/AbstractStringBuilder", "append", "(Ljava/lang/String;)Ljava/lang/AbstractStringBuilder;"⟩ : MethodName)) jdk_68_method_22_code 3 (some (.object "java/lang/AbstractStringBuilder")) ({ frames := 3, cells := 0, slots := 0, locals := 89 } : Room) #[(.ref o), (.ref sg)] h0 (Qap16_0_16 Z o ar sg sa cs ci ca h0 n0) := by
  refine own_mkG (plainFor_of_name pn_java_lang_AbstractStringBuilder) ?_
  intro p e s m below meth c s₁ X0 hx hby hml hown hnm hret hlk hZ e0
  have N0 := Fr.nil n0
  have K0 := Keep.refl h0 [o, ar]
  rw [ef_RR3 m o sg]
  refine own_vF m s₁ 1 #[vR o, vR sg, .unset] [(.ref sg)] (fun t k => XS.aloadN X0.here hx rfl (hb hby d22_0) rfl rfl k) ?_
  refine own_vF m s₁ 9 #[vR o, vR sg, .unset] [] (fun t k => XS.ifnonnullYes X0.here hx rfl (pc0 := 1) (pc' := 9) rfl (hb hby d22_1) rfl (by decide) (by decide) k) ?_
  refine own_vF m s₁ 10 #[vR o, vR sg, .unset] [(.ref sg)] (fun t k => XS.aloadN X0.here hx rfl (hb hby d22_9) rfl rfl k) ?_
  obtain ⟨_, T1, L1, X1, hQ1, st1⟩ := own_callV X0 hx hZ (y := (⟨"java/lang/String", "length", "()I"⟩ : MethodName)) (W := 0) (C := "java/lang/String") hown (hw _ (own_mt 105 rfl)) (hw _ (own_mt 65 rfl)) (hw _ (own_mt 67 rfl)) (hw _ (own_mt 66 rfl)) (hw _ (own_mt 6 rfl)) (hw _ (own_mt 68 rfl)) (by decide) (rm_Qln16 l Z a0 hw sg sa cs ci ca h0 n0 Z0 Od SS Es_sg Fc_sg Fv_sg Vb_sa) (by decide) (by decide) e0 Es_sg (g := (mkF m 10 #[vR o, vR sg, .unset] [(.ref sg)])) rfl (by rw [hml]; rfl) (argsL := []) (rest := []) rfl (lenOf pd___I rfl) rfl own_w0 (hb hby d22_10) (by decide) (by decide)
  obtain ⟨rfl, N1q, e1⟩ := hQ1
  have N1 := Fr.app N0 N1q
  refine own_vF m T1 13 #[vR o, vR sg, .unset] [(.int 16)] (fun t k => st1 t k) ?_
  refine own_vF m T1 14 #[vR o, vR sg, vI (16 : Int32)] [] (fun t k => XS.istoreN X1.here hx rfl (hb hby d22_13) rfl (l' := #[vR o, vR sg, vI (16 : Int32)]) rfl k) ?_
  refine own_vF m T1 15 #[vR o, vR sg, vI (16 : Int32)] [(.ref o)] (fun t k => XS.aloadN X1.here hx rfl (hb hby d22_14) rfl rfl k) ?_
  refine own_vF m T1 16 #[vR o, vR sg, vI (16 : Int32)] [(.ref o), (.ref o)] (fun t k => XS.aloadN X1.here hx rfl (hb hby d22_15) rfl rfl k) ?_
  obtain ⟨T2, X2, e2, st2⟩ := getF (host := "") X1 hx hZ hown (Or.inl (hw _ (own_mt 106 rfl))) Via.refl e1 Fn_o (g := (mkF m 16 #[vR o, vR sg, vI (16 : Int32)] [(.ref o), (.ref o)])) rfl rfl (hb hby d22_16)
  refine own_vF m T2 19 #[vR o, vR sg, vI (16 : Int32)] [(.int 0), (.ref o)] (fun t k => st2 t k) ?_
  refine own_vF m T2 20 #[vR o, vR sg, vI (16 : Int32)] [(.int 16), (.int 0), (.ref o)] (fun t k => XS.iloadN X2.here hx rfl (hb hby d22_19) rfl k) ?_
  refine own_vF m T2 21 #[vR o, vR sg, vI (16 : Int32)] [(.int ((0 : Int32) + (16 : Int32))), (.ref o)] (fun t k => XS.iadd X2.here hx rfl (hb hby d22_20) rfl k) ?_
  rw [show ((0 : Int32) + (16 : Int32)) = (16 : Int32) from by decide]
  obtain ⟨_, T3, L3, X3, hQ3, st3⟩ := own_callP X2 hx hZ (y := (⟨"java/lang/AbstractStringBuilder", "ensureCapacityInternal", "(I)V"⟩ : MethodName)) (W := 0) (C := "java/lang/StringBuilder") hown (hw _ (own_mt 108 rfl)) (hw _ (own_mt 110 rfl)) (hw _ (own_mt 111 rfl)) (hw _ (own_mt 109 rfl)) (hw _ (own_mt 86 rfl)) (hw _ (own_mt 112 rfl)) (by decide) (rm_Qen16_0_16 l Z a0 hw o ar cs ci ca h0 n0 Z0 Od SS Eo_o Fv_o Fc_o Fn_o Vb_ar) (by decide) (by decide) e2 Eo_o (g := (mkF m 21 #[vR o, vR sg, vI (16 : Int32)] [(.int 16), (.ref o)])) rfl (by rw [hml]; rfl) (argsL := [(.int 16)]) (rest := []) rfl (lenOf pd_I__V rfl) rfl own_w0 (hb hby d22_21) (by decide) (by decide)
  obtain ⟨rfl, N3q, e3⟩ := hQ3
  have N3 := Fr.app N1 N3q
  refine own_vF m T3 24 #[vR o, vR sg, vI (16 : Int32)] [] (fun t k => st3 t k) ?_
  refine own_vF m T3 25 #[vR o, vR sg, vI (16 : Int32)] [(.ref o)] (fun t k => XS.aloadN X3.here hx rfl (hb hby d22_24) rfl rfl k) ?_
  refine own_vF m T3 26 #[vR o, vR sg, vI (16 : Int32)] [(.ref o), (.ref o)] (fun t k => XS.aloadN X3.here hx rfl (hb hby d22_25) rfl rfl k) ?_
  obtain ⟨T4, X4, e4, st4⟩ := getF (host := "") X3 hx hZ hown (Or.inl (hw _ (own_mt 106 rfl))) Via.refl e3 Fn_o (g := (mkF m 26 #[vR o, vR sg, vI (16 : Int32)] [(.ref o), (.ref o)])) rfl rfl (hb hby d22_26)
  refine own_vF m T4 29 #[vR o, vR sg, vI (16 : Int32)] [(.int 0), (.ref o)] (fun t k => st4 t k) ?_
  refine own_vF m T4 30 #[vR o, vR sg, vI (16 : Int32)] [(.ref sg), (.int 0), (.ref o)] (fun t k => XS.aloadN X4.here hx rfl (hb hby d22_29) rfl rfl k) ?_
  obtain ⟨_, T5, L5, X5, hQ5, st5⟩ := own_callP X4 hx hZ (y := (⟨"java/lang/AbstractStringBuilder", "putStringAt", "(ILjava/lang/String;)V"⟩ : MethodName)) (W := 0) (C := "java/lang/StringBuilder") hown (hw _ (own_mt 139 rfl)) (hw _ (own_mt 141 rfl)) (hw _ (own_mt 142 rfl)) (hw _ (own_mt 140 rfl)) (hw _ (own_mt 86 rfl)) (hw _ (own_mt 143 rfl)) (by decide) (rm_Qps16_0_16 l Z a0 hw o ar sg sa cs ci ca h0 n0 Z0 Od SS Eo_o Fv_o Fc_o Fn_o Vb_ar Es_sg Fc_sg Fv_sg Vb_sa gn_ar ne_sa) (by decide) (by decide) e4 Eo_o (g := (mkF m 30 #[vR o, vR sg, vI (16 : Int32)] [(.ref sg), (.int 0), (.ref o)])) rfl (by rw [hml]; rfl) (argsL := [(.int 0), (.ref sg)]) (rest := []) rfl (lenOf pd_ILjava_lang_String___V rfl) rfl own_w0 (hb hby d22_30) (by decide) (by decide)
  obtain ⟨rfl, N5q, K5q, V5q⟩ := hQ5
  have N5 := Fr.app N3 N5q
  have f7 := Eo_o.keep K5q
  have f8 := Fv_o.keep K5q (ninS (own_By.ne Vb_ar Eo_o (hw _ (own_mt 77 rfl))) nin0)
  have f9 := Fc_o.keep K5q (ninS (own_By.ne Vb_ar Eo_o (hw _ (own_mt 77 rfl))) nin0)
  have f10 := Fn_o.keep K5q (ninS (own_By.ne Vb_ar Eo_o (hw _ (own_mt 77 rfl))) nin0)
  have K15 := K0.trans K5q (allS (Or.inl (own_mt 1 rfl)) all0)
  refine own_vF m T5 33 #[vR o, vR sg, vI (16 : Int32)] [] (fun t k => st5 t k) ?_
  refine own_vF m T5 34 #[vR o, vR sg, vI (16 : Int32)] [(.ref o)] (fun t k => XS.aloadN X5.here hx rfl (hb hby d22_33) rfl rfl k) ?_
  refine own_vF m T5 35 #[vR o, vR sg, vI (16 : Int32)] [(.ref o), (.ref o)] (fun t k => XS.dup X5.here hx rfl (hb hby d22_34) rfl rfl k) ?_
  obtain ⟨T16, X16, e16, st16⟩ := getF (host := "") X5 hx hZ hown (Or.inl (hw _ (own_mt 106 rfl))) Via.refl rfl f10 (g := (mkF m 35 #[vR o, vR sg, vI (16 : Int32)] [(.ref o), (.ref o)])) rfl rfl (hb hby d22_35)
  refine own_vF m T16 38 #[vR o, vR sg, vI (16 : Int32)] [(.int 0), (.ref o)] (fun t k => st16 t k) ?_
  refine own_vF m T16 39 #[vR o, vR sg, vI (16 : Int32)] [(.int 16), (.int 0), (.ref o)] (fun t k => XS.iloadN X16.here hx rfl (hb hby d22_38) rfl k) ?_
  refine own_vF m T16 40 #[vR o, vR sg, vI (16 : Int32)] [(.int ((0 : Int32) + (16 : Int32))), (.ref o)] (fun t k => XS.iadd X16.here hx rfl (hb hby d22_39) rfl k) ?_
  rw [show ((0 : Int32) + (16 : Int32)) = (16 : Int32) from by decide]
  obtain ⟨T17, h17, X17, e17, W17, st17⟩ := putF (host := "") X16 hx hZ hown (Or.inl (hw _ (own_mt 106 rfl))) Via.refl e16 f10 f7 (Or.inl (hw _ (own_mt 107 rfl))) (hw _ (own_mt 77 rfl)) (ty := .int) (by decide) rfl rfl (g := (mkF m 40 #[vR o, vR sg, vI (16 : Int32)] [(.int 16), (.ref o)])) rfl rfl (hb hby d22_40)
  have f17w := f10.same W17
  have f19 := f7.wr W17
  have f20 := f8.other W17 (Or.inr (slot_ne (Or.inl (hw _ (own_mt 91 rfl))) (Or.inl (hw _ (own_mt 107 rfl))) (by decide) (t := (.array .byte)) (t' := .int) (by decide) (by decide)))
  have f21 := f9.other W17 (Or.inr (slot_ne (Or.inl (hw _ (own_mt 93 rfl))) (Or.inl (hw _ (own_mt 107 rfl))) (by decide) (t := .byte) (t' := .int) (by decide) (by decide)))
  have f26 := V5q.other W17 (Ne.symm (own_By.ne V5q f7 (hw _ (own_mt 77 rfl))))
  have K27 := K15.wr W17 (Or.inl (own_mt 0 rfl))
  have N17 := Fr.snoc X17 N5 gn_o
  refine own_vF m T17 43 #[vR o, vR sg, vI (16 : Int32)] [] (fun t k => st17 t k) ?_
  refine own_vF m T17 44 #[vR o, vR sg, vI (16 : Int32)] [(.ref o)] (fun t k => XS.aloadN X17.here hx rfl (hb hby d22_43) rfl rfl k) ?_
  exact own_ret X17 (v := some (.ref o)) (fun h => by rw [hret] at h; cases h) hlk (fun fs hr => retOut X17 hx (t := (.object "java/lang/AbstractStringBuilder")) hret rfl (Or.inr (Or.inr (Or.inr (Or.inr ⟨rfl, rfl, rfl⟩)))) (hb hby d22_44) hr) (by rw [e17]; exact ⟨rfl, N17, K27, f19, f20, f21, f17w, f26⟩) (by decide) (by decide)
def Qsp16_0_16 (Z : State) (o ar sg sa : Addr) (cs : Int32) (ci ca : Addr) (h0 : Heap) (n0 : Nat) (v : Option Value) (h : Heap) (L : List Loc) : Prop := v = some (.ref o) ∧ Fr n0 L ∧ Keep h0 h [o, ar] ∧ Exa Z h o "java/lang/StringBuilder" ∧ Fld Z h o "java/lang/AbstractStringBuilder" "value" "[B" (.ref ar) ∧ Fld Z h o "java/lang/AbstractStringBuilder" "coder" "B" (.int 0) ∧ Fld Z h o "java/lang/AbstractStringBuilder" "count" "I" (.int 16) ∧ own_By Z h ar (16 : Int32)
set_option maxRecDepth 65536 in
set_option maxHeartbeats 40000000 in
theorem rm_Qsp16_0_16 (l : Launch) (Z : State) (a0 : Array Value) (hw : ∀ d ∈ tables_1, d.before a0 Z = true) (o ar sg sa : Addr) (cs : Int32) (ci ca : Addr) (h0 : Heap) (n0 : Nat) (Z0 : n0 ≤ h0.size) (Od : Old Z n0 h0) (SS : own_SS Z cs ci ca) (Eo_o : Exa Z h0 o "java/lang/StringBuilder") (Fv_o : Fld Z h0 o "java/lang/AbstractStringBuilder" "value" "[B" (.ref ar)) (Fc_o : Fld Z h0 o "java/lang/AbstractStringBuilder" "coder" "B" (.int 0)) (Fn_o : Fld Z h0 o "java/lang/AbstractStringBuilder" "count" "I" (.int 0)) (Vb_ar : own_By Z h0 ar (16 : Int32)) (Es_sg : Exa Z h0 sg "java/lang/String") (Fc_sg : Fld Z h0 sg "java/lang/String" "coder" "B" (.int 0)) (Fv_sg : Fld Z h0 sg "java/lang/String" "value" "[B" (.ref sa)) (Vb_sa : own_By Z h0 sa (16 : Int32)) (gn_o : n0 ≤ o) (gn_ar : n0 ≤ ar) (ne_sa : sa ≠ ar) :
    own_MG l Z ((⟨"java/lang/StringBuilder", "append", "(Ljava/lang/String;)Ljava/lang/StringBuilder;"⟩ : MethodName)) jdk_67_method_7_code 2 (some (.object "java/lang/StringBuilder")) ({ frames := 4, cells := 0, slots := 0, locals := 103 } : Room) #[(.ref o), (.ref sg)] h0 (Qsp16_0_16 Z o ar sg sa cs ci ca h0 n0) := by
  refine own_mkG (plainFor_of_name pn_java_lang_StringBuilder) ?_
  intro p e s m below meth c s₁ X0 hx hby hml hown hnm hret hlk hZ e0
  have N0 := Fr.nil n0
  have K0 := Keep.refl h0 [o, ar]
  rw [ef_RR2 m o sg]
  refine own_vF m s₁ 1 #[vR o, vR sg] [(.ref o)] (fun t k => XS.aloadN X0.here hx rfl (hb hby d23_0) rfl rfl k) ?_
  refine own_vF m s₁ 2 #[vR o, vR sg] [(.ref sg), (.ref o)] (fun t k => XS.aloadN X0.here hx rfl (hb hby d23_1) rfl rfl k) ?_
  obtain ⟨_, T1, L1, X1, hQ1, st1⟩ := own_callU X0 hx hZ (x := (⟨"java/lang/AbstractStringBuilder", "ensureCapacityInternal", "(I)V"⟩ : MethodName)) (y := (⟨"java/lang/AbstractStringBuilder", "append", "(Ljava/lang/String;)Ljava/lang/AbstractStringBuilder;"⟩ : MethodName)) (by decide) (W := 0) (C := "java/lang/StringBuilder") hown (hw _ (own_mt 100 rfl)) (hw _ (own_mt 103 rfl)) rfl (hw _ (own_mt 111 rfl)) (hw _ (own_mt 102 rfl)) (hw _ (own_mt 101 rfl)) (hw _ (own_mt 86 rfl)) (hw _ (own_mt 104 rfl)) (by decide) (rm_Qap16_0_16 l Z a0 hw o ar sg sa cs ci ca h0 n0 Z0 Od SS Eo_o Fv_o Fc_o Fn_o Vb_ar Es_sg Fc_sg Fv_sg Vb_sa gn_o gn_ar ne_sa) (by decide) (by decide) e0 Eo_o (g := (mkF m 2 #[vR o, vR sg] [(.ref sg), (.ref o)])) rfl (by rw [hml]; rfl) (argsL := [(.ref sg)]) (rest := []) rfl (lenOf pd_Ljava_lang_String___Ljava_lang_AbstractStringBuilder_ rfl) rfl own_w0 (hb hby d23_2) (by decide) (by decide)
  obtain ⟨rfl, N1q, K1q, E1q, Fval1, Fcod1, Fcou1, V1q⟩ := hQ1
  have N1 := Fr.app N0 N1q
  have K8 := K0.trans K1q (allS (Or.inl (own_mt 0 rfl)) (allS (Or.inl (own_mt 1 rfl)) all0))
  refine own_vF m T1 5 #[vR o, vR sg] [(.ref o)] (fun t k => st1 t k) ?_
  refine own_vF m T1 6 #[vR o, vR sg] [] (fun t k => XS.pop X1.here hx rfl (hb hby d23_5) rfl rfl k) ?_
  refine own_vF m T1 7 #[vR o, vR sg] [(.ref o)] (fun t k => XS.aloadN X1.here hx rfl (hb hby d23_6) rfl rfl k) ?_
  exact own_ret X1 (v := some (.ref o)) (fun h => by rw [hret] at h; cases h) hlk (fun fs hr => retOut X1 hx (t := (.object "java/lang/StringBuilder")) hret rfl (Or.inr (Or.inr (Or.inr (Or.inr ⟨rfl, rfl, rfl⟩)))) (hb hby d23_7) hr) (by exact ⟨rfl, N1, K8, E1q, Fval1, Fcod1, Fcou1, V1q⟩) (by decide) (by decide)
def Qap16_16_1 (Z : State) (o ar sg sa : Addr) (cs : Int32) (ci ca : Addr) (h0 : Heap) (n0 : Nat) (v : Option Value) (h : Heap) (L : List Loc) : Prop := ∃ r, v = some (.ref o) ∧ Fr n0 L ∧ Keep h0 h [o] ∧ h0.size ≤ r ∧ Exa Z h o "java/lang/StringBuilder" ∧ Fld Z h o "java/lang/AbstractStringBuilder" "value" "[B" (.ref r) ∧ Fld Z h o "java/lang/AbstractStringBuilder" "coder" "B" (.int 0) ∧ Fld Z h o "java/lang/AbstractStringBuilder" "count" "I" (.int 17) ∧ own_By Z h r (34 : Int32)
set_option maxRecDepth 65536 in
set_option maxHeartbeats 40000000 in
theorem rm_Qap16_16_1 (l : Launch) (Z : State) (a0 : Array Value) (hw : ∀ d ∈ tables_1, d.before a0 Z = true) (o ar sg sa : Addr) (cs : Int32) (ci ca : Addr) (h0 : Heap) (n0 : Nat) (Z0 : n0 ≤ h0.size) (Od : Old Z n0 h0) (SS : own_SS Z cs ci ca) (Eo_o : Exa Z h0 o "java/lang/StringBuilder") (Fv_o : Fld Z h0 o "java/lang/AbstractStringBuilder" "value" "[B" (.ref ar)) (Fc_o : Fld Z h0 o "java/lang/AbstractStringBuilder" "coder" "B" (.int 0)) (Fn_o : Fld Z h0 o "java/lang/AbstractStringBuilder" "count" "I" (.int 16)) (Vb_ar : own_By Z h0 ar (16 : Int32)) (Es_sg : Exa Z h0 sg "java/lang/String") (Fc_sg : Fld Z h0 sg "java/lang/String" "coder" "B" (.int 0)) (Fv_sg : Fld Z h0 sg "java/lang/String" "value" "[B" (.ref sa)) (Vb_sa : own_By Z h0 sa (1 : Int32)) (gn_o : n0 ≤ o) (ne_sa : sa ≠ ar) :
    own_MG l Z ((⟨"java/lang/AbstractStringBuilder", "append", "(Ljava/lang/String;)Ljava/lang/AbstractStringBuilder;"⟩ : MethodName)) jdk_68_method_22_code 3 (some (.object "java/lang/AbstractStringBuilder")) ({ frames := 4, cells := 1, slots := 34, locals := 89 } : Room) #[(.ref o), (.ref sg)] h0 (Qap16_16_1 Z o ar sg sa cs ci ca h0 n0) := by
  refine own_mkG (plainFor_of_name pn_java_lang_AbstractStringBuilder) ?_
  intro p e s m below meth c s₁ X0 hx hby hml hown hnm hret hlk hZ e0
  have N0 := Fr.nil n0
  have K0 := Keep.refl h0 [o]
  rw [ef_RR3 m o sg]
  refine own_vF m s₁ 1 #[vR o, vR sg, .unset] [(.ref sg)] (fun t k => XS.aloadN X0.here hx rfl (hb hby d22_0) rfl rfl k) ?_
  refine own_vF m s₁ 9 #[vR o, vR sg, .unset] [] (fun t k => XS.ifnonnullYes X0.here hx rfl (pc0 := 1) (pc' := 9) rfl (hb hby d22_1) rfl (by decide) (by decide) k) ?_
  refine own_vF m s₁ 10 #[vR o, vR sg, .unset] [(.ref sg)] (fun t k => XS.aloadN X0.here hx rfl (hb hby d22_9) rfl rfl k) ?_
  obtain ⟨_, T1, L1, X1, hQ1, st1⟩ := own_callV X0 hx hZ (y := (⟨"java/lang/String", "length", "()I"⟩ : MethodName)) (W := 0) (C := "java/lang/String") hown (hw _ (own_mt 105 rfl)) (hw _ (own_mt 65 rfl)) (hw _ (own_mt 67 rfl)) (hw _ (own_mt 66 rfl)) (hw _ (own_mt 6 rfl)) (hw _ (own_mt 68 rfl)) (by decide) (rm_Qln1 l Z a0 hw sg sa cs ci ca h0 n0 Z0 Od SS Es_sg Fc_sg Fv_sg Vb_sa) (by decide) (by decide) e0 Es_sg (g := (mkF m 10 #[vR o, vR sg, .unset] [(.ref sg)])) rfl (by rw [hml]; rfl) (argsL := []) (rest := []) rfl (lenOf pd___I rfl) rfl own_w0 (hb hby d22_10) (by decide) (by decide)
  obtain ⟨rfl, N1q, e1⟩ := hQ1
  have N1 := Fr.app N0 N1q
  refine own_vF m T1 13 #[vR o, vR sg, .unset] [(.int 1)] (fun t k => st1 t k) ?_
  refine own_vF m T1 14 #[vR o, vR sg, vI (1 : Int32)] [] (fun t k => XS.istoreN X1.here hx rfl (hb hby d22_13) rfl (l' := #[vR o, vR sg, vI (1 : Int32)]) rfl k) ?_
  refine own_vF m T1 15 #[vR o, vR sg, vI (1 : Int32)] [(.ref o)] (fun t k => XS.aloadN X1.here hx rfl (hb hby d22_14) rfl rfl k) ?_
  refine own_vF m T1 16 #[vR o, vR sg, vI (1 : Int32)] [(.ref o), (.ref o)] (fun t k => XS.aloadN X1.here hx rfl (hb hby d22_15) rfl rfl k) ?_
  obtain ⟨T2, X2, e2, st2⟩ := getF (host := "") X1 hx hZ hown (Or.inl (hw _ (own_mt 106 rfl))) Via.refl e1 Fn_o (g := (mkF m 16 #[vR o, vR sg, vI (1 : Int32)] [(.ref o), (.ref o)])) rfl rfl (hb hby d22_16)
  refine own_vF m T2 19 #[vR o, vR sg, vI (1 : Int32)] [(.int 16), (.ref o)] (fun t k => st2 t k) ?_
  refine own_vF m T2 20 #[vR o, vR sg, vI (1 : Int32)] [(.int 1), (.int 16), (.ref o)] (fun t k => XS.iloadN X2.here hx rfl (hb hby d22_19) rfl k) ?_
  refine own_vF m T2 21 #[vR o, vR sg, vI (1 : Int32)] [(.int ((16 : Int32) + (1 : Int32))), (.ref o)] (fun t k => XS.iadd X2.here hx rfl (hb hby d22_20) rfl k) ?_
  rw [show ((16 : Int32) + (1 : Int32)) = (17 : Int32) from by decide]
  obtain ⟨_, T3, L3, X3, hQ3, st3⟩ := own_callP X2 hx hZ (y := (⟨"java/lang/AbstractStringBuilder", "ensureCapacityInternal", "(I)V"⟩ : MethodName)) (W := 0) (C := "java/lang/StringBuilder") hown (hw _ (own_mt 108 rfl)) (hw _ (own_mt 110 rfl)) (hw _ (own_mt 111 rfl)) (hw _ (own_mt 109 rfl)) (hw _ (own_mt 86 rfl)) (hw _ (own_mt 112 rfl)) (by decide) (rm_Qen16_16_17 l Z a0 hw o ar cs ci ca h0 n0 Z0 Od SS Eo_o Fv_o Fc_o Fn_o Vb_ar gn_o) (by decide) (by decide) e2 Eo_o (g := (mkF m 21 #[vR o, vR sg, vI (1 : Int32)] [(.int 17), (.ref o)])) rfl (by rw [hml]; rfl) (argsL := [(.int 17)]) (rest := []) rfl (lenOf pd_I__V rfl) rfl own_w0 (hb hby d22_21) (by decide) (by decide)
  obtain ⟨r3, rfl, N3q, K3q, sq_r3, E3q, Fval3, Fcod3, Fcou3, V3q⟩ := hQ3
  have N3 := Fr.app N1 N3q
  have ne4 : o ≠ r3 := Nat.ne_of_lt (Nat.lt_of_lt_of_le Eo_o.lt sq_r3)
  have ne7 : sa ≠ r3 := Nat.ne_of_lt (Nat.lt_of_lt_of_le Vb_sa.lt sq_r3)
  have gn_r3 : n0 ≤ r3 := Nat.le_trans Z0 sq_r3
  have sz_r3 : h0.size ≤ r3 := Nat.le_trans K0.1 sq_r3
  have f8 := Od.keep K3q (allS gn_o all0)
  have f11 := Es_sg.keep K3q
  have f12 := Fc_sg.keep K3q (ninS (Exa.ne Es_sg Eo_o (by decide)) nin0)
  have f13 := Fv_sg.keep K3q (ninS (Exa.ne Es_sg Eo_o (by decide)) nin0)
  have f14 := Vb_sa.keep K3q (ninS (Ne.symm (own_By.ne Vb_sa Eo_o (hw _ (own_mt 77 rfl)))) nin0)
  have Z15 : n0 ≤ T3.heap.size := Nat.le_trans Z0 K3q.1
  have K15 := K0.trans K3q (allS (Or.inl (own_mt 0 rfl)) all0)
  refine own_vF m T3 24 #[vR o, vR sg, vI (1 : Int32)] [] (fun t k => st3 t k) ?_
  refine own_vF m T3 25 #[vR o, vR sg, vI (1 : Int32)] [(.ref o)] (fun t k => XS.aloadN X3.here hx rfl (hb hby d22_24) rfl rfl k) ?_
  refine own_vF m T3 26 #[vR o, vR sg, vI (1 : Int32)] [(.ref o), (.ref o)] (fun t k => XS.aloadN X3.here hx rfl (hb hby d22_25) rfl rfl k) ?_
  obtain ⟨T16, X16, e16, st16⟩ := getF (host := "") X3 hx hZ hown (Or.inl (hw _ (own_mt 106 rfl))) Via.refl rfl Fcou3 (g := (mkF m 26 #[vR o, vR sg, vI (1 : Int32)] [(.ref o), (.ref o)])) rfl rfl (hb hby d22_26)
  refine own_vF m T16 29 #[vR o, vR sg, vI (1 : Int32)] [(.int 16), (.ref o)] (fun t k => st16 t k) ?_
  refine own_vF m T16 30 #[vR o, vR sg, vI (1 : Int32)] [(.ref sg), (.int 16), (.ref o)] (fun t k => XS.aloadN X16.here hx rfl (hb hby d22_29) rfl rfl k) ?_
  obtain ⟨_, T17, L17, X17, hQ17, st17⟩ := own_callP X16 hx hZ (y := (⟨"java/lang/AbstractStringBuilder", "putStringAt", "(ILjava/lang/String;)V"⟩ : MethodName)) (W := 0) (C := "java/lang/StringBuilder") hown (hw _ (own_mt 139 rfl)) (hw _ (own_mt 141 rfl)) (hw _ (own_mt 142 rfl)) (hw _ (own_mt 140 rfl)) (hw _ (own_mt 86 rfl)) (hw _ (own_mt 143 rfl)) (by decide) (rm_Qps34_16_1 l Z a0 hw o r3 sg sa cs ci ca T3.heap n0 Z15 f8 SS E3q Fval3 Fcod3 Fcou3 V3q f11 f12 f13 f14 gn_r3 ne7) (by decide) (by decide) e16 E3q (g := (mkF m 30 #[vR o, vR sg, vI (1 : Int32)] [(.ref sg), (.int 16), (.ref o)])) rfl (by rw [hml]; rfl) (argsL := [(.int 16), (.ref sg)]) (rest := []) rfl (lenOf pd_ILjava_lang_String___V rfl) rfl own_w0 (hb hby d22_30) (by decide) (by decide)
  obtain ⟨rfl, N17q, K17q, V17q⟩ := hQ17
  have N17 := Fr.app N3 N17q
  have f19 := E3q.keep K17q
  have f25 := Fval3.keep K17q (ninS ne4 nin0)
  have f26 := Fcod3.keep K17q (ninS ne4 nin0)
  have f27 := Fcou3.keep K17q (ninS ne4 nin0)
  have K28 := K15.trans K17q (allS (Or.inr sz_r3) all0)
  refine own_vF m T17 33 #[vR o, vR sg, vI (1 : Int32)] [] (fun t k => st17 t k) ?_
  refine own_vF m T17 34 #[vR o, vR sg, vI (1 : Int32)] [(.ref o)] (fun t k => XS.aloadN X17.here hx rfl (hb hby d22_33) rfl rfl k) ?_
  refine own_vF m T17 35 #[vR o, vR sg, vI (1 : Int32)] [(.ref o), (.ref o)] (fun t k => XS.dup X17.here hx rfl (hb hby d22_34) rfl rfl k) ?_
  obtain ⟨T29, X29, e29, st29⟩ := getF (host := "") X17 hx hZ hown (Or.inl (hw _ (own_mt 106 rfl))) Via.refl rfl f27 (g := (mkF m 35 #[vR o, vR sg, vI (1 : Int32)] [(.ref o), (.ref o)])) rfl rfl (hb hby d22_35)
  refine own_vF m T29 38 #[vR o, vR sg, vI (1 : Int32)] [(.int 16), (.ref o)] (fun t k => st29 t k) ?_
  refine own_vF m T29 39 #[vR o, vR sg, vI (1 : Int32)] [(.int 1), (.int 16), (.ref o)] (fun t k => XS.iloadN X29.here hx rfl (hb hby d22_38) rfl k) ?_
  refine own_vF m T29 40 #[vR o, vR sg, vI (1 : Int32)] [(.int ((16 : Int32) + (1 : Int32))), (.ref o)] (fun t k => XS.iadd X29.here hx rfl (hb hby d22_39) rfl k) ?_
  rw [show ((16 : Int32) + (1 : Int32)) = (17 : Int32) from by decide]
  obtain ⟨T30, h30, X30, e30, W30, st30⟩ := putF (host := "") X29 hx hZ hown (Or.inl (hw _ (own_mt 106 rfl))) Via.refl e29 f27 f19 (Or.inl (hw _ (own_mt 107 rfl))) (hw _ (own_mt 77 rfl)) (ty := .int) (by decide) rfl rfl (g := (mkF m 40 #[vR o, vR sg, vI (1 : Int32)] [(.int 17), (.ref o)])) rfl rfl (hb hby d22_40)
  have f30w := f27.same W30
  have f32 := f19.wr W30
  have f38 := f25.other W30 (Or.inr (slot_ne (Or.inl (hw _ (own_mt 91 rfl))) (Or.inl (hw _ (own_mt 107 rfl))) (by decide) (t := (.array .byte)) (t' := .int) (by decide) (by decide)))
  have f39 := f26.other W30 (Or.inr (slot_ne (Or.inl (hw _ (own_mt 93 rfl))) (Or.inl (hw _ (own_mt 107 rfl))) (by decide) (t := .byte) (t' := .int) (by decide) (by decide)))
  have f40 := V17q.other W30 (Ne.symm ne4)
  have K41 := K28.wr W30 (Or.inl (own_mt 0 rfl))
  have N30 := Fr.snoc X30 N17 gn_o
  refine own_vF m T30 43 #[vR o, vR sg, vI (1 : Int32)] [] (fun t k => st30 t k) ?_
  refine own_vF m T30 44 #[vR o, vR sg, vI (1 : Int32)] [(.ref o)] (fun t k => XS.aloadN X30.here hx rfl (hb hby d22_43) rfl rfl k) ?_
  exact own_ret X30 (v := some (.ref o)) (fun h => by rw [hret] at h; cases h) hlk (fun fs hr => retOut X30 hx (t := (.object "java/lang/AbstractStringBuilder")) hret rfl (Or.inr (Or.inr (Or.inr (Or.inr ⟨rfl, rfl, rfl⟩)))) (hb hby d22_44) hr) (by rw [e30]; exact ⟨r3, rfl, N30, K41, sz_r3, f32, f38, f39, f30w, f40⟩) (by decide) (by decide)
def Qsp16_16_1 (Z : State) (o ar sg sa : Addr) (cs : Int32) (ci ca : Addr) (h0 : Heap) (n0 : Nat) (v : Option Value) (h : Heap) (L : List Loc) : Prop := ∃ r, v = some (.ref o) ∧ Fr n0 L ∧ Keep h0 h [o] ∧ h0.size ≤ r ∧ Exa Z h o "java/lang/StringBuilder" ∧ Fld Z h o "java/lang/AbstractStringBuilder" "value" "[B" (.ref r) ∧ Fld Z h o "java/lang/AbstractStringBuilder" "coder" "B" (.int 0) ∧ Fld Z h o "java/lang/AbstractStringBuilder" "count" "I" (.int 17) ∧ own_By Z h r (34 : Int32)
set_option maxRecDepth 65536 in
set_option maxHeartbeats 40000000 in
theorem rm_Qsp16_16_1 (l : Launch) (Z : State) (a0 : Array Value) (hw : ∀ d ∈ tables_1, d.before a0 Z = true) (o ar sg sa : Addr) (cs : Int32) (ci ca : Addr) (h0 : Heap) (n0 : Nat) (Z0 : n0 ≤ h0.size) (Od : Old Z n0 h0) (SS : own_SS Z cs ci ca) (Eo_o : Exa Z h0 o "java/lang/StringBuilder") (Fv_o : Fld Z h0 o "java/lang/AbstractStringBuilder" "value" "[B" (.ref ar)) (Fc_o : Fld Z h0 o "java/lang/AbstractStringBuilder" "coder" "B" (.int 0)) (Fn_o : Fld Z h0 o "java/lang/AbstractStringBuilder" "count" "I" (.int 16)) (Vb_ar : own_By Z h0 ar (16 : Int32)) (Es_sg : Exa Z h0 sg "java/lang/String") (Fc_sg : Fld Z h0 sg "java/lang/String" "coder" "B" (.int 0)) (Fv_sg : Fld Z h0 sg "java/lang/String" "value" "[B" (.ref sa)) (Vb_sa : own_By Z h0 sa (1 : Int32)) (gn_o : n0 ≤ o) (ne_sa : sa ≠ ar) :
    own_MG l Z ((⟨"java/lang/StringBuilder", "append", "(Ljava/lang/String;)Ljava/lang/StringBuilder;"⟩ : MethodName)) jdk_67_method_7_code 2 (some (.object "java/lang/StringBuilder")) ({ frames := 5, cells := 1, slots := 34, locals := 103 } : Room) #[(.ref o), (.ref sg)] h0 (Qsp16_16_1 Z o ar sg sa cs ci ca h0 n0) := by
  refine own_mkG (plainFor_of_name pn_java_lang_StringBuilder) ?_
  intro p e s m below meth c s₁ X0 hx hby hml hown hnm hret hlk hZ e0
  have N0 := Fr.nil n0
  have K0 := Keep.refl h0 [o]
  rw [ef_RR2 m o sg]
  refine own_vF m s₁ 1 #[vR o, vR sg] [(.ref o)] (fun t k => XS.aloadN X0.here hx rfl (hb hby d23_0) rfl rfl k) ?_
  refine own_vF m s₁ 2 #[vR o, vR sg] [(.ref sg), (.ref o)] (fun t k => XS.aloadN X0.here hx rfl (hb hby d23_1) rfl rfl k) ?_
  obtain ⟨_, T1, L1, X1, hQ1, st1⟩ := own_callU X0 hx hZ (x := (⟨"java/lang/AbstractStringBuilder", "ensureCapacityInternal", "(I)V"⟩ : MethodName)) (y := (⟨"java/lang/AbstractStringBuilder", "append", "(Ljava/lang/String;)Ljava/lang/AbstractStringBuilder;"⟩ : MethodName)) (by decide) (W := 0) (C := "java/lang/StringBuilder") hown (hw _ (own_mt 100 rfl)) (hw _ (own_mt 103 rfl)) rfl (hw _ (own_mt 111 rfl)) (hw _ (own_mt 102 rfl)) (hw _ (own_mt 101 rfl)) (hw _ (own_mt 86 rfl)) (hw _ (own_mt 104 rfl)) (by decide) (rm_Qap16_16_1 l Z a0 hw o ar sg sa cs ci ca h0 n0 Z0 Od SS Eo_o Fv_o Fc_o Fn_o Vb_ar Es_sg Fc_sg Fv_sg Vb_sa gn_o ne_sa) (by decide) (by decide) e0 Eo_o (g := (mkF m 2 #[vR o, vR sg] [(.ref sg), (.ref o)])) rfl (by rw [hml]; rfl) (argsL := [(.ref sg)]) (rest := []) rfl (lenOf pd_Ljava_lang_String___Ljava_lang_AbstractStringBuilder_ rfl) rfl own_w0 (hb hby d23_2) (by decide) (by decide)
  obtain ⟨r1, rfl, N1q, K1q, sq_r1, E1q, Fval1, Fcod1, Fcou1, V1q⟩ := hQ1
  have N1 := Fr.app N0 N1q
  have sz_r1 : h0.size ≤ r1 := Nat.le_trans K0.1 sq_r1
  have K13 := K0.trans K1q (allS (Or.inl (own_mt 0 rfl)) all0)
  refine own_vF m T1 5 #[vR o, vR sg] [(.ref o)] (fun t k => st1 t k) ?_
  refine own_vF m T1 6 #[vR o, vR sg] [] (fun t k => XS.pop X1.here hx rfl (hb hby d23_5) rfl rfl k) ?_
  refine own_vF m T1 7 #[vR o, vR sg] [(.ref o)] (fun t k => XS.aloadN X1.here hx rfl (hb hby d23_6) rfl rfl k) ?_
  exact own_ret X1 (v := some (.ref o)) (fun h => by rw [hret] at h; cases h) hlk (fun fs hr => retOut X1 hx (t := (.object "java/lang/StringBuilder")) hret rfl (Or.inr (Or.inr (Or.inr (Or.inr ⟨rfl, rfl, rfl⟩)))) (hb hby d23_7) hr) (by exact ⟨r1, rfl, N1, K13, sz_r1, E1q, Fval1, Fcod1, Fcou1, V1q⟩) (by decide) (by decide)
def Qcl (Z : State) (x1 : Int32) (h0 : Heap) (n0 : Nat) (v : Option Value) (h : Heap) (L : List Loc) : Prop := v = none ∧ Fr n0 L ∧ h = h0
theorem d24_0 : decode jdk_65_method_131_code 0 = .ok (.iload_n 1, 1) := by decide +kernel
theorem d24_1 : decode jdk_65_method_131_code 1 = .ok (.iload_n 0, 1) := by decide +kernel
theorem d24_2 : decode jdk_65_method_131_code 2 = .ok (.if_icmp .ge 35, 3) := by decide +kernel
theorem d24_37 : decode jdk_65_method_131_code 37 = .ok (.return_, 1) := by decide +kernel
set_option maxRecDepth 65536 in
set_option maxHeartbeats 40000000 in
theorem rm_Qcl (l : Launch) (Z : State) (a0 : Array Value) (hw : ∀ d ∈ tables_1, d.before a0 Z = true) (x1 : Int32) (h0 : Heap) (n0 : Nat) (Z0 : n0 ≤ h0.size) (q1 : ¬ x1 < (0 : Int32)) :
    own_MG l Z ((⟨"java/util/Arrays", "checkLength", "(II)V"⟩ : MethodName)) jdk_65_method_131_code 2 none ({ frames := 0, cells := 0, slots := 0, locals := 0 } : Room) #[(.int 0), (.int x1)] h0 (Qcl Z x1 h0 n0) := by
  refine own_mkG (plainFor_of_name pn_java_util_Arrays) ?_
  intro p e s m below meth c s₁ X0 hx hby hml hown hnm hret hlk hZ e0
  have N0 := Fr.nil n0
  rw [ef_II2 m (0 : Int32) x1]
  refine own_vF m s₁ 1 #[vI (0 : Int32), vI x1] [(.int x1)] (fun t k => XS.iloadN X0.here hx rfl (hb hby d24_0) rfl k) ?_
  refine own_vF m s₁ 2 #[vI (0 : Int32), vI x1] [(.int 0), (.int x1)] (fun t k => XS.iloadN X0.here hx rfl (hb hby d24_1) rfl k) ?_
  refine own_vF m s₁ 37 #[vI (0 : Int32), vI x1] [] (fun t k => XS.icmpYes X0.here hx rfl (pc0 := 2) (pc' := 37) rfl (hb hby d24_2) rfl (flt q1).2.1 (by decide) (by decide) k) ?_
  exact own_ret X0 (v := none) (fun _ => rfl) hlk (fun fs hr => X0.returnOut hx hret (hb hby d24_37) hr) (by rw [e0]; exact ⟨rfl, N0, rfl⟩) (by decide) (by decide)
def Qcy22 (Z : State) (ar : Addr) (h0 : Heap) (n0 : Nat) (v : Option Value) (h : Heap) (L : List Loc) : Prop := ∃ r, v = some (.ref r) ∧ Fr n0 L ∧ Keep h0 h [] ∧ h0.size ≤ r ∧ own_By Z h r (22 : Int32)
theorem d25_0 : decode jdk_65_method_133_code 0 = .ok (.iload_n 1, 1) := by decide +kernel
theorem d25_1 : decode jdk_65_method_133_code 1 = .ok (.iload_n 2, 1) := by decide +kernel
theorem pd_II__V : parseMethodDescriptor "(II)V" = some ⟨[.int, .int], none⟩ := by decide +kernel
theorem d25_2 : decode jdk_65_method_133_code 2 = .ok (.invokestatic 343, 3) := by decide +kernel
theorem d25_5 : decode jdk_65_method_133_code 5 = .ok (.iload_n 2, 1) := by decide +kernel
theorem d25_6 : decode jdk_65_method_133_code 6 = .ok (.iload_n 1, 1) := by decide +kernel
theorem d25_7 : decode jdk_65_method_133_code 7 = .ok (.isub, 1) := by decide +kernel
theorem d25_8 : decode jdk_65_method_133_code 8 = .ok (.istore_n 3, 1) := by decide +kernel
theorem d25_9 : decode jdk_65_method_133_code 9 = .ok (.iload_n 3, 1) := by decide +kernel
theorem d25_10 : decode jdk_65_method_133_code 10 = .ok (.newarray .byte, 2) := by decide +kernel
theorem d25_12 : decode jdk_65_method_133_code 12 = .ok (.astore 4, 2) := by decide +kernel
theorem d25_14 : decode jdk_65_method_133_code 14 = .ok (.aload_n 0, 1) := by decide +kernel
theorem d25_15 : decode jdk_65_method_133_code 15 = .ok (.iload_n 1, 1) := by decide +kernel
theorem d25_16 : decode jdk_65_method_133_code 16 = .ok (.aload 4, 2) := by decide +kernel
theorem d25_18 : decode jdk_65_method_133_code 18 = .ok (.iconst 0, 1) := by decide +kernel
theorem d25_19 : decode jdk_65_method_133_code 19 = .ok (.aload_n 0, 1) := by decide +kernel
theorem d25_20 : decode jdk_65_method_133_code 20 = .ok (.arraylength, 1) := by decide +kernel
theorem d25_21 : decode jdk_65_method_133_code 21 = .ok (.iload_n 1, 1) := by decide +kernel
theorem d25_22 : decode jdk_65_method_133_code 22 = .ok (.isub, 1) := by decide +kernel
theorem d25_23 : decode jdk_65_method_133_code 23 = .ok (.iload_n 3, 1) := by decide +kernel
theorem d25_24 : decode jdk_65_method_133_code 24 = .ok (.invokestatic 304, 3) := by decide +kernel
theorem d25_27 : decode jdk_65_method_133_code 27 = .ok (.invokestatic 150, 3) := by decide +kernel
theorem d25_30 : decode jdk_65_method_133_code 30 = .ok (.aload 4, 2) := by decide +kernel
theorem d25_32 : decode jdk_65_method_133_code 32 = .ok (.areturn, 1) := by decide +kernel
theorem ef_RII5 (m : MethodId) (x0 : Addr) (x1 : Int32) (x2 : Int32) : entryFrame m #[(.ref x0), (.int x1), (.int x2)] 5 = mkF m 0 #[vR x0, vI x1, vI x2, .unset, .unset] [] := by first | (simp [entryFrame, mkF, argsToLocals, Value.category]; done) | rfl
set_option maxRecDepth 65536 in
set_option maxHeartbeats 40000000 in
theorem rm_Qcy22 (l : Launch) (Z : State) (a0 : Array Value) (hw : ∀ d ∈ tables_1, d.before a0 Z = true) (ar : Addr) (h0 : Heap) (n0 : Nat) (Z0 : n0 ≤ h0.size) (Vb_ar : own_By Z h0 ar (34 : Int32)) :
    own_MG l Z ((⟨"java/util/Arrays", "copyOfRangeByte", "([BII)[B"⟩ : MethodName)) jdk_65_method_133_code 5 (some (.array .byte)) ({ frames := 1, cells := 1, slots := 22, locals := 60 } : Room) #[(.ref ar), (.int 0), (.int 22)] h0 (Qcy22 Z ar h0 n0) := by
  refine own_mkG (plainFor_of_name pn_java_util_Arrays) ?_
  intro p e s m below meth c s₁ X0 hx hby hml hown hnm hret hlk hZ e0
  have N0 := Fr.nil n0
  have K0 := Keep.refl h0 []
  rw [ef_RII5 m ar (0 : Int32) (22 : Int32)]
  refine own_vF m s₁ 1 #[vR ar, vI (0 : Int32), vI (22 : Int32), .unset, .unset] [(.int 0)] (fun t k => XS.iloadN X0.here hx rfl (hb hby d25_0) rfl k) ?_
  refine own_vF m s₁ 2 #[vR ar, vI (0 : Int32), vI (22 : Int32), .unset, .unset] [(.int 22), (.int 0)] (fun t k => XS.iloadN X0.here hx rfl (hb hby d25_1) rfl k) ?_
  obtain ⟨_, T1, L1, X1, hQ1, st1⟩ := own_callS X0 hx hZ (y := (⟨"java/util/Arrays", "checkLength", "(II)V"⟩ : MethodName)) (W := 0) hown (hw _ (own_mt 193 rfl)) (hw _ (own_mt 194 rfl)) (hw _ (own_mt 130 rfl)) (hw _ (own_mt 195 rfl)) (by decide) (rm_Qcl l Z a0 hw (22 : Int32) h0 n0 Z0 (by decide)) (by decide) (by decide) e0 (g := (mkF m 2 #[vR ar, vI (0 : Int32), vI (22 : Int32), .unset, .unset] [(.int 22), (.int 0)])) rfl (by rw [hml]; rfl) (argsL := [(.int 0), (.int 22)]) (rest := []) rfl (lenOf pd_II__V rfl) rfl own_w0 (hb hby d25_2) (by decide) (by decide)
  obtain ⟨rfl, N1q, e1⟩ := hQ1
  have N1 := Fr.app N0 N1q
  refine own_vF m T1 5 #[vR ar, vI (0 : Int32), vI (22 : Int32), .unset, .unset] [] (fun t k => st1 t k) ?_
  refine own_vF m T1 6 #[vR ar, vI (0 : Int32), vI (22 : Int32), .unset, .unset] [(.int 22)] (fun t k => XS.iloadN X1.here hx rfl (hb hby d25_5) rfl k) ?_
  refine own_vF m T1 7 #[vR ar, vI (0 : Int32), vI (22 : Int32), .unset, .unset] [(.int 0), (.int 22)] (fun t k => XS.iloadN X1.here hx rfl (hb hby d25_6) rfl k) ?_
  refine own_vF m T1 8 #[vR ar, vI (0 : Int32), vI (22 : Int32), .unset, .unset] [(.int ((22 : Int32) - (0 : Int32)))] (fun t k => XS.isub X1.here hx rfl (hb hby d25_7) rfl k) ?_
  rw [show ((22 : Int32) - (0 : Int32)) = (22 : Int32) from by decide]
  refine own_vF m T1 9 #[vR ar, vI (0 : Int32), vI (22 : Int32), vI (22 : Int32), .unset] [] (fun t k => XS.istoreN X1.here hx rfl (hb hby d25_8) rfl (l' := #[vR ar, vI (0 : Int32), vI (22 : Int32), vI (22 : Int32), .unset]) rfl k) ?_
  refine own_vF m T1 10 #[vR ar, vI (0 : Int32), vI (22 : Int32), vI (22 : Int32), .unset] [(.int 22)] (fun t k => XS.iloadN X1.here hx rfl (hb hby d25_9) rfl k) ?_
  obtain ⟨T2, h2, k2, X2, e2, E2, A2, st2⟩ := newP X1 hx hZ (hw _ (own_mt 8 rfl)) e1 (g := (mkF m 10 #[vR ar, vI (0 : Int32), vI (22 : Int32), vI (22 : Int32), .unset] [(.int 22)])) rfl (hb hby d25_10) rfl (by decide) (cap := 22) (by decide) (by decide) (by decide) (by decide)
  obtain ⟨b2, g2⟩ : ∃ z, z = h0.size := ⟨_, rfl⟩
  rw [← g2] at A2 st2
  have gn_b2 : n0 ≤ b2 := Nat.le_trans Z0 (Nat.le_of_eq g2.symm)
  have sz_b2 : h0.size ≤ b2 := Nat.le_trans K0.1 (Nat.le_of_eq g2.symm)
  have f4 := Vb_ar.ext E2
  have V2 : own_By Z h2 b2 (22 : Int32) := own_By.new A2 (by decide)
  have Z5 : n0 ≤ h2.size := Nat.le_trans Z0 E2.1
  have K5 := K0.ext E2
  refine own_vF m T2 12 #[vR ar, vI (0 : Int32), vI (22 : Int32), vI (22 : Int32), .unset] [(.ref b2)] (fun t k => st2 t k) ?_
  refine own_vF m T2 14 #[vR ar, vI (0 : Int32), vI (22 : Int32), vI (22 : Int32), vR b2] [] (fun t k => XS.astore X2.here hx rfl (hb hby d25_12) rfl rfl (l' := #[vR ar, vI (0 : Int32), vI (22 : Int32), vI (22 : Int32), vR b2]) rfl k) ?_
  refine own_vF m T2 15 #[vR ar, vI (0 : Int32), vI (22 : Int32), vI (22 : Int32), vR b2] [(.ref ar)] (fun t k => XS.aloadN X2.here hx rfl (hb hby d25_14) rfl rfl k) ?_
  refine own_vF m T2 16 #[vR ar, vI (0 : Int32), vI (22 : Int32), vI (22 : Int32), vR b2] [(.int 0), (.ref ar)] (fun t k => XS.iloadN X2.here hx rfl (hb hby d25_15) rfl k) ?_
  refine own_vF m T2 18 #[vR ar, vI (0 : Int32), vI (22 : Int32), vI (22 : Int32), vR b2] [(.ref b2), (.int 0), (.ref ar)] (fun t k => XS.aload X2.here hx rfl (hb hby d25_16) rfl rfl k) ?_
  refine own_vF m T2 19 #[vR ar, vI (0 : Int32), vI (22 : Int32), vI (22 : Int32), vR b2] [(.int 0), (.ref b2), (.int 0), (.ref ar)] (fun t k => XS.iconst X2.here hx rfl (hb hby d25_18) k) ?_
  refine own_vF m T2 20 #[vR ar, vI (0 : Int32), vI (22 : Int32), vI (22 : Int32), vR b2] [(.ref ar), (.int 0), (.ref b2), (.int 0), (.ref ar)] (fun t k => XS.aloadN X2.here hx rfl (hb hby d25_19) rfl rfl k) ?_
  obtain ⟨-, -, ⟨c6, Ar6, q6a, q6b, q6c, q6d, q6e⟩, -⟩ := id f4
  refine own_vF m T2 21 #[vR ar, vI (0 : Int32), vI (22 : Int32), vI (22 : Int32), vR b2] [(.int 34), (.int 0), (.ref b2), (.int 0), (.ref ar)] (fun t k => (fun t k => X2.arraylength hx (by rw [e2]; exact Ar6.1) (State.isArrayOf_alike hZ.alike Ar6.2.1) (g := (mkF m 20 #[vR ar, vI (0 : Int32), vI (22 : Int32), vI (22 : Int32), vR b2] [(.ref ar), (.int 0), (.ref b2), (.int 0), (.ref ar)])) rfl rfl (hb hby d25_20) t (by rw [len_of q6b q6c]; exact k)) t k) ?_
  refine own_vF m T2 22 #[vR ar, vI (0 : Int32), vI (22 : Int32), vI (22 : Int32), vR b2] [(.int 0), (.int 34), (.int 0), (.ref b2), (.int 0), (.ref ar)] (fun t k => XS.iloadN X2.here hx rfl (hb hby d25_21) rfl k) ?_
  refine own_vF m T2 23 #[vR ar, vI (0 : Int32), vI (22 : Int32), vI (22 : Int32), vR b2] [(.int ((34 : Int32) - (0 : Int32))), (.int 0), (.ref b2), (.int 0), (.ref ar)] (fun t k => XS.isub X2.here hx rfl (hb hby d25_22) rfl k) ?_
  rw [show ((34 : Int32) - (0 : Int32)) = (34 : Int32) from by decide]
  refine own_vF m T2 24 #[vR ar, vI (0 : Int32), vI (22 : Int32), vI (22 : Int32), vR b2] [(.int 22), (.int 34), (.int 0), (.ref b2), (.int 0), (.ref ar)] (fun t k => XS.iloadN X2.here hx rfl (hb hby d25_23) rfl k) ?_
  obtain ⟨_, T7, L7, X7, hQ7, st7⟩ := own_callS X2 hx hZ (y := (⟨"java/lang/Math", "min", "(II)I"⟩ : MethodName)) (W := 4) hown (hw _ (own_mt 132 rfl)) (hw _ (own_mt 133 rfl)) (hw _ (own_mt 124 rfl)) (hw _ (own_mt 134 rfl)) (by decide) (rm_Qmin l Z a0 hw (34 : Int32) (22 : Int32) h2 n0 Z5) (by decide) (by decide) e2 (g := (mkF m 24 #[vR ar, vI (0 : Int32), vI (22 : Int32), vI (22 : Int32), vR b2] [(.int 22), (.int 34), (.int 0), (.ref b2), (.int 0), (.ref ar)])) rfl (by rw [hml]; rfl) (argsL := [(.int 34), (.int 22)]) (rest := [(.int 0), (.ref b2), (.int 0), (.ref ar)]) rfl (lenOf pd_II__I rfl) rfl own_w0 (hb hby d25_24) (by decide) (by decide)
  obtain ⟨rfl, N7q, e7⟩ := hQ7
  have N7 := Fr.app N1 N7q
  refine own_vF m T7 27 #[vR ar, vI (0 : Int32), vI (22 : Int32), vI (22 : Int32), vR b2] [(.int (if (22 : Int32) < (34 : Int32) then (22 : Int32) else (34 : Int32))), (.int 0), (.ref b2), (.int 0), (.ref ar)] (fun t k => st7 t k) ?_
  rw [show (if (22 : Int32) < (34 : Int32) then (22 : Int32) else (34 : Int32)) = (22 : Int32) from by decide]
  obtain ⟨T8, h8, L8, X8, e8, N8, K8q, V8, st8⟩ := own_cpB X7 hx hZ hown (hw _ (own_mt 135 rfl)) (hw _ (own_mt 138 rfl)) (hw _ (own_mt 136 rfl)) (hw _ (own_mt 137 rfl)) e7 f4 V2 (by decide) (by decide) (by decide) (by decide) (by decide) N7 gn_b2 (g := (mkF m 27 #[vR ar, vI (0 : Int32), vI (22 : Int32), vI (22 : Int32), vR b2] [(.int 22), (.int 0), (.ref b2), (.int 0), (.ref ar)])) rfl (by rw [hml]; rfl) rfl (hb hby d25_27) (by decide) (W := 0) own_w0 (by decide)
  subst e8
  have K10 := K5.trans K8q (allS (Or.inr sz_b2) all0)
  refine own_vF m T8 30 #[vR ar, vI (0 : Int32), vI (22 : Int32), vI (22 : Int32), vR b2] [] (fun t k => st8 t k) ?_
  refine own_vF m T8 32 #[vR ar, vI (0 : Int32), vI (22 : Int32), vI (22 : Int32), vR b2] [(.ref b2)] (fun t k => XS.aload X8.here hx rfl (hb hby d25_30) rfl rfl k) ?_
  exact own_ret X8 (v := some (.ref b2)) (fun h => by rw [hret] at h; cases h) hlk (fun fs hr => retOut X8 hx (t := (.array .byte)) hret rfl (Or.inr (Or.inr (Or.inr (Or.inr ⟨rfl, rfl, rfl⟩)))) (hb hby d25_32) hr) (by exact ⟨b2, rfl, N8, K10, sz_b2, V8⟩) (by decide) (by decide)
def Qcr22 (Z : State) (ar : Addr) (h0 : Heap) (n0 : Nat) (v : Option Value) (h : Heap) (L : List Loc) : Prop := ∃ r, v = some (.ref r) ∧ Fr n0 L ∧ Keep h0 h [] ∧ h0.size ≤ r ∧ own_By Z h r (22 : Int32)
theorem d26_0 : decode jdk_65_method_132_code 0 = .ok (.iload_n 1, 1) := by decide +kernel
theorem d26_1 : decode jdk_65_method_132_code 1 = .ok (.ifCond .ne 9, 3) := by decide +kernel
theorem d26_4 : decode jdk_65_method_132_code 4 = .ok (.iload_n 2, 1) := by decide +kernel
theorem d26_5 : decode jdk_65_method_132_code 5 = .ok (.aload_n 0, 1) := by decide +kernel
theorem d26_6 : decode jdk_65_method_132_code 6 = .ok (.arraylength, 1) := by decide +kernel
theorem d26_7 : decode jdk_65_method_132_code 7 = .ok (.if_icmp .eq 10, 3) := by decide +kernel
theorem d26_10 : decode jdk_65_method_132_code 10 = .ok (.aload_n 0, 1) := by decide +kernel
theorem d26_11 : decode jdk_65_method_132_code 11 = .ok (.iload_n 1, 1) := by decide +kernel
theorem d26_12 : decode jdk_65_method_132_code 12 = .ok (.iload_n 2, 1) := by decide +kernel
theorem pd_ABII__AB : parseMethodDescriptor "([BII)[B" = some ⟨[(.array .byte), .int, .int], some (.array .byte)⟩ := by decide +kernel
theorem d26_13 : decode jdk_65_method_132_code 13 = .ok (.invokestatic 339, 3) := by decide +kernel
theorem d26_16 : decode jdk_65_method_132_code 16 = .ok (.areturn, 1) := by decide +kernel
theorem ef_RII3 (m : MethodId) (x0 : Addr) (x1 : Int32) (x2 : Int32) : entryFrame m #[(.ref x0), (.int x1), (.int x2)] 3 = mkF m 0 #[vR x0, vI x1, vI x2] [] := by first | (simp [entryFrame, mkF, argsToLocals, Value.category]; done) | rfl
set_option maxRecDepth 65536 in
set_option maxHeartbeats 40000000 in
theorem rm_Qcr22 (l : Launch) (Z : State) (a0 : Array Value) (hw : ∀ d ∈ tables_1, d.before a0 Z = true) (ar : Addr) (h0 : Heap) (n0 : Nat) (Z0 : n0 ≤ h0.size) (Vb_ar : own_By Z h0 ar (34 : Int32)) :
    own_MG l Z ((⟨"java/util/Arrays", "copyOfRange", "([BII)[B"⟩ : MethodName)) jdk_65_method_132_code 3 (some (.array .byte)) ({ frames := 2, cells := 1, slots := 22, locals := 76 } : Room) #[(.ref ar), (.int 0), (.int 22)] h0 (Qcr22 Z ar h0 n0) := by
  refine own_mkG (plainFor_of_name pn_java_util_Arrays) ?_
  intro p e s m below meth c s₁ X0 hx hby hml hown hnm hret hlk hZ e0
  have N0 := Fr.nil n0
  have K0 := Keep.refl h0 []
  rw [ef_RII3 m ar (0 : Int32) (22 : Int32)]
  refine own_vF m s₁ 1 #[vR ar, vI (0 : Int32), vI (22 : Int32)] [(.int 0)] (fun t k => XS.iloadN X0.here hx rfl (hb hby d26_0) rfl k) ?_
  refine own_vF m s₁ 4 #[vR ar, vI (0 : Int32), vI (22 : Int32)] [] (fun t k => XS.ifNo X0.here hx rfl (hb hby d26_1) rfl ((if0 _ _).trans (teq (by decide : ((0 : Int32) = (0 : Int32)))).2) k) ?_
  refine own_vF m s₁ 5 #[vR ar, vI (0 : Int32), vI (22 : Int32)] [(.int 22)] (fun t k => XS.iloadN X0.here hx rfl (hb hby d26_4) rfl k) ?_
  refine own_vF m s₁ 6 #[vR ar, vI (0 : Int32), vI (22 : Int32)] [(.ref ar), (.int 22)] (fun t k => XS.aloadN X0.here hx rfl (hb hby d26_5) rfl rfl k) ?_
  obtain ⟨-, -, ⟨c1, Ar1, q1a, q1b, q1c, q1d, q1e⟩, -⟩ := id Vb_ar
  refine own_vF m s₁ 7 #[vR ar, vI (0 : Int32), vI (22 : Int32)] [(.int 34), (.int 22)] (fun t k => (fun t k => X0.arraylength hx (by rw [e0]; exact Ar1.1) (State.isArrayOf_alike hZ.alike Ar1.2.1) (g := (mkF m 6 #[vR ar, vI (0 : Int32), vI (22 : Int32)] [(.ref ar), (.int 22)])) rfl rfl (hb hby d26_6) t (by rw [len_of q1b q1c]; exact k)) t k) ?_
  refine own_vF m s₁ 10 #[vR ar, vI (0 : Int32), vI (22 : Int32)] [] (fun t k => XS.icmpNo X0.here hx rfl (hb hby d26_7) rfl (feq (by decide : ¬ ((22 : Int32) = (34 : Int32)))).1 k) ?_
  refine own_vF m s₁ 11 #[vR ar, vI (0 : Int32), vI (22 : Int32)] [(.ref ar)] (fun t k => XS.aloadN X0.here hx rfl (hb hby d26_10) rfl rfl k) ?_
  refine own_vF m s₁ 12 #[vR ar, vI (0 : Int32), vI (22 : Int32)] [(.int 0), (.ref ar)] (fun t k => XS.iloadN X0.here hx rfl (hb hby d26_11) rfl k) ?_
  refine own_vF m s₁ 13 #[vR ar, vI (0 : Int32), vI (22 : Int32)] [(.int 22), (.int 0), (.ref ar)] (fun t k => XS.iloadN X0.here hx rfl (hb hby d26_12) rfl k) ?_
  obtain ⟨_, T2, L2, X2, hQ2, st2⟩ := own_callS X0 hx hZ (y := (⟨"java/util/Arrays", "copyOfRangeByte", "([BII)[B"⟩ : MethodName)) (W := 0) hown (hw _ (own_mt 190 rfl)) (hw _ (own_mt 191 rfl)) (hw _ (own_mt 130 rfl)) (hw _ (own_mt 192 rfl)) (by decide) (rm_Qcy22 l Z a0 hw ar h0 n0 Z0 Vb_ar) (by decide) (by decide) e0 (g := (mkF m 13 #[vR ar, vI (0 : Int32), vI (22 : Int32)] [(.int 22), (.int 0), (.ref ar)])) rfl (by rw [hml]; rfl) (argsL := [(.ref ar), (.int 0), (.int 22)]) (rest := []) rfl (lenOf pd_ABII__AB rfl) rfl own_w0 (hb hby d26_13) (by decide) (by decide)
  obtain ⟨r2, rfl, N2q, K2q, sq_r2, V2q⟩ := hQ2
  have N2 := Fr.app N0 N2q
  have sz_r2 : h0.size ≤ r2 := Nat.le_trans K0.1 sq_r2
  have K5 := K0.trans K2q all0
  refine own_vF m T2 16 #[vR ar, vI (0 : Int32), vI (22 : Int32)] [(.ref r2)] (fun t k => st2 t k) ?_
  exact own_ret X2 (v := some (.ref r2)) (fun h => by rw [hret] at h; cases h) hlk (fun fs hr => retOut X2 hx (t := (.array .byte)) hret rfl (Or.inr (Or.inr (Or.inr (Or.inr ⟨rfl, rfl, rfl⟩)))) (hb hby d26_16) hr) (by exact ⟨r2, rfl, N2, K5, sz_r2, V2q⟩) (by decide) (by decide)
def Qgv22 (Z : State) (sb ar : Addr) (cs : Int32) (ci ca : Addr) (h0 : Heap) (n0 : Nat) (v : Option Value) (h : Heap) (L : List Loc) : Prop := v = some (.ref ar) ∧ Fr n0 L ∧ h = h0
theorem d27_0 : decode jdk_68_method_64_code 0 = .ok (.aload_n 0, 1) := by decide +kernel
theorem d27_1 : decode jdk_68_method_64_code 1 = .ok (.getfield 15, 3) := by decide +kernel
theorem d27_4 : decode jdk_68_method_64_code 4 = .ok (.areturn, 1) := by decide +kernel
set_option maxRecDepth 65536 in
set_option maxHeartbeats 40000000 in
theorem rm_Qgv22 (l : Launch) (Z : State) (a0 : Array Value) (hw : ∀ d ∈ tables_1, d.before a0 Z = true) (sb ar : Addr) (cs : Int32) (ci ca : Addr) (h0 : Heap) (n0 : Nat) (Z0 : n0 ≤ h0.size) (Od : Old Z n0 h0) (SS : own_SS Z cs ci ca) (Eo_sb : Exa Z h0 sb "java/lang/StringBuilder") (Fv_sb : Fld Z h0 sb "java/lang/AbstractStringBuilder" "value" "[B" (.ref ar)) (Fc_sb : Fld Z h0 sb "java/lang/AbstractStringBuilder" "coder" "B" (.int 0)) (Fn_sb : Fld Z h0 sb "java/lang/AbstractStringBuilder" "count" "I" (.int 22)) (Vb_ar : own_By Z h0 ar (34 : Int32)) :
    own_MG l Z ((⟨"java/lang/AbstractStringBuilder", "getValue", "()[B"⟩ : MethodName)) jdk_68_method_64_code 1 (some (.array .byte)) ({ frames := 0, cells := 0, slots := 0, locals := 0 } : Room) #[(.ref sb)] h0 (Qgv22 Z sb ar cs ci ca h0 n0) := by
  refine own_mkG (plainFor_of_name pn_java_lang_AbstractStringBuilder) ?_
  intro p e s m below meth c s₁ X0 hx hby hml hown hnm hret hlk hZ e0
  have N0 := Fr.nil n0
  rw [ef_R1 m sb]
  refine own_vF m s₁ 1 #[vR sb] [(.ref sb)] (fun t k => XS.aloadN X0.here hx rfl (hb hby d27_0) rfl rfl k) ?_
  obtain ⟨T1, X1, e1, st1⟩ := getF (host := "") X0 hx hZ hown (Or.inl (hw _ (own_mt 90 rfl))) Via.refl e0 Fv_sb (g := (mkF m 1 #[vR sb] [(.ref sb)])) rfl rfl (hb hby d27_1)
  refine own_vF m T1 4 #[vR sb] [(.ref ar)] (fun t k => st1 t k) ?_
  exact own_ret X1 (v := some (.ref ar)) (fun h => by rw [hret] at h; cases h) hlk (fun fs hr => retOut X1 hx (t := (.array .byte)) hret rfl (Or.inr (Or.inr (Or.inr (Or.inr ⟨rfl, rfl, rfl⟩)))) (hb hby d27_4) hr) (by rw [e1]; exact ⟨rfl, N0, rfl⟩) (by decide) (by decide)
def Qil22 (Z : State) (sb ar : Addr) (cs : Int32) (ci ca : Addr) (h0 : Heap) (n0 : Nat) (v : Option Value) (h : Heap) (L : List Loc) : Prop := v = some (.int 1) ∧ Fr n0 L ∧ h = h0
theorem d28_0 : decode jdk_68_method_68_code 0 = .ok (.getstatic 18, 3) := by decide +kernel
theorem d28_3 : decode jdk_68_method_68_code 3 = .ok (.ifCond .eq 14, 3) := by decide +kernel
theorem d28_6 : decode jdk_68_method_68_code 6 = .ok (.aload_n 0, 1) := by decide +kernel
theorem d28_7 : decode jdk_68_method_68_code 7 = .ok (.getfield 22, 3) := by decide +kernel
theorem d28_10 : decode jdk_68_method_68_code 10 = .ok (.ifCond .ne 7, 3) := by decide +kernel
theorem d28_13 : decode jdk_68_method_68_code 13 = .ok (.iconst 1, 1) := by decide +kernel
theorem d28_14 : decode jdk_68_method_68_code 14 = .ok (.goto 4, 3) := by decide +kernel
theorem d28_18 : decode jdk_68_method_68_code 18 = .ok (.ireturn, 1) := by decide +kernel
set_option maxRecDepth 65536 in
set_option maxHeartbeats 40000000 in
theorem rm_Qil22 (l : Launch) (Z : State) (a0 : Array Value) (hw : ∀ d ∈ tables_1, d.before a0 Z = true) (sb ar : Addr) (cs : Int32) (ci ca : Addr) (h0 : Heap) (n0 : Nat) (Z0 : n0 ≤ h0.size) (Od : Old Z n0 h0) (SS : own_SS Z cs ci ca) (Eo_sb : Exa Z h0 sb "java/lang/StringBuilder") (Fv_sb : Fld Z h0 sb "java/lang/AbstractStringBuilder" "value" "[B" (.ref ar)) (Fc_sb : Fld Z h0 sb "java/lang/AbstractStringBuilder" "coder" "B" (.int 0)) (Fn_sb : Fld Z h0 sb "java/lang/AbstractStringBuilder" "count" "I" (.int 22)) (Vb_ar : own_By Z h0 ar (34 : Int32)) :
    own_MG l Z ((⟨"java/lang/AbstractStringBuilder", "isLatin1", "()Z"⟩ : MethodName)) jdk_68_method_68_code 1 (some .boolean) ({ frames := 0, cells := 0, slots := 0, locals := 0 } : Room) #[(.ref sb)] h0 (Qil22 Z sb ar cs ci ca h0 n0) := by
  refine own_mkG (plainFor_of_name pn_java_lang_AbstractStringBuilder) ?_
  intro p e s m below meth c s₁ X0 hx hby hml hown hnm hret hlk hZ e0
  have N0 := Fr.nil n0
  rw [ef_R1 m sb]
  obtain ⟨T1, X1, e1, st1⟩ := getS2 (host := "") X0 hx hZ hown (Or.inl (hw _ (own_mt 89 rfl))) Via.refl e0 (SS.1.ext Od.2) (g := (mkF m 0 #[vR sb] [])) rfl (hb hby d28_0)
  refine own_vF m T1 3 #[vR sb] [(.int cs)] (fun t k => st1 t k) ?_
  refine own_vF m T1 6 #[vR sb] [] (fun t k => XS.ifNo X1.here hx rfl (hb hby d28_3) rfl ((if0 _ _).trans (feq SS.2.1).1) k) ?_
  refine own_vF m T1 7 #[vR sb] [(.ref sb)] (fun t k => XS.aloadN X1.here hx rfl (hb hby d28_6) rfl rfl k) ?_
  obtain ⟨T2, X2, e2, st2⟩ := getF (host := "") X1 hx hZ hown (Or.inl (hw _ (own_mt 92 rfl))) Via.refl e1 Fc_sb (g := (mkF m 7 #[vR sb] [(.ref sb)])) rfl rfl (hb hby d28_7)
  refine own_vF m T2 10 #[vR sb] [(.int 0)] (fun t k => st2 t k) ?_
  refine own_vF m T2 13 #[vR sb] [] (fun t k => XS.ifNo X2.here hx rfl (hb hby d28_10) rfl ((if0 _ _).trans (teq (by decide : ((0 : Int32) = (0 : Int32)))).2) k) ?_
  refine own_vF m T2 14 #[vR sb] [(.int 1)] (fun t k => XS.iconst X2.here hx rfl (hb hby d28_13) k) ?_
  refine own_vF m T2 18 #[vR sb] [(.int 1)] (fun t k => XS.goto X2.here hx rfl (pc0 := 14) (pc' := 18) rfl (hb hby d28_14) (by decide) (by decide) k) ?_
  exact own_ret X2 (v := some (.int 1)) (fun h => by rw [hret] at h; cases h) hlk (fun fs hr => retN X2 hx (t := .boolean) hret (by simp) (hb hby d28_18) hr) (by rw [e2]; exact ⟨rfl, N0, rfl⟩) (by decide) (by decide)
def Qal22 (Z : State) (sb ar : Addr) (cs : Int32) (ci ca : Addr) (h0 : Heap) (n0 : Nat) (v : Option Value) (h : Heap) (L : List Loc) : Prop := v = some (.int 22) ∧ Fr n0 L ∧ h = h0
theorem d29_0 : decode jdk_68_method_6_code 0 = .ok (.aload_n 0, 1) := by decide +kernel
theorem d29_1 : decode jdk_68_method_6_code 1 = .ok (.getfield 79, 3) := by decide +kernel
theorem d29_4 : decode jdk_68_method_6_code 4 = .ok (.ireturn, 1) := by decide +kernel
set_option maxRecDepth 65536 in
set_option maxHeartbeats 40000000 in
theorem rm_Qal22 (l : Launch) (Z : State) (a0 : Array Value) (hw : ∀ d ∈ tables_1, d.before a0 Z = true) (sb ar : Addr) (cs : Int32) (ci ca : Addr) (h0 : Heap) (n0 : Nat) (Z0 : n0 ≤ h0.size) (Od : Old Z n0 h0) (SS : own_SS Z cs ci ca) (Eo_sb : Exa Z h0 sb "java/lang/StringBuilder") (Fv_sb : Fld Z h0 sb "java/lang/AbstractStringBuilder" "value" "[B" (.ref ar)) (Fc_sb : Fld Z h0 sb "java/lang/AbstractStringBuilder" "coder" "B" (.int 0)) (Fn_sb : Fld Z h0 sb "java/lang/AbstractStringBuilder" "count" "I" (.int 22)) (Vb_ar : own_By Z h0 ar (34 : Int32)) :
    own_MG l Z ((⟨"java/lang/AbstractStringBuilder", "length", "()I"⟩ : MethodName)) jdk_68_method_6_code 1 (some .int) ({ frames := 0, cells := 0, slots := 0, locals := 0 } : Room) #[(.ref sb)] h0 (Qal22 Z sb ar cs ci ca h0 n0) := by
  refine own_mkG (plainFor_of_name pn_java_lang_AbstractStringBuilder) ?_
  intro p e s m below meth c s₁ X0 hx hby hml hown hnm hret hlk hZ e0
  have N0 := Fr.nil n0
  rw [ef_R1 m sb]
  refine own_vF m s₁ 1 #[vR sb] [(.ref sb)] (fun t k => XS.aloadN X0.here hx rfl (hb hby d29_0) rfl rfl k) ?_
  obtain ⟨T1, X1, e1, st1⟩ := getF (host := "") X0 hx hZ hown (Or.inl (hw _ (own_mt 106 rfl))) Via.refl e0 Fn_sb (g := (mkF m 1 #[vR sb] [(.ref sb)])) rfl rfl (hb hby d29_1)
  refine own_vF m T1 4 #[vR sb] [(.int 22)] (fun t k => st1 t k) ?_
  exact own_ret X1 (v := some (.int 22)) (fun h => by rw [hret] at h; cases h) hlk (fun fs hr => retOut X1 hx (t := .int) hret rfl (Or.inl ⟨rfl, Or.inl rfl, _, rfl⟩) (hb hby d29_4) hr) (by rw [e1]; exact ⟨rfl, N0, rfl⟩) (by decide) (by decide)
def Qbl22 (Z : State) (sb ar : Addr) (cs : Int32) (ci ca : Addr) (h0 : Heap) (n0 : Nat) (v : Option Value) (h : Heap) (L : List Loc) : Prop := v = some (.int 22) ∧ Fr n0 L ∧ h = h0
theorem d30_0 : decode jdk_67_method_93_code 0 = .ok (.aload_n 0, 1) := by decide +kernel
theorem d30_1 : decode jdk_67_method_93_code 1 = .ok (.invokespecial 343, 3) := by decide +kernel
theorem d30_4 : decode jdk_67_method_93_code 4 = .ok (.ireturn, 1) := by decide +kernel
set_option maxRecDepth 65536 in
set_option maxHeartbeats 40000000 in
theorem rm_Qbl22 (l : Launch) (Z : State) (a0 : Array Value) (hw : ∀ d ∈ tables_1, d.before a0 Z = true) (sb ar : Addr) (cs : Int32) (ci ca : Addr) (h0 : Heap) (n0 : Nat) (Z0 : n0 ≤ h0.size) (Od : Old Z n0 h0) (SS : own_SS Z cs ci ca) (Eo_sb : Exa Z h0 sb "java/lang/StringBuilder") (Fv_sb : Fld Z h0 sb "java/lang/AbstractStringBuilder" "value" "[B" (.ref ar)) (Fc_sb : Fld Z h0 sb "java/lang/AbstractStringBuilder" "coder" "B" (.int 0)) (Fn_sb : Fld Z h0 sb "java/lang/AbstractStringBuilder" "count" "I" (.int 22)) (Vb_ar : own_By Z h0 ar (34 : Int32)) :
    own_MG l Z ((⟨"java/lang/StringBuilder", "length", "()I"⟩ : MethodName)) jdk_67_method_93_code 1 (some .int) ({ frames := 1, cells := 0, slots := 0, locals := 12 } : Room) #[(.ref sb)] h0 (Qbl22 Z sb ar cs ci ca h0 n0) := by
  refine own_mkG (plainFor_of_name pn_java_lang_StringBuilder) ?_
  intro p e s m below meth c s₁ X0 hx hby hml hown hnm hret hlk hZ e0
  have N0 := Fr.nil n0
  rw [ef_R1 m sb]
  refine own_vF m s₁ 1 #[vR sb] [(.ref sb)] (fun t k => XS.aloadN X0.here hx rfl (hb hby d30_0) rfl rfl k) ?_
  obtain ⟨_, T1, L1, X1, hQ1, st1⟩ := own_callU X0 hx hZ (x := (⟨"java/lang/AbstractStringBuilder", "ensureCapacityInternal", "(I)V"⟩ : MethodName)) (y := (⟨"java/lang/AbstractStringBuilder", "length", "()I"⟩ : MethodName)) (by decide) (W := 0) (C := "java/lang/StringBuilder") hown (hw _ (own_mt 180 rfl)) (hw _ (own_mt 175 rfl)) rfl (hw _ (own_mt 111 rfl)) (hw _ (own_mt 102 rfl)) (hw _ (own_mt 176 rfl)) (hw _ (own_mt 86 rfl)) (hw _ (own_mt 181 rfl)) (by decide) (rm_Qal22 l Z a0 hw sb ar cs ci ca h0 n0 Z0 Od SS Eo_sb Fv_sb Fc_sb Fn_sb Vb_ar) (by decide) (by decide) e0 Eo_sb (g := (mkF m 1 #[vR sb] [(.ref sb)])) rfl (by rw [hml]; rfl) (argsL := []) (rest := []) rfl (lenOf pd___I rfl) rfl own_w0 (hb hby d30_1) (by decide) (by decide)
  obtain ⟨rfl, N1q, e1⟩ := hQ1
  have N1 := Fr.app N0 N1q
  refine own_vF m T1 4 #[vR sb] [(.int 22)] (fun t k => st1 t k) ?_
  exact own_ret X1 (v := some (.int 22)) (fun h => by rw [hret] at h; cases h) hlk (fun fs hr => retOut X1 hx (t := .int) hret rfl (Or.inl ⟨rfl, Or.inl rfl, _, rfl⟩) (hb hby d30_4) hr) (by rw [e1]; exact ⟨rfl, N1, rfl⟩) (by decide) (by decide)
def Qv222 (Z : State) (o sb ar : Addr) (cs : Int32) (ci ca : Addr) (h0 : Heap) (n0 : Nat) (v : Option Value) (h : Heap) (L : List Loc) : Prop := v = none ∧ Fr n0 L ∧ Keep h0 h [o]
theorem d31_0 : decode jdk_42_method_150_code 0 = .ok (.aload_n 0, 1) := by decide +kernel
theorem d31_1 : decode jdk_42_method_150_code 1 = .ok (.invokespecial 1, 3) := by decide +kernel
theorem d31_4 : decode jdk_42_method_150_code 4 = .ok (.aload_n 1, 1) := by decide +kernel
theorem pd___AB : parseMethodDescriptor "()[B" = some ⟨[], some (.array .byte)⟩ := by decide +kernel
theorem d31_5 : decode jdk_42_method_150_code 5 = .ok (.invokevirtual 552, 3) := by decide +kernel
theorem d31_8 : decode jdk_42_method_150_code 8 = .ok (.astore_n 3, 1) := by decide +kernel
theorem d31_9 : decode jdk_42_method_150_code 9 = .ok (.aload_n 1, 1) := by decide +kernel
theorem d31_10 : decode jdk_42_method_150_code 10 = .ok (.invokevirtual 549, 3) := by decide +kernel
theorem d31_13 : decode jdk_42_method_150_code 13 = .ok (.istore 4, 2) := by decide +kernel
theorem d31_15 : decode jdk_42_method_150_code 15 = .ok (.aload_n 1, 1) := by decide +kernel
theorem d31_16 : decode jdk_42_method_150_code 16 = .ok (.invokevirtual 1047, 3) := by decide +kernel
theorem d31_19 : decode jdk_42_method_150_code 19 = .ok (.ifCond .eq 22, 3) := by decide +kernel
theorem d31_22 : decode jdk_42_method_150_code 22 = .ok (.aload_n 0, 1) := by decide +kernel
theorem d31_23 : decode jdk_42_method_150_code 23 = .ok (.iconst 0, 1) := by decide +kernel
theorem d31_24 : decode jdk_42_method_150_code 24 = .ok (.putfield 15, 3) := by decide +kernel
theorem d31_27 : decode jdk_42_method_150_code 27 = .ok (.aload_n 0, 1) := by decide +kernel
theorem d31_28 : decode jdk_42_method_150_code 28 = .ok (.aload_n 3, 1) := by decide +kernel
theorem d31_29 : decode jdk_42_method_150_code 29 = .ok (.iconst 0, 1) := by decide +kernel
theorem d31_30 : decode jdk_42_method_150_code 30 = .ok (.iload 4, 2) := by decide +kernel
theorem d31_32 : decode jdk_42_method_150_code 32 = .ok (.invokestatic 54, 3) := by decide +kernel
theorem d31_35 : decode jdk_42_method_150_code 35 = .ok (.putfield 9, 3) := by decide +kernel
theorem d31_38 : decode jdk_42_method_150_code 38 = .ok (.goto 59, 3) := by decide +kernel
theorem d31_97 : decode jdk_42_method_150_code 97 = .ok (.return_, 1) := by decide +kernel
theorem ef_RRN5 (m : MethodId) (x0 : Addr) (x1 : Addr) : entryFrame m #[(.ref x0), (.ref x1), .null] 5 = mkF m 0 #[vR x0, vR x1, .val .null, .unset, .unset] [] := by first | (simp [entryFrame, mkF, argsToLocals, Value.category]; done) | rfl
set_option maxRecDepth 65536 in
set_option maxHeartbeats 40000000 in
theorem rm_Qv222 (l : Launch) (Z : State) (a0 : Array Value) (hw : ∀ d ∈ tables_1, d.before a0 Z = true) (o sb ar : Addr) (cs : Int32) (ci ca : Addr) (h0 : Heap) (n0 : Nat) (Z0 : n0 ≤ h0.size) (Od : Old Z n0 h0) (SS : own_SS Z cs ci ca) (Es_o : Exa Z h0 o "java/lang/String") (Fv_o : Fld Z h0 o "java/lang/String" "value" "[B" .null) (Fc_o : Fld Z h0 o "java/lang/String" "coder" "B" (.int 0)) (gn_o : n0 ≤ o) (Eo_sb : Exa Z h0 sb "java/lang/StringBuilder") (Fv_sb : Fld Z h0 sb "java/lang/AbstractStringBuilder" "value" "[B" (.ref ar)) (Fc_sb : Fld Z h0 sb "java/lang/AbstractStringBuilder" "coder" "B" (.int 0)) (Fn_sb : Fld Z h0 sb "java/lang/AbstractStringBuilder" "count" "I" (.int 22)) (Vb_ar : own_By Z h0 ar (34 : Int32)) :
    own_MG l Z ((⟨"java/lang/String", "<init>", "(Ljava/lang/AbstractStringBuilder;Ljava/lang/Void;)V"⟩ : MethodName)) jdk_42_method_150_code 5 none ({ frames := 3, cells := 1, slots := 22, locals := 91 } : Room) #[(.ref o), (.ref sb), .null] h0 (Qv222 Z o sb ar cs ci ca h0 n0) := by
  refine own_mkG (plainFor_of_name pn_java_lang_String) ?_
  intro p e s m below meth c s₁ X0 hx hby hml hown hnm hret hlk hZ e0
  have N0 := Fr.nil n0
  have K0 := Keep.refl h0 [o]
  rw [ef_RRN5 m o sb]
  refine own_vF m s₁ 1 #[vR o, vR sb, .val .null, .unset, .unset] [(.ref o)] (fun t k => XS.aloadN X0.here hx rfl (hb hby d31_0) rfl rfl k) ?_
  obtain ⟨T1, X1, e1, st1⟩ := initO X0 hx hZ hown (hw _ (own_mt 168 rfl)) (hw _ (own_mt 17 rfl)) (hw _ (own_mt 18 rfl)) e0 (g := (mkF m 1 #[vR o, vR sb, .val .null, .unset, .unset] [(.ref o)])) rfl (by rw [hml]; rfl) rfl (hb hby d31_1) (by decide) (W := 0) own_w0 (by decide)
  refine own_vF m T1 4 #[vR o, vR sb, .val .null, .unset, .unset] [] (fun t k => st1 t k) ?_
  refine own_vF m T1 5 #[vR o, vR sb, .val .null, .unset, .unset] [(.ref sb)] (fun t k => XS.aloadN X1.here hx rfl (hb hby d31_4) rfl rfl k) ?_
  obtain ⟨_, T2, L2, X2, hQ2, st2⟩ := own_callV X1 hx hZ (y := (⟨"java/lang/AbstractStringBuilder", "getValue", "()[B"⟩ : MethodName)) (W := 0) (C := "java/lang/StringBuilder") hown (hw _ (own_mt 169 rfl)) (hw _ (own_mt 170 rfl)) (hw _ (own_mt 172 rfl)) (hw _ (own_mt 171 rfl)) (hw _ (own_mt 86 rfl)) (hw _ (own_mt 173 rfl)) (by decide) (rm_Qgv22 l Z a0 hw sb ar cs ci ca h0 n0 Z0 Od SS Eo_sb Fv_sb Fc_sb Fn_sb Vb_ar) (by decide) (by decide) e1 Eo_sb (g := (mkF m 5 #[vR o, vR sb, .val .null, .unset, .unset] [(.ref sb)])) rfl (by rw [hml]; rfl) (argsL := []) (rest := []) rfl (lenOf pd___AB rfl) rfl own_w0 (hb hby d31_5) (by decide) (by decide)
  obtain ⟨rfl, N2q, e2⟩ := hQ2
  have N2 := Fr.app N0 N2q
  refine own_vF m T2 8 #[vR o, vR sb, .val .null, .unset, .unset] [(.ref ar)] (fun t k => st2 t k) ?_
  refine own_vF m T2 9 #[vR o, vR sb, .val .null, vR ar, .unset] [] (fun t k => XS.astoreN X2.here hx rfl (hb hby d31_8) rfl rfl (l' := #[vR o, vR sb, .val .null, vR ar, .unset]) rfl k) ?_
  refine own_vF m T2 10 #[vR o, vR sb, .val .null, vR ar, .unset] [(.ref sb)] (fun t k => XS.aloadN X2.here hx rfl (hb hby d31_9) rfl rfl k) ?_
  obtain ⟨_, T3, L3, X3, hQ3, st3⟩ := own_callVZ X2 hx hZ (x := (⟨"java/lang/AbstractStringBuilder", "ensureCapacityInternal", "(I)V"⟩ : MethodName)) (y := (⟨"java/lang/AbstractStringBuilder", "length", "()I"⟩ : MethodName)) (z := (⟨"java/lang/StringBuilder", "length", "()I"⟩ : MethodName)) (W := 0) (C := "java/lang/StringBuilder") hown (hw _ (own_mt 174 rfl)) (hw _ (own_mt 175 rfl)) rfl (hw _ (own_mt 111 rfl)) (hw _ (own_mt 177 rfl)) (hw _ (own_mt 178 rfl)) (hw _ (own_mt 78 rfl)) (hw _ (own_mt 179 rfl)) (by decide) (rm_Qbl22 l Z a0 hw sb ar cs ci ca h0 n0 Z0 Od SS Eo_sb Fv_sb Fc_sb Fn_sb Vb_ar) (by decide) (by decide) e2 Eo_sb (g := (mkF m 10 #[vR o, vR sb, .val .null, vR ar, .unset] [(.ref sb)])) rfl (by rw [hml]; rfl) (argsL := []) (rest := []) rfl (lenOf pd___I rfl) rfl own_w0 (hb hby d31_10) (by decide) (by decide)
  obtain ⟨rfl, N3q, e3⟩ := hQ3
  have N3 := Fr.app N2 N3q
  refine own_vF m T3 13 #[vR o, vR sb, .val .null, vR ar, .unset] [(.int 22)] (fun t k => st3 t k) ?_
  refine own_vF m T3 15 #[vR o, vR sb, .val .null, vR ar, vI (22 : Int32)] [] (fun t k => XS.istore X3.here hx rfl (hb hby d31_13) rfl (l' := #[vR o, vR sb, .val .null, vR ar, vI (22 : Int32)]) rfl k) ?_
  refine own_vF m T3 16 #[vR o, vR sb, .val .null, vR ar, vI (22 : Int32)] [(.ref sb)] (fun t k => XS.aloadN X3.here hx rfl (hb hby d31_15) rfl rfl k) ?_
  obtain ⟨_, T4, L4, X4, hQ4, st4⟩ := own_callV X3 hx hZ (y := (⟨"java/lang/AbstractStringBuilder", "isLatin1", "()Z"⟩ : MethodName)) (W := 0) (C := "java/lang/StringBuilder") hown (hw _ (own_mt 182 rfl)) (hw _ (own_mt 183 rfl)) (hw _ (own_mt 185 rfl)) (hw _ (own_mt 184 rfl)) (hw _ (own_mt 86 rfl)) (hw _ (own_mt 186 rfl)) (by decide) (rm_Qil22 l Z a0 hw sb ar cs ci ca h0 n0 Z0 Od SS Eo_sb Fv_sb Fc_sb Fn_sb Vb_ar) (by decide) (by decide) e3 Eo_sb (g := (mkF m 16 #[vR o, vR sb, .val .null, vR ar, vI (22 : Int32)] [(.ref sb)])) rfl (by rw [hml]; rfl) (argsL := []) (rest := []) rfl (lenOf pd___Z rfl) rfl own_w0 (hb hby d31_16) (by decide) (by decide)
  obtain ⟨rfl, N4q, e4⟩ := hQ4
  have N4 := Fr.app N3 N4q
  refine own_vF m T4 19 #[vR o, vR sb, .val .null, vR ar, vI (22 : Int32)] [(.int 1)] (fun t k => st4 t k) ?_
  refine own_vF m T4 22 #[vR o, vR sb, .val .null, vR ar, vI (22 : Int32)] [] (fun t k => XS.ifNo X4.here hx rfl (hb hby d31_19) rfl ((if0 _ _).trans (feq (by decide : ¬ ((1 : Int32) = (0 : Int32)))).1) k) ?_
  refine own_vF m T4 23 #[vR o, vR sb, .val .null, vR ar, vI (22 : Int32)] [(.ref o)] (fun t k => XS.aloadN X4.here hx rfl (hb hby d31_22) rfl rfl k) ?_
  refine own_vF m T4 24 #[vR o, vR sb, .val .null, vR ar, vI (22 : Int32)] [(.int 0), (.ref o)] (fun t k => XS.iconst X4.here hx rfl (hb hby d31_23) k) ?_
  obtain ⟨T5, h5, X5, e5, W5, st5⟩ := putF (host := "") X4 hx hZ hown (Or.inl (hw _ (own_mt 42 rfl))) Via.refl e4 Fc_o Es_o (Or.inr ⟨(hw _ (own_mt 10 rfl)), rfl, hnm⟩) (hw _ (own_mt 7 rfl)) (ty := .byte) (by decide) rfl rfl (g := (mkF m 24 #[vR o, vR sb, .val .null, vR ar, vI (22 : Int32)] [(.int 0), (.ref o)])) rfl rfl (hb hby d31_24)
  have f7 := Es_o.wr W5
  have f8 := Fv_o.other W5 (Or.inr (slot_ne (Or.inr (hw _ (own_mt 9 rfl))) (Or.inr (hw _ (own_mt 10 rfl))) (by decide) (t := (.array .byte)) (t' := .byte) (by decide) (by decide)))
  have f13 := Vb_ar.other W5 (Ne.symm (own_By.ne Vb_ar Es_o (hw _ (own_mt 7 rfl))))
  have Z14 : n0 ≤ h5.size := Nat.le_trans Z0 (Keep.of_wr W5).1
  have K14 := K0.wr W5 (Or.inl (own_mt 0 rfl))
  have N5 := Fr.snoc X5 N4 gn_o
  refine own_vF m T5 27 #[vR o, vR sb, .val .null, vR ar, vI (22 : Int32)] [] (fun t k => st5 t k) ?_
  refine own_vF m T5 28 #[vR o, vR sb, .val .null, vR ar, vI (22 : Int32)] [(.ref o)] (fun t k => XS.aloadN X5.here hx rfl (hb hby d31_27) rfl rfl k) ?_
  refine own_vF m T5 29 #[vR o, vR sb, .val .null, vR ar, vI (22 : Int32)] [(.ref ar), (.ref o)] (fun t k => XS.aloadN X5.here hx rfl (hb hby d31_28) rfl rfl k) ?_
  refine own_vF m T5 30 #[vR o, vR sb, .val .null, vR ar, vI (22 : Int32)] [(.int 0), (.ref ar), (.ref o)] (fun t k => XS.iconst X5.here hx rfl (hb hby d31_29) k) ?_
  refine own_vF m T5 32 #[vR o, vR sb, .val .null, vR ar, vI (22 : Int32)] [(.int 22), (.int 0), (.ref ar), (.ref o)] (fun t k => XS.iload X5.here hx rfl (hb hby d31_30) rfl k) ?_
  obtain ⟨_, T15, L15, X15, hQ15, st15⟩ := own_callS X5 hx hZ (y := (⟨"java/util/Arrays", "copyOfRange", "([BII)[B"⟩ : MethodName)) (W := 1) hown (hw _ (own_mt 187 rfl)) (hw _ (own_mt 188 rfl)) (hw _ (own_mt 130 rfl)) (hw _ (own_mt 189 rfl)) (by decide) (rm_Qcr22 l Z a0 hw ar h5 n0 Z14 f13) (by decide) (by decide) e5 (g := (mkF m 32 #[vR o, vR sb, .val .null, vR ar, vI (22 : Int32)] [(.int 22), (.int 0), (.ref ar), (.ref o)])) rfl (by rw [hml]; rfl) (argsL := [(.ref ar), (.int 0), (.int 22)]) (rest := [(.ref o)]) rfl (lenOf pd_ABII__AB rfl) rfl own_w0 (hb hby d31_32) (by decide) (by decide)
  obtain ⟨r15, rfl, N15q, K15q, sq_r15, V15q⟩ := hQ15
  have N15 := Fr.app N5 N15q
  have f20 := f7.keep K15q
  have f21 := f8.keep K15q nin0
  have K28 := K14.trans K15q all0
  refine own_vF m T15 35 #[vR o, vR sb, .val .null, vR ar, vI (22 : Int32)] [(.ref r15), (.ref o)] (fun t k => st15 t k) ?_
  obtain ⟨T29, h29, X29, e29, W29, st29⟩ := putF (host := "") X15 hx hZ hown (Or.inl (hw _ (own_mt 43 rfl))) Via.refl rfl f21 f20 (Or.inr ⟨(hw _ (own_mt 9 rfl)), rfl, hnm⟩) (hw _ (own_mt 7 rfl)) (ty := (.array .byte)) (by decide) rfl rfl (g := (mkF m 35 #[vR o, vR sb, .val .null, vR ar, vI (22 : Int32)] [(.ref r15), (.ref o)])) rfl rfl (hb hby d31_35)
  have K39 := K28.wr W29 (Or.inl (own_mt 0 rfl))
  have N29 := Fr.snoc X29 N15 gn_o
  refine own_vF m T29 38 #[vR o, vR sb, .val .null, vR ar, vI (22 : Int32)] [] (fun t k => st29 t k) ?_
  refine own_vF m T29 97 #[vR o, vR sb, .val .null, vR ar, vI (22 : Int32)] [] (fun t k => XS.goto X29.here hx rfl (pc0 := 38) (pc' := 97) rfl (hb hby d31_38) (by decide) (by decide) k) ?_
  exact own_ret X29 (v := none) (fun _ => rfl) hlk (fun fs hr => X29.returnOut hx hret (hb hby d31_97) hr) (by rw [e29]; exact ⟨rfl, N29, K39⟩) (by decide) (by decide)
def Qv122 (Z : State) (o sb ar : Addr) (cs : Int32) (ci ca : Addr) (h0 : Heap) (n0 : Nat) (v : Option Value) (h : Heap) (L : List Loc) : Prop := v = none ∧ Fr n0 L ∧ Keep h0 h [o]
theorem d32_0 : decode jdk_42_method_53_code 0 = .ok (.aload_n 0, 1) := by decide +kernel
theorem d32_1 : decode jdk_42_method_53_code 1 = .ok (.aload_n 1, 1) := by decide +kernel
theorem d32_2 : decode jdk_42_method_53_code 2 = .ok (.aconst_null, 1) := by decide +kernel
theorem pd_Ljava_lang_AbstractStringBuilder_Ljava_lang_Void___V : parseMethodDescriptor "(Ljava/lang/AbstractStringBuilder;Ljava/lang/Void;)V" = some ⟨[(.object "java/lang/AbstractStringBuilder"), (.object "java/lang/Void")], none⟩ := by decide +kernel
theorem d32_3 : decode jdk_42_method_53_code 3 = .ok (.invokespecial 489, 3) := by decide +kernel
theorem d32_6 : decode jdk_42_method_53_code 6 = .ok (.return_, 1) := by decide +kernel
set_option maxRecDepth 65536 in
set_option maxHeartbeats 40000000 in
theorem rm_Qv122 (l : Launch) (Z : State) (a0 : Array Value) (hw : ∀ d ∈ tables_1, d.before a0 Z = true) (o sb ar : Addr) (cs : Int32) (ci ca : Addr) (h0 : Heap) (n0 : Nat) (Z0 : n0 ≤ h0.size) (Od : Old Z n0 h0) (SS : own_SS Z cs ci ca) (Es_o : Exa Z h0 o "java/lang/String") (Fv_o : Fld Z h0 o "java/lang/String" "value" "[B" .null) (Fc_o : Fld Z h0 o "java/lang/String" "coder" "B" (.int 0)) (gn_o : n0 ≤ o) (Eo_sb : Exa Z h0 sb "java/lang/StringBuilder") (Fv_sb : Fld Z h0 sb "java/lang/AbstractStringBuilder" "value" "[B" (.ref ar)) (Fc_sb : Fld Z h0 sb "java/lang/AbstractStringBuilder" "coder" "B" (.int 0)) (Fn_sb : Fld Z h0 sb "java/lang/AbstractStringBuilder" "count" "I" (.int 22)) (Vb_ar : own_By Z h0 ar (34 : Int32)) :
    own_MG l Z ((⟨"java/lang/String", "<init>", "(Ljava/lang/StringBuilder;)V"⟩ : MethodName)) jdk_42_method_53_code 2 none ({ frames := 4, cells := 1, slots := 22, locals := 107 } : Room) #[(.ref o), (.ref sb)] h0 (Qv122 Z o sb ar cs ci ca h0 n0) := by
  refine own_mkG (plainFor_of_name pn_java_lang_String) ?_
  intro p e s m below meth c s₁ X0 hx hby hml hown hnm hret hlk hZ e0
  have N0 := Fr.nil n0
  have K0 := Keep.refl h0 [o]
  rw [ef_RR2 m o sb]
  refine own_vF m s₁ 1 #[vR o, vR sb] [(.ref o)] (fun t k => XS.aloadN X0.here hx rfl (hb hby d32_0) rfl rfl k) ?_
  refine own_vF m s₁ 2 #[vR o, vR sb] [(.ref sb), (.ref o)] (fun t k => XS.aloadN X0.here hx rfl (hb hby d32_1) rfl rfl k) ?_
  refine own_vF m s₁ 3 #[vR o, vR sb] [.null, (.ref sb), (.ref o)] (fun t k => XS.aconstNull X0.here hx rfl (hb hby d32_2) k) ?_
  obtain ⟨_, T1, L1, X1, hQ1, st1⟩ := own_callI X0 hx hZ (y := (⟨"java/lang/String", "<init>", "(Ljava/lang/AbstractStringBuilder;Ljava/lang/Void;)V"⟩ : MethodName)) rfl (W := 0) hown (hw _ (own_mt 165 rfl)) (hw _ (own_mt 166 rfl)) (hw _ (own_mt 6 rfl)) (hw _ (own_mt 167 rfl)) (by decide) (rm_Qv222 l Z a0 hw o sb ar cs ci ca h0 n0 Z0 Od SS Es_o Fv_o Fc_o gn_o Eo_sb Fv_sb Fc_sb Fn_sb Vb_ar) (by decide) (by decide) e0 (a := o) (g := (mkF m 3 #[vR o, vR sb] [.null, (.ref sb), (.ref o)])) rfl (by rw [hml]; rfl) (argsL := [(.ref sb), .null]) (rest := []) rfl (lenOf pd_Ljava_lang_AbstractStringBuilder_Ljava_lang_Void___V rfl) rfl own_w0 (hb hby d32_3) (by decide) (by decide)
  obtain ⟨rfl, N1q, K1q⟩ := hQ1
  have N1 := Fr.app N0 N1q
  have K9 := K0.trans K1q (allS (Or.inl (own_mt 0 rfl)) all0)
  refine own_vF m T1 6 #[vR o, vR sb] [] (fun t k => st1 t k) ?_
  exact own_ret X1 (v := none) (fun _ => rfl) hlk (fun fs hr => X1.returnOut hx hret (hb hby d32_6) hr) (by exact ⟨rfl, N1, K9⟩) (by decide) (by decide)
def Qts22 (Z : State) (sb ar : Addr) (cs : Int32) (ci ca : Addr) (h0 : Heap) (n0 : Nat) (v : Option Value) (h : Heap) (L : List Loc) : Prop := ∃ r, v = some (.ref r) ∧ Fr n0 L ∧ Keep h0 h []
theorem d33_0 : decode jdk_67_method_42_code 0 = .ok (.new 18, 3) := by decide +kernel
theorem d33_3 : decode jdk_67_method_42_code 3 = .ok (.dup, 1) := by decide +kernel
theorem d33_4 : decode jdk_67_method_42_code 4 = .ok (.aload_n 0, 1) := by decide +kernel
theorem pd_Ljava_lang_StringBuilder___V : parseMethodDescriptor "(Ljava/lang/StringBuilder;)V" = some ⟨[(.object "java/lang/StringBuilder")], none⟩ := by decide +kernel
theorem d33_5 : decode jdk_67_method_42_code 5 = .ok (.invokespecial 137, 3) := by decide +kernel
theorem d33_8 : decode jdk_67_method_42_code 8 = .ok (.areturn, 1) := by decide +kernel
set_option maxRecDepth 65536 in
set_option maxHeartbeats 40000000 in
theorem rm_Qts22 (l : Launch) (Z : State) (a0 : Array Value) (hw : ∀ d ∈ tables_1, d.before a0 Z = true) (sb ar : Addr) (cs : Int32) (ci ca : Addr) (h0 : Heap) (n0 : Nat) (Z0 : n0 ≤ h0.size) (Od : Old Z n0 h0) (SS : own_SS Z cs ci ca) (Eo_sb : Exa Z h0 sb "java/lang/StringBuilder") (Fv_sb : Fld Z h0 sb "java/lang/AbstractStringBuilder" "value" "[B" (.ref ar)) (Fc_sb : Fld Z h0 sb "java/lang/AbstractStringBuilder" "coder" "B" (.int 0)) (Fn_sb : Fld Z h0 sb "java/lang/AbstractStringBuilder" "count" "I" (.int 22)) (Vb_ar : own_By Z h0 ar (34 : Int32)) :
    own_MG l Z ((⟨"java/lang/StringBuilder", "toString", "()Ljava/lang/String;"⟩ : MethodName)) jdk_67_method_42_code 1 (some (.object "java/lang/String")) ({ frames := 5, cells := 2, slots := 26, locals := 121 } : Room) #[(.ref sb)] h0 (Qts22 Z sb ar cs ci ca h0 n0) := by
  refine own_mkG (plainFor_of_name pn_java_lang_StringBuilder) ?_
  intro p e s m below meth c s₁ X0 hx hby hml hown hnm hret hlk hZ e0
  have N0 := Fr.nil n0
  have K0 := Keep.refl h0 []
  rw [ef_R1 m sb]
  obtain ⟨T1, h1, X1, e1, E1, A1, D1, -, st1⟩ := newO X0 hx hZ hown (hw _ (own_mt 161 rfl)) (hw _ (own_mt 7 rfl)) (hw _ (own_mt 6 rfl)) e0 (g := (mkF m 0 #[vR sb] [])) rfl (hb hby d33_0) (by decide) (by decide)
  obtain ⟨b1, g1⟩ : ∃ z, z = h0.size := ⟨_, rfl⟩
  rw [← g1] at A1 D1 st1
  have gn_b1 : n0 ≤ b1 := Nat.le_trans Z0 (Nat.le_of_eq g1.symm)
  have sz_b1 : h0.size ≤ b1 := Nat.le_trans K0.1 (Nat.le_of_eq g1.symm)
  have f4 := Od.ext E1
  have f5 := Eo_sb.ext E1
  have f6 := Fv_sb.ext E1
  have f7 := Fc_sb.ext E1
  have f8 := Fn_sb.ext E1
  have f9 := Vb_ar.ext E1
  have f10 : Fld Z h1 b1 "java/lang/String" "value" "[B" .null := D1 (Or.inr (hw _ (own_mt 9 rfl))) (ty := (.array .byte)) (by decide)
  have f11 : Fld Z h1 b1 "java/lang/String" "coder" "B" (.int 0) := D1 (Or.inr (hw _ (own_mt 10 rfl))) (ty := .byte) (by decide)
  have Z12 : n0 ≤ h1.size := Nat.le_trans Z0 E1.1
  have K12 := K0.ext E1
  refine own_vF m T1 3 #[vR sb] [(.ref b1)] (fun t k => st1 t k) ?_
  refine own_vF m T1 4 #[vR sb] [(.ref b1), (.ref b1)] (fun t k => XS.dup X1.here hx rfl (hb hby d33_3) rfl rfl k) ?_
  refine own_vF m T1 5 #[vR sb] [(.ref sb), (.ref b1), (.ref b1)] (fun t k => XS.aloadN X1.here hx rfl (hb hby d33_4) rfl rfl k) ?_
  obtain ⟨_, T13, L13, X13, hQ13, st13⟩ := own_callI X1 hx hZ (y := (⟨"java/lang/String", "<init>", "(Ljava/lang/StringBuilder;)V"⟩ : MethodName)) rfl (W := 1) hown (hw _ (own_mt 162 rfl)) (hw _ (own_mt 163 rfl)) (hw _ (own_mt 6 rfl)) (hw _ (own_mt 164 rfl)) (by decide) (rm_Qv122 l Z a0 hw b1 sb ar cs ci ca h1 n0 Z12 f4 SS A1 f10 f11 gn_b1 f5 f6 f7 f8 f9) (by decide) (by decide) e1 (a := b1) (g := (mkF m 5 #[vR sb] [(.ref sb), (.ref b1), (.ref b1)])) rfl (by rw [hml]; rfl) (argsL := [(.ref sb)]) (rest := [(.ref b1)]) rfl (lenOf pd_Ljava_lang_StringBuilder___V rfl) rfl own_w0 (hb hby d33_5) (by decide) (by decide)
  obtain ⟨rfl, N13q, K13q⟩ := hQ13
  have N13 := Fr.app N0 N13q
  have K21 := K12.trans K13q (allS (Or.inr sz_b1) all0)
  refine own_vF m T13 8 #[vR sb] [(.ref b1)] (fun t k => st13 t k) ?_
  exact own_ret X13 (v := some (.ref b1)) (fun h => by rw [hret] at h; cases h) hlk (fun fs hr => retOut X13 hx (t := (.object "java/lang/String")) hret rfl (Or.inr (Or.inr (Or.inr (Or.inr ⟨rfl, rfl, rfl⟩)))) (hb hby d33_8) hr) (by exact ⟨b1, rfl, N13, K21⟩) (by decide) (by decide)
def Qcy17 (Z : State) (ar : Addr) (h0 : Heap) (n0 : Nat) (v : Option Value) (h : Heap) (L : List Loc) : Prop := ∃ r, v = some (.ref r) ∧ Fr n0 L ∧ Keep h0 h [] ∧ h0.size ≤ r ∧ own_By Z h r (17 : Int32)
set_option maxRecDepth 65536 in
set_option maxHeartbeats 40000000 in
theorem rm_Qcy17 (l : Launch) (Z : State) (a0 : Array Value) (hw : ∀ d ∈ tables_1, d.before a0 Z = true) (ar : Addr) (h0 : Heap) (n0 : Nat) (Z0 : n0 ≤ h0.size) (Vb_ar : own_By Z h0 ar (34 : Int32)) :
    own_MG l Z ((⟨"java/util/Arrays", "copyOfRangeByte", "([BII)[B"⟩ : MethodName)) jdk_65_method_133_code 5 (some (.array .byte)) ({ frames := 1, cells := 1, slots := 17, locals := 60 } : Room) #[(.ref ar), (.int 0), (.int 17)] h0 (Qcy17 Z ar h0 n0) := by
  refine own_mkG (plainFor_of_name pn_java_util_Arrays) ?_
  intro p e s m below meth c s₁ X0 hx hby hml hown hnm hret hlk hZ e0
  have N0 := Fr.nil n0
  have K0 := Keep.refl h0 []
  rw [ef_RII5 m ar (0 : Int32) (17 : Int32)]
  refine own_vF m s₁ 1 #[vR ar, vI (0 : Int32), vI (17 : Int32), .unset, .unset] [(.int 0)] (fun t k => XS.iloadN X0.here hx rfl (hb hby d25_0) rfl k) ?_
  refine own_vF m s₁ 2 #[vR ar, vI (0 : Int32), vI (17 : Int32), .unset, .unset] [(.int 17), (.int 0)] (fun t k => XS.iloadN X0.here hx rfl (hb hby d25_1) rfl k) ?_
  obtain ⟨_, T1, L1, X1, hQ1, st1⟩ := own_callS X0 hx hZ (y := (⟨"java/util/Arrays", "checkLength", "(II)V"⟩ : MethodName)) (W := 0) hown (hw _ (own_mt 193 rfl)) (hw _ (own_mt 194 rfl)) (hw _ (own_mt 130 rfl)) (hw _ (own_mt 195 rfl)) (by decide) (rm_Qcl l Z a0 hw (17 : Int32) h0 n0 Z0 (by decide)) (by decide) (by decide) e0 (g := (mkF m 2 #[vR ar, vI (0 : Int32), vI (17 : Int32), .unset, .unset] [(.int 17), (.int 0)])) rfl (by rw [hml]; rfl) (argsL := [(.int 0), (.int 17)]) (rest := []) rfl (lenOf pd_II__V rfl) rfl own_w0 (hb hby d25_2) (by decide) (by decide)
  obtain ⟨rfl, N1q, e1⟩ := hQ1
  have N1 := Fr.app N0 N1q
  refine own_vF m T1 5 #[vR ar, vI (0 : Int32), vI (17 : Int32), .unset, .unset] [] (fun t k => st1 t k) ?_
  refine own_vF m T1 6 #[vR ar, vI (0 : Int32), vI (17 : Int32), .unset, .unset] [(.int 17)] (fun t k => XS.iloadN X1.here hx rfl (hb hby d25_5) rfl k) ?_
  refine own_vF m T1 7 #[vR ar, vI (0 : Int32), vI (17 : Int32), .unset, .unset] [(.int 0), (.int 17)] (fun t k => XS.iloadN X1.here hx rfl (hb hby d25_6) rfl k) ?_
  refine own_vF m T1 8 #[vR ar, vI (0 : Int32), vI (17 : Int32), .unset, .unset] [(.int ((17 : Int32) - (0 : Int32)))] (fun t k => XS.isub X1.here hx rfl (hb hby d25_7) rfl k) ?_
  rw [show ((17 : Int32) - (0 : Int32)) = (17 : Int32) from by decide]
  refine own_vF m T1 9 #[vR ar, vI (0 : Int32), vI (17 : Int32), vI (17 : Int32), .unset] [] (fun t k => XS.istoreN X1.here hx rfl (hb hby d25_8) rfl (l' := #[vR ar, vI (0 : Int32), vI (17 : Int32), vI (17 : Int32), .unset]) rfl k) ?_
  refine own_vF m T1 10 #[vR ar, vI (0 : Int32), vI (17 : Int32), vI (17 : Int32), .unset] [(.int 17)] (fun t k => XS.iloadN X1.here hx rfl (hb hby d25_9) rfl k) ?_
  obtain ⟨T2, h2, k2, X2, e2, E2, A2, st2⟩ := newP X1 hx hZ (hw _ (own_mt 8 rfl)) e1 (g := (mkF m 10 #[vR ar, vI (0 : Int32), vI (17 : Int32), vI (17 : Int32), .unset] [(.int 17)])) rfl (hb hby d25_10) rfl (by decide) (cap := 17) (by decide) (by decide) (by decide) (by decide)
  obtain ⟨b2, g2⟩ : ∃ z, z = h0.size := ⟨_, rfl⟩
  rw [← g2] at A2 st2
  have gn_b2 : n0 ≤ b2 := Nat.le_trans Z0 (Nat.le_of_eq g2.symm)
  have sz_b2 : h0.size ≤ b2 := Nat.le_trans K0.1 (Nat.le_of_eq g2.symm)
  have f4 := Vb_ar.ext E2
  have V2 : own_By Z h2 b2 (17 : Int32) := own_By.new A2 (by decide)
  have Z5 : n0 ≤ h2.size := Nat.le_trans Z0 E2.1
  have K5 := K0.ext E2
  refine own_vF m T2 12 #[vR ar, vI (0 : Int32), vI (17 : Int32), vI (17 : Int32), .unset] [(.ref b2)] (fun t k => st2 t k) ?_
  refine own_vF m T2 14 #[vR ar, vI (0 : Int32), vI (17 : Int32), vI (17 : Int32), vR b2] [] (fun t k => XS.astore X2.here hx rfl (hb hby d25_12) rfl rfl (l' := #[vR ar, vI (0 : Int32), vI (17 : Int32), vI (17 : Int32), vR b2]) rfl k) ?_
  refine own_vF m T2 15 #[vR ar, vI (0 : Int32), vI (17 : Int32), vI (17 : Int32), vR b2] [(.ref ar)] (fun t k => XS.aloadN X2.here hx rfl (hb hby d25_14) rfl rfl k) ?_
  refine own_vF m T2 16 #[vR ar, vI (0 : Int32), vI (17 : Int32), vI (17 : Int32), vR b2] [(.int 0), (.ref ar)] (fun t k => XS.iloadN X2.here hx rfl (hb hby d25_15) rfl k) ?_
  refine own_vF m T2 18 #[vR ar, vI (0 : Int32), vI (17 : Int32), vI (17 : Int32), vR b2] [(.ref b2), (.int 0), (.ref ar)] (fun t k => XS.aload X2.here hx rfl (hb hby d25_16) rfl rfl k) ?_
  refine own_vF m T2 19 #[vR ar, vI (0 : Int32), vI (17 : Int32), vI (17 : Int32), vR b2] [(.int 0), (.ref b2), (.int 0), (.ref ar)] (fun t k => XS.iconst X2.here hx rfl (hb hby d25_18) k) ?_
  refine own_vF m T2 20 #[vR ar, vI (0 : Int32), vI (17 : Int32), vI (17 : Int32), vR b2] [(.ref ar), (.int 0), (.ref b2), (.int 0), (.ref ar)] (fun t k => XS.aloadN X2.here hx rfl (hb hby d25_19) rfl rfl k) ?_
  obtain ⟨-, -, ⟨c6, Ar6, q6a, q6b, q6c, q6d, q6e⟩, -⟩ := id f4
  refine own_vF m T2 21 #[vR ar, vI (0 : Int32), vI (17 : Int32), vI (17 : Int32), vR b2] [(.int 34), (.int 0), (.ref b2), (.int 0), (.ref ar)] (fun t k => (fun t k => X2.arraylength hx (by rw [e2]; exact Ar6.1) (State.isArrayOf_alike hZ.alike Ar6.2.1) (g := (mkF m 20 #[vR ar, vI (0 : Int32), vI (17 : Int32), vI (17 : Int32), vR b2] [(.ref ar), (.int 0), (.ref b2), (.int 0), (.ref ar)])) rfl rfl (hb hby d25_20) t (by rw [len_of q6b q6c]; exact k)) t k) ?_
  refine own_vF m T2 22 #[vR ar, vI (0 : Int32), vI (17 : Int32), vI (17 : Int32), vR b2] [(.int 0), (.int 34), (.int 0), (.ref b2), (.int 0), (.ref ar)] (fun t k => XS.iloadN X2.here hx rfl (hb hby d25_21) rfl k) ?_
  refine own_vF m T2 23 #[vR ar, vI (0 : Int32), vI (17 : Int32), vI (17 : Int32), vR b2] [(.int ((34 : Int32) - (0 : Int32))), (.int 0), (.ref b2), (.int 0), (.ref ar)] (fun t k => XS.isub X2.here hx rfl (hb hby d25_22) rfl k) ?_
  rw [show ((34 : Int32) - (0 : Int32)) = (34 : Int32) from by decide]
  refine own_vF m T2 24 #[vR ar, vI (0 : Int32), vI (17 : Int32), vI (17 : Int32), vR b2] [(.int 17), (.int 34), (.int 0), (.ref b2), (.int 0), (.ref ar)] (fun t k => XS.iloadN X2.here hx rfl (hb hby d25_23) rfl k) ?_
  obtain ⟨_, T7, L7, X7, hQ7, st7⟩ := own_callS X2 hx hZ (y := (⟨"java/lang/Math", "min", "(II)I"⟩ : MethodName)) (W := 4) hown (hw _ (own_mt 132 rfl)) (hw _ (own_mt 133 rfl)) (hw _ (own_mt 124 rfl)) (hw _ (own_mt 134 rfl)) (by decide) (rm_Qmin l Z a0 hw (34 : Int32) (17 : Int32) h2 n0 Z5) (by decide) (by decide) e2 (g := (mkF m 24 #[vR ar, vI (0 : Int32), vI (17 : Int32), vI (17 : Int32), vR b2] [(.int 17), (.int 34), (.int 0), (.ref b2), (.int 0), (.ref ar)])) rfl (by rw [hml]; rfl) (argsL := [(.int 34), (.int 17)]) (rest := [(.int 0), (.ref b2), (.int 0), (.ref ar)]) rfl (lenOf pd_II__I rfl) rfl own_w0 (hb hby d25_24) (by decide) (by decide)
  obtain ⟨rfl, N7q, e7⟩ := hQ7
  have N7 := Fr.app N1 N7q
  refine own_vF m T7 27 #[vR ar, vI (0 : Int32), vI (17 : Int32), vI (17 : Int32), vR b2] [(.int (if (17 : Int32) < (34 : Int32) then (17 : Int32) else (34 : Int32))), (.int 0), (.ref b2), (.int 0), (.ref ar)] (fun t k => st7 t k) ?_
  rw [show (if (17 : Int32) < (34 : Int32) then (17 : Int32) else (34 : Int32)) = (17 : Int32) from by decide]
  obtain ⟨T8, h8, L8, X8, e8, N8, K8q, V8, st8⟩ := own_cpB X7 hx hZ hown (hw _ (own_mt 135 rfl)) (hw _ (own_mt 138 rfl)) (hw _ (own_mt 136 rfl)) (hw _ (own_mt 137 rfl)) e7 f4 V2 (by decide) (by decide) (by decide) (by decide) (by decide) N7 gn_b2 (g := (mkF m 27 #[vR ar, vI (0 : Int32), vI (17 : Int32), vI (17 : Int32), vR b2] [(.int 17), (.int 0), (.ref b2), (.int 0), (.ref ar)])) rfl (by rw [hml]; rfl) rfl (hb hby d25_27) (by decide) (W := 0) own_w0 (by decide)
  subst e8
  have K10 := K5.trans K8q (allS (Or.inr sz_b2) all0)
  refine own_vF m T8 30 #[vR ar, vI (0 : Int32), vI (17 : Int32), vI (17 : Int32), vR b2] [] (fun t k => st8 t k) ?_
  refine own_vF m T8 32 #[vR ar, vI (0 : Int32), vI (17 : Int32), vI (17 : Int32), vR b2] [(.ref b2)] (fun t k => XS.aload X8.here hx rfl (hb hby d25_30) rfl rfl k) ?_
  exact own_ret X8 (v := some (.ref b2)) (fun h => by rw [hret] at h; cases h) hlk (fun fs hr => retOut X8 hx (t := (.array .byte)) hret rfl (Or.inr (Or.inr (Or.inr (Or.inr ⟨rfl, rfl, rfl⟩)))) (hb hby d25_32) hr) (by exact ⟨b2, rfl, N8, K10, sz_b2, V8⟩) (by decide) (by decide)
def Qcr17 (Z : State) (ar : Addr) (h0 : Heap) (n0 : Nat) (v : Option Value) (h : Heap) (L : List Loc) : Prop := ∃ r, v = some (.ref r) ∧ Fr n0 L ∧ Keep h0 h [] ∧ h0.size ≤ r ∧ own_By Z h r (17 : Int32)
set_option maxRecDepth 65536 in
set_option maxHeartbeats 40000000 in
theorem rm_Qcr17 (l : Launch) (Z : State) (a0 : Array Value) (hw : ∀ d ∈ tables_1, d.before a0 Z = true) (ar : Addr) (h0 : Heap) (n0 : Nat) (Z0 : n0 ≤ h0.size) (Vb_ar : own_By Z h0 ar (34 : Int32)) :
    own_MG l Z ((⟨"java/util/Arrays", "copyOfRange", "([BII)[B"⟩ : MethodName)) jdk_65_method_132_code 3 (some (.array .byte)) ({ frames := 2, cells := 1, slots := 17, locals := 76 } : Room) #[(.ref ar), (.int 0), (.int 17)] h0 (Qcr17 Z ar h0 n0) := by
  refine own_mkG (plainFor_of_name pn_java_util_Arrays) ?_
  intro p e s m below meth c s₁ X0 hx hby hml hown hnm hret hlk hZ e0
  have N0 := Fr.nil n0
  have K0 := Keep.refl h0 []
  rw [ef_RII3 m ar (0 : Int32) (17 : Int32)]
  refine own_vF m s₁ 1 #[vR ar, vI (0 : Int32), vI (17 : Int32)] [(.int 0)] (fun t k => XS.iloadN X0.here hx rfl (hb hby d26_0) rfl k) ?_
  refine own_vF m s₁ 4 #[vR ar, vI (0 : Int32), vI (17 : Int32)] [] (fun t k => XS.ifNo X0.here hx rfl (hb hby d26_1) rfl ((if0 _ _).trans (teq (by decide : ((0 : Int32) = (0 : Int32)))).2) k) ?_
  refine own_vF m s₁ 5 #[vR ar, vI (0 : Int32), vI (17 : Int32)] [(.int 17)] (fun t k => XS.iloadN X0.here hx rfl (hb hby d26_4) rfl k) ?_
  refine own_vF m s₁ 6 #[vR ar, vI (0 : Int32), vI (17 : Int32)] [(.ref ar), (.int 17)] (fun t k => XS.aloadN X0.here hx rfl (hb hby d26_5) rfl rfl k) ?_
  obtain ⟨-, -, ⟨c1, Ar1, q1a, q1b, q1c, q1d, q1e⟩, -⟩ := id Vb_ar
  refine own_vF m s₁ 7 #[vR ar, vI (0 : Int32), vI (17 : Int32)] [(.int 34), (.int 17)] (fun t k => (fun t k => X0.arraylength hx (by rw [e0]; exact Ar1.1) (State.isArrayOf_alike hZ.alike Ar1.2.1) (g := (mkF m 6 #[vR ar, vI (0 : Int32), vI (17 : Int32)] [(.ref ar), (.int 17)])) rfl rfl (hb hby d26_6) t (by rw [len_of q1b q1c]; exact k)) t k) ?_
  refine own_vF m s₁ 10 #[vR ar, vI (0 : Int32), vI (17 : Int32)] [] (fun t k => XS.icmpNo X0.here hx rfl (hb hby d26_7) rfl (feq (by decide : ¬ ((17 : Int32) = (34 : Int32)))).1 k) ?_
  refine own_vF m s₁ 11 #[vR ar, vI (0 : Int32), vI (17 : Int32)] [(.ref ar)] (fun t k => XS.aloadN X0.here hx rfl (hb hby d26_10) rfl rfl k) ?_
  refine own_vF m s₁ 12 #[vR ar, vI (0 : Int32), vI (17 : Int32)] [(.int 0), (.ref ar)] (fun t k => XS.iloadN X0.here hx rfl (hb hby d26_11) rfl k) ?_
  refine own_vF m s₁ 13 #[vR ar, vI (0 : Int32), vI (17 : Int32)] [(.int 17), (.int 0), (.ref ar)] (fun t k => XS.iloadN X0.here hx rfl (hb hby d26_12) rfl k) ?_
  obtain ⟨_, T2, L2, X2, hQ2, st2⟩ := own_callS X0 hx hZ (y := (⟨"java/util/Arrays", "copyOfRangeByte", "([BII)[B"⟩ : MethodName)) (W := 0) hown (hw _ (own_mt 190 rfl)) (hw _ (own_mt 191 rfl)) (hw _ (own_mt 130 rfl)) (hw _ (own_mt 192 rfl)) (by decide) (rm_Qcy17 l Z a0 hw ar h0 n0 Z0 Vb_ar) (by decide) (by decide) e0 (g := (mkF m 13 #[vR ar, vI (0 : Int32), vI (17 : Int32)] [(.int 17), (.int 0), (.ref ar)])) rfl (by rw [hml]; rfl) (argsL := [(.ref ar), (.int 0), (.int 17)]) (rest := []) rfl (lenOf pd_ABII__AB rfl) rfl own_w0 (hb hby d26_13) (by decide) (by decide)
  obtain ⟨r2, rfl, N2q, K2q, sq_r2, V2q⟩ := hQ2
  have N2 := Fr.app N0 N2q
  have sz_r2 : h0.size ≤ r2 := Nat.le_trans K0.1 sq_r2
  have K5 := K0.trans K2q all0
  refine own_vF m T2 16 #[vR ar, vI (0 : Int32), vI (17 : Int32)] [(.ref r2)] (fun t k => st2 t k) ?_
  exact own_ret X2 (v := some (.ref r2)) (fun h => by rw [hret] at h; cases h) hlk (fun fs hr => retOut X2 hx (t := (.array .byte)) hret rfl (Or.inr (Or.inr (Or.inr (Or.inr ⟨rfl, rfl, rfl⟩)))) (hb hby d26_16) hr) (by exact ⟨r2, rfl, N2, K5, sz_r2, V2q⟩) (by decide) (by decide)
def Qgv17 (Z : State) (sb ar : Addr) (cs : Int32) (ci ca : Addr) (h0 : Heap) (n0 : Nat) (v : Option Value) (h : Heap) (L : List Loc) : Prop := v = some (.ref ar) ∧ Fr n0 L ∧ h = h0
set_option maxRecDepth 65536 in
set_option maxHeartbeats 40000000 in
theorem rm_Qgv17 (l : Launch) (Z : State) (a0 : Array Value) (hw : ∀ d ∈ tables_1, d.before a0 Z = true) (sb ar : Addr) (cs : Int32) (ci ca : Addr) (h0 : Heap) (n0 : Nat) (Z0 : n0 ≤ h0.size) (Od : Old Z n0 h0) (SS : own_SS Z cs ci ca) (Eo_sb : Exa Z h0 sb "java/lang/StringBuilder") (Fv_sb : Fld Z h0 sb "java/lang/AbstractStringBuilder" "value" "[B" (.ref ar)) (Fc_sb : Fld Z h0 sb "java/lang/AbstractStringBuilder" "coder" "B" (.int 0)) (Fn_sb : Fld Z h0 sb "java/lang/AbstractStringBuilder" "count" "I" (.int 17)) (Vb_ar : own_By Z h0 ar (34 : Int32)) :
    own_MG l Z ((⟨"java/lang/AbstractStringBuilder", "getValue", "()[B"⟩ : MethodName)) jdk_68_method_64_code 1 (some (.array .byte)) ({ frames := 0, cells := 0, slots := 0, locals := 0 } : Room) #[(.ref sb)] h0 (Qgv17 Z sb ar cs ci ca h0 n0) := by
  refine own_mkG (plainFor_of_name pn_java_lang_AbstractStringBuilder) ?_
  intro p e s m below meth c s₁ X0 hx hby hml hown hnm hret hlk hZ e0
  have N0 := Fr.nil n0
  rw [ef_R1 m sb]
  refine own_vF m s₁ 1 #[vR sb] [(.ref sb)] (fun t k => XS.aloadN X0.here hx rfl (hb hby d27_0) rfl rfl k) ?_
  obtain ⟨T1, X1, e1, st1⟩ := getF (host := "") X0 hx hZ hown (Or.inl (hw _ (own_mt 90 rfl))) Via.refl e0 Fv_sb (g := (mkF m 1 #[vR sb] [(.ref sb)])) rfl rfl (hb hby d27_1)
  refine own_vF m T1 4 #[vR sb] [(.ref ar)] (fun t k => st1 t k) ?_
  exact own_ret X1 (v := some (.ref ar)) (fun h => by rw [hret] at h; cases h) hlk (fun fs hr => retOut X1 hx (t := (.array .byte)) hret rfl (Or.inr (Or.inr (Or.inr (Or.inr ⟨rfl, rfl, rfl⟩)))) (hb hby d27_4) hr) (by rw [e1]; exact ⟨rfl, N0, rfl⟩) (by decide) (by decide)
def Qil17 (Z : State) (sb ar : Addr) (cs : Int32) (ci ca : Addr) (h0 : Heap) (n0 : Nat) (v : Option Value) (h : Heap) (L : List Loc) : Prop := v = some (.int 1) ∧ Fr n0 L ∧ h = h0
set_option maxRecDepth 65536 in
set_option maxHeartbeats 40000000 in
theorem rm_Qil17 (l : Launch) (Z : State) (a0 : Array Value) (hw : ∀ d ∈ tables_1, d.before a0 Z = true) (sb ar : Addr) (cs : Int32) (ci ca : Addr) (h0 : Heap) (n0 : Nat) (Z0 : n0 ≤ h0.size) (Od : Old Z n0 h0) (SS : own_SS Z cs ci ca) (Eo_sb : Exa Z h0 sb "java/lang/StringBuilder") (Fv_sb : Fld Z h0 sb "java/lang/AbstractStringBuilder" "value" "[B" (.ref ar)) (Fc_sb : Fld Z h0 sb "java/lang/AbstractStringBuilder" "coder" "B" (.int 0)) (Fn_sb : Fld Z h0 sb "java/lang/AbstractStringBuilder" "count" "I" (.int 17)) (Vb_ar : own_By Z h0 ar (34 : Int32)) :
    own_MG l Z ((⟨"java/lang/AbstractStringBuilder", "isLatin1", "()Z"⟩ : MethodName)) jdk_68_method_68_code 1 (some .boolean) ({ frames := 0, cells := 0, slots := 0, locals := 0 } : Room) #[(.ref sb)] h0 (Qil17 Z sb ar cs ci ca h0 n0) := by
  refine own_mkG (plainFor_of_name pn_java_lang_AbstractStringBuilder) ?_
  intro p e s m below meth c s₁ X0 hx hby hml hown hnm hret hlk hZ e0
  have N0 := Fr.nil n0
  rw [ef_R1 m sb]
  obtain ⟨T1, X1, e1, st1⟩ := getS2 (host := "") X0 hx hZ hown (Or.inl (hw _ (own_mt 89 rfl))) Via.refl e0 (SS.1.ext Od.2) (g := (mkF m 0 #[vR sb] [])) rfl (hb hby d28_0)
  refine own_vF m T1 3 #[vR sb] [(.int cs)] (fun t k => st1 t k) ?_
  refine own_vF m T1 6 #[vR sb] [] (fun t k => XS.ifNo X1.here hx rfl (hb hby d28_3) rfl ((if0 _ _).trans (feq SS.2.1).1) k) ?_
  refine own_vF m T1 7 #[vR sb] [(.ref sb)] (fun t k => XS.aloadN X1.here hx rfl (hb hby d28_6) rfl rfl k) ?_
  obtain ⟨T2, X2, e2, st2⟩ := getF (host := "") X1 hx hZ hown (Or.inl (hw _ (own_mt 92 rfl))) Via.refl e1 Fc_sb (g := (mkF m 7 #[vR sb] [(.ref sb)])) rfl rfl (hb hby d28_7)
  refine own_vF m T2 10 #[vR sb] [(.int 0)] (fun t k => st2 t k) ?_
  refine own_vF m T2 13 #[vR sb] [] (fun t k => XS.ifNo X2.here hx rfl (hb hby d28_10) rfl ((if0 _ _).trans (teq (by decide : ((0 : Int32) = (0 : Int32)))).2) k) ?_
  refine own_vF m T2 14 #[vR sb] [(.int 1)] (fun t k => XS.iconst X2.here hx rfl (hb hby d28_13) k) ?_
  refine own_vF m T2 18 #[vR sb] [(.int 1)] (fun t k => XS.goto X2.here hx rfl (pc0 := 14) (pc' := 18) rfl (hb hby d28_14) (by decide) (by decide) k) ?_
  exact own_ret X2 (v := some (.int 1)) (fun h => by rw [hret] at h; cases h) hlk (fun fs hr => retN X2 hx (t := .boolean) hret (by simp) (hb hby d28_18) hr) (by rw [e2]; exact ⟨rfl, N0, rfl⟩) (by decide) (by decide)
def Qal17 (Z : State) (sb ar : Addr) (cs : Int32) (ci ca : Addr) (h0 : Heap) (n0 : Nat) (v : Option Value) (h : Heap) (L : List Loc) : Prop := v = some (.int 17) ∧ Fr n0 L ∧ h = h0
set_option maxRecDepth 65536 in
set_option maxHeartbeats 40000000 in
theorem rm_Qal17 (l : Launch) (Z : State) (a0 : Array Value) (hw : ∀ d ∈ tables_1, d.before a0 Z = true) (sb ar : Addr) (cs : Int32) (ci ca : Addr) (h0 : Heap) (n0 : Nat) (Z0 : n0 ≤ h0.size) (Od : Old Z n0 h0) (SS : own_SS Z cs ci ca) (Eo_sb : Exa Z h0 sb "java/lang/StringBuilder") (Fv_sb : Fld Z h0 sb "java/lang/AbstractStringBuilder" "value" "[B" (.ref ar)) (Fc_sb : Fld Z h0 sb "java/lang/AbstractStringBuilder" "coder" "B" (.int 0)) (Fn_sb : Fld Z h0 sb "java/lang/AbstractStringBuilder" "count" "I" (.int 17)) (Vb_ar : own_By Z h0 ar (34 : Int32)) :
    own_MG l Z ((⟨"java/lang/AbstractStringBuilder", "length", "()I"⟩ : MethodName)) jdk_68_method_6_code 1 (some .int) ({ frames := 0, cells := 0, slots := 0, locals := 0 } : Room) #[(.ref sb)] h0 (Qal17 Z sb ar cs ci ca h0 n0) := by
  refine own_mkG (plainFor_of_name pn_java_lang_AbstractStringBuilder) ?_
  intro p e s m below meth c s₁ X0 hx hby hml hown hnm hret hlk hZ e0
  have N0 := Fr.nil n0
  rw [ef_R1 m sb]
  refine own_vF m s₁ 1 #[vR sb] [(.ref sb)] (fun t k => XS.aloadN X0.here hx rfl (hb hby d29_0) rfl rfl k) ?_
  obtain ⟨T1, X1, e1, st1⟩ := getF (host := "") X0 hx hZ hown (Or.inl (hw _ (own_mt 106 rfl))) Via.refl e0 Fn_sb (g := (mkF m 1 #[vR sb] [(.ref sb)])) rfl rfl (hb hby d29_1)
  refine own_vF m T1 4 #[vR sb] [(.int 17)] (fun t k => st1 t k) ?_
  exact own_ret X1 (v := some (.int 17)) (fun h => by rw [hret] at h; cases h) hlk (fun fs hr => retOut X1 hx (t := .int) hret rfl (Or.inl ⟨rfl, Or.inl rfl, _, rfl⟩) (hb hby d29_4) hr) (by rw [e1]; exact ⟨rfl, N0, rfl⟩) (by decide) (by decide)
def Qbl17 (Z : State) (sb ar : Addr) (cs : Int32) (ci ca : Addr) (h0 : Heap) (n0 : Nat) (v : Option Value) (h : Heap) (L : List Loc) : Prop := v = some (.int 17) ∧ Fr n0 L ∧ h = h0
set_option maxRecDepth 65536 in
set_option maxHeartbeats 40000000 in
theorem rm_Qbl17 (l : Launch) (Z : State) (a0 : Array Value) (hw : ∀ d ∈ tables_1, d.before a0 Z = true) (sb ar : Addr) (cs : Int32) (ci ca : Addr) (h0 : Heap) (n0 : Nat) (Z0 : n0 ≤ h0.size) (Od : Old Z n0 h0) (SS : own_SS Z cs ci ca) (Eo_sb : Exa Z h0 sb "java/lang/StringBuilder") (Fv_sb : Fld Z h0 sb "java/lang/AbstractStringBuilder" "value" "[B" (.ref ar)) (Fc_sb : Fld Z h0 sb "java/lang/AbstractStringBuilder" "coder" "B" (.int 0)) (Fn_sb : Fld Z h0 sb "java/lang/AbstractStringBuilder" "count" "I" (.int 17)) (Vb_ar : own_By Z h0 ar (34 : Int32)) :
    own_MG l Z ((⟨"java/lang/StringBuilder", "length", "()I"⟩ : MethodName)) jdk_67_method_93_code 1 (some .int) ({ frames := 1, cells := 0, slots := 0, locals := 12 } : Room) #[(.ref sb)] h0 (Qbl17 Z sb ar cs ci ca h0 n0) := by
  refine own_mkG (plainFor_of_name pn_java_lang_StringBuilder) ?_
  intro p e s m below meth c s₁ X0 hx hby hml hown hnm hret hlk hZ e0
  have N0 := Fr.nil n0
  rw [ef_R1 m sb]
  refine own_vF m s₁ 1 #[vR sb] [(.ref sb)] (fun t k => XS.aloadN X0.here hx rfl (hb hby d30_0) rfl rfl k) ?_
  obtain ⟨_, T1, L1, X1, hQ1, st1⟩ := own_callU X0 hx hZ (x := (⟨"java/lang/AbstractStringBuilder", "ensureCapacityInternal", "(I)V"⟩ : MethodName)) (y := (⟨"java/lang/AbstractStringBuilder", "length", "()I"⟩ : MethodName)) (by decide) (W := 0) (C := "java/lang/StringBuilder") hown (hw _ (own_mt 180 rfl)) (hw _ (own_mt 175 rfl)) rfl (hw _ (own_mt 111 rfl)) (hw _ (own_mt 102 rfl)) (hw _ (own_mt 176 rfl)) (hw _ (own_mt 86 rfl)) (hw _ (own_mt 181 rfl)) (by decide) (rm_Qal17 l Z a0 hw sb ar cs ci ca h0 n0 Z0 Od SS Eo_sb Fv_sb Fc_sb Fn_sb Vb_ar) (by decide) (by decide) e0 Eo_sb (g := (mkF m 1 #[vR sb] [(.ref sb)])) rfl (by rw [hml]; rfl) (argsL := []) (rest := []) rfl (lenOf pd___I rfl) rfl own_w0 (hb hby d30_1) (by decide) (by decide)
  obtain ⟨rfl, N1q, e1⟩ := hQ1
  have N1 := Fr.app N0 N1q
  refine own_vF m T1 4 #[vR sb] [(.int 17)] (fun t k => st1 t k) ?_
  exact own_ret X1 (v := some (.int 17)) (fun h => by rw [hret] at h; cases h) hlk (fun fs hr => retOut X1 hx (t := .int) hret rfl (Or.inl ⟨rfl, Or.inl rfl, _, rfl⟩) (hb hby d30_4) hr) (by rw [e1]; exact ⟨rfl, N1, rfl⟩) (by decide) (by decide)
def Qv217 (Z : State) (o sb ar : Addr) (cs : Int32) (ci ca : Addr) (h0 : Heap) (n0 : Nat) (v : Option Value) (h : Heap) (L : List Loc) : Prop := v = none ∧ Fr n0 L ∧ Keep h0 h [o]
set_option maxRecDepth 65536 in
set_option maxHeartbeats 40000000 in
theorem rm_Qv217 (l : Launch) (Z : State) (a0 : Array Value) (hw : ∀ d ∈ tables_1, d.before a0 Z = true) (o sb ar : Addr) (cs : Int32) (ci ca : Addr) (h0 : Heap) (n0 : Nat) (Z0 : n0 ≤ h0.size) (Od : Old Z n0 h0) (SS : own_SS Z cs ci ca) (Es_o : Exa Z h0 o "java/lang/String") (Fv_o : Fld Z h0 o "java/lang/String" "value" "[B" .null) (Fc_o : Fld Z h0 o "java/lang/String" "coder" "B" (.int 0)) (gn_o : n0 ≤ o) (Eo_sb : Exa Z h0 sb "java/lang/StringBuilder") (Fv_sb : Fld Z h0 sb "java/lang/AbstractStringBuilder" "value" "[B" (.ref ar)) (Fc_sb : Fld Z h0 sb "java/lang/AbstractStringBuilder" "coder" "B" (.int 0)) (Fn_sb : Fld Z h0 sb "java/lang/AbstractStringBuilder" "count" "I" (.int 17)) (Vb_ar : own_By Z h0 ar (34 : Int32)) :
    own_MG l Z ((⟨"java/lang/String", "<init>", "(Ljava/lang/AbstractStringBuilder;Ljava/lang/Void;)V"⟩ : MethodName)) jdk_42_method_150_code 5 none ({ frames := 3, cells := 1, slots := 17, locals := 91 } : Room) #[(.ref o), (.ref sb), .null] h0 (Qv217 Z o sb ar cs ci ca h0 n0) := by
  refine own_mkG (plainFor_of_name pn_java_lang_String) ?_
  intro p e s m below meth c s₁ X0 hx hby hml hown hnm hret hlk hZ e0
  have N0 := Fr.nil n0
  have K0 := Keep.refl h0 [o]
  rw [ef_RRN5 m o sb]
  refine own_vF m s₁ 1 #[vR o, vR sb, .val .null, .unset, .unset] [(.ref o)] (fun t k => XS.aloadN X0.here hx rfl (hb hby d31_0) rfl rfl k) ?_
  obtain ⟨T1, X1, e1, st1⟩ := initO X0 hx hZ hown (hw _ (own_mt 168 rfl)) (hw _ (own_mt 17 rfl)) (hw _ (own_mt 18 rfl)) e0 (g := (mkF m 1 #[vR o, vR sb, .val .null, .unset, .unset] [(.ref o)])) rfl (by rw [hml]; rfl) rfl (hb hby d31_1) (by decide) (W := 0) own_w0 (by decide)
  refine own_vF m T1 4 #[vR o, vR sb, .val .null, .unset, .unset] [] (fun t k => st1 t k) ?_
  refine own_vF m T1 5 #[vR o, vR sb, .val .null, .unset, .unset] [(.ref sb)] (fun t k => XS.aloadN X1.here hx rfl (hb hby d31_4) rfl rfl k) ?_
  obtain ⟨_, T2, L2, X2, hQ2, st2⟩ := own_callV X1 hx hZ (y := (⟨"java/lang/AbstractStringBuilder", "getValue", "()[B"⟩ : MethodName)) (W := 0) (C := "java/lang/StringBuilder") hown (hw _ (own_mt 169 rfl)) (hw _ (own_mt 170 rfl)) (hw _ (own_mt 172 rfl)) (hw _ (own_mt 171 rfl)) (hw _ (own_mt 86 rfl)) (hw _ (own_mt 173 rfl)) (by decide) (rm_Qgv17 l Z a0 hw sb ar cs ci ca h0 n0 Z0 Od SS Eo_sb Fv_sb Fc_sb Fn_sb Vb_ar) (by decide) (by decide) e1 Eo_sb (g := (mkF m 5 #[vR o, vR sb, .val .null, .unset, .unset] [(.ref sb)])) rfl (by rw [hml]; rfl) (argsL := []) (rest := []) rfl (lenOf pd___AB rfl) rfl own_w0 (hb hby d31_5) (by decide) (by decide)
  obtain ⟨rfl, N2q, e2⟩ := hQ2
  have N2 := Fr.app N0 N2q
  refine own_vF m T2 8 #[vR o, vR sb, .val .null, .unset, .unset] [(.ref ar)] (fun t k => st2 t k) ?_
  refine own_vF m T2 9 #[vR o, vR sb, .val .null, vR ar, .unset] [] (fun t k => XS.astoreN X2.here hx rfl (hb hby d31_8) rfl rfl (l' := #[vR o, vR sb, .val .null, vR ar, .unset]) rfl k) ?_
  refine own_vF m T2 10 #[vR o, vR sb, .val .null, vR ar, .unset] [(.ref sb)] (fun t k => XS.aloadN X2.here hx rfl (hb hby d31_9) rfl rfl k) ?_
  obtain ⟨_, T3, L3, X3, hQ3, st3⟩ := own_callVZ X2 hx hZ (x := (⟨"java/lang/AbstractStringBuilder", "ensureCapacityInternal", "(I)V"⟩ : MethodName)) (y := (⟨"java/lang/AbstractStringBuilder", "length", "()I"⟩ : MethodName)) (z := (⟨"java/lang/StringBuilder", "length", "()I"⟩ : MethodName)) (W := 0) (C := "java/lang/StringBuilder") hown (hw _ (own_mt 174 rfl)) (hw _ (own_mt 175 rfl)) rfl (hw _ (own_mt 111 rfl)) (hw _ (own_mt 177 rfl)) (hw _ (own_mt 178 rfl)) (hw _ (own_mt 78 rfl)) (hw _ (own_mt 179 rfl)) (by decide) (rm_Qbl17 l Z a0 hw sb ar cs ci ca h0 n0 Z0 Od SS Eo_sb Fv_sb Fc_sb Fn_sb Vb_ar) (by decide) (by decide) e2 Eo_sb (g := (mkF m 10 #[vR o, vR sb, .val .null, vR ar, .unset] [(.ref sb)])) rfl (by rw [hml]; rfl) (argsL := []) (rest := []) rfl (lenOf pd___I rfl) rfl own_w0 (hb hby d31_10) (by decide) (by decide)
  obtain ⟨rfl, N3q, e3⟩ := hQ3
  have N3 := Fr.app N2 N3q
  refine own_vF m T3 13 #[vR o, vR sb, .val .null, vR ar, .unset] [(.int 17)] (fun t k => st3 t k) ?_
  refine own_vF m T3 15 #[vR o, vR sb, .val .null, vR ar, vI (17 : Int32)] [] (fun t k => XS.istore X3.here hx rfl (hb hby d31_13) rfl (l' := #[vR o, vR sb, .val .null, vR ar, vI (17 : Int32)]) rfl k) ?_
  refine own_vF m T3 16 #[vR o, vR sb, .val .null, vR ar, vI (17 : Int32)] [(.ref sb)] (fun t k => XS.aloadN X3.here hx rfl (hb hby d31_15) rfl rfl k) ?_
  obtain ⟨_, T4, L4, X4, hQ4, st4⟩ := own_callV X3 hx hZ (y := (⟨"java/lang/AbstractStringBuilder", "isLatin1", "()Z"⟩ : MethodName)) (W := 0) (C := "java/lang/StringBuilder") hown (hw _ (own_mt 182 rfl)) (hw _ (own_mt 183 rfl)) (hw _ (own_mt 185 rfl)) (hw _ (own_mt 184 rfl)) (hw _ (own_mt 86 rfl)) (hw _ (own_mt 186 rfl)) (by decide) (rm_Qil17 l Z a0 hw sb ar cs ci ca h0 n0 Z0 Od SS Eo_sb Fv_sb Fc_sb Fn_sb Vb_ar) (by decide) (by decide) e3 Eo_sb (g := (mkF m 16 #[vR o, vR sb, .val .null, vR ar, vI (17 : Int32)] [(.ref sb)])) rfl (by rw [hml]; rfl) (argsL := []) (rest := []) rfl (lenOf pd___Z rfl) rfl own_w0 (hb hby d31_16) (by decide) (by decide)
  obtain ⟨rfl, N4q, e4⟩ := hQ4
  have N4 := Fr.app N3 N4q
  refine own_vF m T4 19 #[vR o, vR sb, .val .null, vR ar, vI (17 : Int32)] [(.int 1)] (fun t k => st4 t k) ?_
  refine own_vF m T4 22 #[vR o, vR sb, .val .null, vR ar, vI (17 : Int32)] [] (fun t k => XS.ifNo X4.here hx rfl (hb hby d31_19) rfl ((if0 _ _).trans (feq (by decide : ¬ ((1 : Int32) = (0 : Int32)))).1) k) ?_
  refine own_vF m T4 23 #[vR o, vR sb, .val .null, vR ar, vI (17 : Int32)] [(.ref o)] (fun t k => XS.aloadN X4.here hx rfl (hb hby d31_22) rfl rfl k) ?_
  refine own_vF m T4 24 #[vR o, vR sb, .val .null, vR ar, vI (17 : Int32)] [(.int 0), (.ref o)] (fun t k => XS.iconst X4.here hx rfl (hb hby d31_23) k) ?_
  obtain ⟨T5, h5, X5, e5, W5, st5⟩ := putF (host := "") X4 hx hZ hown (Or.inl (hw _ (own_mt 42 rfl))) Via.refl e4 Fc_o Es_o (Or.inr ⟨(hw _ (own_mt 10 rfl)), rfl, hnm⟩) (hw _ (own_mt 7 rfl)) (ty := .byte) (by decide) rfl rfl (g := (mkF m 24 #[vR o, vR sb, .val .null, vR ar, vI (17 : Int32)] [(.int 0), (.ref o)])) rfl rfl (hb hby d31_24)
  have f7 := Es_o.wr W5
  have f8 := Fv_o.other W5 (Or.inr (slot_ne (Or.inr (hw _ (own_mt 9 rfl))) (Or.inr (hw _ (own_mt 10 rfl))) (by decide) (t := (.array .byte)) (t' := .byte) (by decide) (by decide)))
  have f13 := Vb_ar.other W5 (Ne.symm (own_By.ne Vb_ar Es_o (hw _ (own_mt 7 rfl))))
  have Z14 : n0 ≤ h5.size := Nat.le_trans Z0 (Keep.of_wr W5).1
  have K14 := K0.wr W5 (Or.inl (own_mt 0 rfl))
  have N5 := Fr.snoc X5 N4 gn_o
  refine own_vF m T5 27 #[vR o, vR sb, .val .null, vR ar, vI (17 : Int32)] [] (fun t k => st5 t k) ?_
  refine own_vF m T5 28 #[vR o, vR sb, .val .null, vR ar, vI (17 : Int32)] [(.ref o)] (fun t k => XS.aloadN X5.here hx rfl (hb hby d31_27) rfl rfl k) ?_
  refine own_vF m T5 29 #[vR o, vR sb, .val .null, vR ar, vI (17 : Int32)] [(.ref ar), (.ref o)] (fun t k => XS.aloadN X5.here hx rfl (hb hby d31_28) rfl rfl k) ?_
  refine own_vF m T5 30 #[vR o, vR sb, .val .null, vR ar, vI (17 : Int32)] [(.int 0), (.ref ar), (.ref o)] (fun t k => XS.iconst X5.here hx rfl (hb hby d31_29) k) ?_
  refine own_vF m T5 32 #[vR o, vR sb, .val .null, vR ar, vI (17 : Int32)] [(.int 17), (.int 0), (.ref ar), (.ref o)] (fun t k => XS.iload X5.here hx rfl (hb hby d31_30) rfl k) ?_
  obtain ⟨_, T15, L15, X15, hQ15, st15⟩ := own_callS X5 hx hZ (y := (⟨"java/util/Arrays", "copyOfRange", "([BII)[B"⟩ : MethodName)) (W := 1) hown (hw _ (own_mt 187 rfl)) (hw _ (own_mt 188 rfl)) (hw _ (own_mt 130 rfl)) (hw _ (own_mt 189 rfl)) (by decide) (rm_Qcr17 l Z a0 hw ar h5 n0 Z14 f13) (by decide) (by decide) e5 (g := (mkF m 32 #[vR o, vR sb, .val .null, vR ar, vI (17 : Int32)] [(.int 17), (.int 0), (.ref ar), (.ref o)])) rfl (by rw [hml]; rfl) (argsL := [(.ref ar), (.int 0), (.int 17)]) (rest := [(.ref o)]) rfl (lenOf pd_ABII__AB rfl) rfl own_w0 (hb hby d31_32) (by decide) (by decide)
  obtain ⟨r15, rfl, N15q, K15q, sq_r15, V15q⟩ := hQ15
  have N15 := Fr.app N5 N15q
  have f20 := f7.keep K15q
  have f21 := f8.keep K15q nin0
  have K28 := K14.trans K15q all0
  refine own_vF m T15 35 #[vR o, vR sb, .val .null, vR ar, vI (17 : Int32)] [(.ref r15), (.ref o)] (fun t k => st15 t k) ?_
  obtain ⟨T29, h29, X29, e29, W29, st29⟩ := putF (host := "") X15 hx hZ hown (Or.inl (hw _ (own_mt 43 rfl))) Via.refl rfl f21 f20 (Or.inr ⟨(hw _ (own_mt 9 rfl)), rfl, hnm⟩) (hw _ (own_mt 7 rfl)) (ty := (.array .byte)) (by decide) rfl rfl (g := (mkF m 35 #[vR o, vR sb, .val .null, vR ar, vI (17 : Int32)] [(.ref r15), (.ref o)])) rfl rfl (hb hby d31_35)
  have K39 := K28.wr W29 (Or.inl (own_mt 0 rfl))
  have N29 := Fr.snoc X29 N15 gn_o
  refine own_vF m T29 38 #[vR o, vR sb, .val .null, vR ar, vI (17 : Int32)] [] (fun t k => st29 t k) ?_
  refine own_vF m T29 97 #[vR o, vR sb, .val .null, vR ar, vI (17 : Int32)] [] (fun t k => XS.goto X29.here hx rfl (pc0 := 38) (pc' := 97) rfl (hb hby d31_38) (by decide) (by decide) k) ?_
  exact own_ret X29 (v := none) (fun _ => rfl) hlk (fun fs hr => X29.returnOut hx hret (hb hby d31_97) hr) (by rw [e29]; exact ⟨rfl, N29, K39⟩) (by decide) (by decide)
def Qv117 (Z : State) (o sb ar : Addr) (cs : Int32) (ci ca : Addr) (h0 : Heap) (n0 : Nat) (v : Option Value) (h : Heap) (L : List Loc) : Prop := v = none ∧ Fr n0 L ∧ Keep h0 h [o]
set_option maxRecDepth 65536 in
set_option maxHeartbeats 40000000 in
theorem rm_Qv117 (l : Launch) (Z : State) (a0 : Array Value) (hw : ∀ d ∈ tables_1, d.before a0 Z = true) (o sb ar : Addr) (cs : Int32) (ci ca : Addr) (h0 : Heap) (n0 : Nat) (Z0 : n0 ≤ h0.size) (Od : Old Z n0 h0) (SS : own_SS Z cs ci ca) (Es_o : Exa Z h0 o "java/lang/String") (Fv_o : Fld Z h0 o "java/lang/String" "value" "[B" .null) (Fc_o : Fld Z h0 o "java/lang/String" "coder" "B" (.int 0)) (gn_o : n0 ≤ o) (Eo_sb : Exa Z h0 sb "java/lang/StringBuilder") (Fv_sb : Fld Z h0 sb "java/lang/AbstractStringBuilder" "value" "[B" (.ref ar)) (Fc_sb : Fld Z h0 sb "java/lang/AbstractStringBuilder" "coder" "B" (.int 0)) (Fn_sb : Fld Z h0 sb "java/lang/AbstractStringBuilder" "count" "I" (.int 17)) (Vb_ar : own_By Z h0 ar (34 : Int32)) :
    own_MG l Z ((⟨"java/lang/String", "<init>", "(Ljava/lang/StringBuilder;)V"⟩ : MethodName)) jdk_42_method_53_code 2 none ({ frames := 4, cells := 1, slots := 17, locals := 107 } : Room) #[(.ref o), (.ref sb)] h0 (Qv117 Z o sb ar cs ci ca h0 n0) := by
  refine own_mkG (plainFor_of_name pn_java_lang_String) ?_
  intro p e s m below meth c s₁ X0 hx hby hml hown hnm hret hlk hZ e0
  have N0 := Fr.nil n0
  have K0 := Keep.refl h0 [o]
  rw [ef_RR2 m o sb]
  refine own_vF m s₁ 1 #[vR o, vR sb] [(.ref o)] (fun t k => XS.aloadN X0.here hx rfl (hb hby d32_0) rfl rfl k) ?_
  refine own_vF m s₁ 2 #[vR o, vR sb] [(.ref sb), (.ref o)] (fun t k => XS.aloadN X0.here hx rfl (hb hby d32_1) rfl rfl k) ?_
  refine own_vF m s₁ 3 #[vR o, vR sb] [.null, (.ref sb), (.ref o)] (fun t k => XS.aconstNull X0.here hx rfl (hb hby d32_2) k) ?_
  obtain ⟨_, T1, L1, X1, hQ1, st1⟩ := own_callI X0 hx hZ (y := (⟨"java/lang/String", "<init>", "(Ljava/lang/AbstractStringBuilder;Ljava/lang/Void;)V"⟩ : MethodName)) rfl (W := 0) hown (hw _ (own_mt 165 rfl)) (hw _ (own_mt 166 rfl)) (hw _ (own_mt 6 rfl)) (hw _ (own_mt 167 rfl)) (by decide) (rm_Qv217 l Z a0 hw o sb ar cs ci ca h0 n0 Z0 Od SS Es_o Fv_o Fc_o gn_o Eo_sb Fv_sb Fc_sb Fn_sb Vb_ar) (by decide) (by decide) e0 (a := o) (g := (mkF m 3 #[vR o, vR sb] [.null, (.ref sb), (.ref o)])) rfl (by rw [hml]; rfl) (argsL := [(.ref sb), .null]) (rest := []) rfl (lenOf pd_Ljava_lang_AbstractStringBuilder_Ljava_lang_Void___V rfl) rfl own_w0 (hb hby d32_3) (by decide) (by decide)
  obtain ⟨rfl, N1q, K1q⟩ := hQ1
  have N1 := Fr.app N0 N1q
  have K9 := K0.trans K1q (allS (Or.inl (own_mt 0 rfl)) all0)
  refine own_vF m T1 6 #[vR o, vR sb] [] (fun t k => st1 t k) ?_
  exact own_ret X1 (v := none) (fun _ => rfl) hlk (fun fs hr => X1.returnOut hx hret (hb hby d32_6) hr) (by exact ⟨rfl, N1, K9⟩) (by decide) (by decide)
def Qts17 (Z : State) (sb ar : Addr) (cs : Int32) (ci ca : Addr) (h0 : Heap) (n0 : Nat) (v : Option Value) (h : Heap) (L : List Loc) : Prop := ∃ r, v = some (.ref r) ∧ Fr n0 L ∧ Keep h0 h []
set_option maxRecDepth 65536 in
set_option maxHeartbeats 40000000 in
theorem rm_Qts17 (l : Launch) (Z : State) (a0 : Array Value) (hw : ∀ d ∈ tables_1, d.before a0 Z = true) (sb ar : Addr) (cs : Int32) (ci ca : Addr) (h0 : Heap) (n0 : Nat) (Z0 : n0 ≤ h0.size) (Od : Old Z n0 h0) (SS : own_SS Z cs ci ca) (Eo_sb : Exa Z h0 sb "java/lang/StringBuilder") (Fv_sb : Fld Z h0 sb "java/lang/AbstractStringBuilder" "value" "[B" (.ref ar)) (Fc_sb : Fld Z h0 sb "java/lang/AbstractStringBuilder" "coder" "B" (.int 0)) (Fn_sb : Fld Z h0 sb "java/lang/AbstractStringBuilder" "count" "I" (.int 17)) (Vb_ar : own_By Z h0 ar (34 : Int32)) :
    own_MG l Z ((⟨"java/lang/StringBuilder", "toString", "()Ljava/lang/String;"⟩ : MethodName)) jdk_67_method_42_code 1 (some (.object "java/lang/String")) ({ frames := 5, cells := 2, slots := 21, locals := 121 } : Room) #[(.ref sb)] h0 (Qts17 Z sb ar cs ci ca h0 n0) := by
  refine own_mkG (plainFor_of_name pn_java_lang_StringBuilder) ?_
  intro p e s m below meth c s₁ X0 hx hby hml hown hnm hret hlk hZ e0
  have N0 := Fr.nil n0
  have K0 := Keep.refl h0 []
  rw [ef_R1 m sb]
  obtain ⟨T1, h1, X1, e1, E1, A1, D1, -, st1⟩ := newO X0 hx hZ hown (hw _ (own_mt 161 rfl)) (hw _ (own_mt 7 rfl)) (hw _ (own_mt 6 rfl)) e0 (g := (mkF m 0 #[vR sb] [])) rfl (hb hby d33_0) (by decide) (by decide)
  obtain ⟨b1, g1⟩ : ∃ z, z = h0.size := ⟨_, rfl⟩
  rw [← g1] at A1 D1 st1
  have gn_b1 : n0 ≤ b1 := Nat.le_trans Z0 (Nat.le_of_eq g1.symm)
  have sz_b1 : h0.size ≤ b1 := Nat.le_trans K0.1 (Nat.le_of_eq g1.symm)
  have f4 := Od.ext E1
  have f5 := Eo_sb.ext E1
  have f6 := Fv_sb.ext E1
  have f7 := Fc_sb.ext E1
  have f8 := Fn_sb.ext E1
  have f9 := Vb_ar.ext E1
  have f10 : Fld Z h1 b1 "java/lang/String" "value" "[B" .null := D1 (Or.inr (hw _ (own_mt 9 rfl))) (ty := (.array .byte)) (by decide)
  have f11 : Fld Z h1 b1 "java/lang/String" "coder" "B" (.int 0) := D1 (Or.inr (hw _ (own_mt 10 rfl))) (ty := .byte) (by decide)
  have Z12 : n0 ≤ h1.size := Nat.le_trans Z0 E1.1
  have K12 := K0.ext E1
  refine own_vF m T1 3 #[vR sb] [(.ref b1)] (fun t k => st1 t k) ?_
  refine own_vF m T1 4 #[vR sb] [(.ref b1), (.ref b1)] (fun t k => XS.dup X1.here hx rfl (hb hby d33_3) rfl rfl k) ?_
  refine own_vF m T1 5 #[vR sb] [(.ref sb), (.ref b1), (.ref b1)] (fun t k => XS.aloadN X1.here hx rfl (hb hby d33_4) rfl rfl k) ?_
  obtain ⟨_, T13, L13, X13, hQ13, st13⟩ := own_callI X1 hx hZ (y := (⟨"java/lang/String", "<init>", "(Ljava/lang/StringBuilder;)V"⟩ : MethodName)) rfl (W := 1) hown (hw _ (own_mt 162 rfl)) (hw _ (own_mt 163 rfl)) (hw _ (own_mt 6 rfl)) (hw _ (own_mt 164 rfl)) (by decide) (rm_Qv117 l Z a0 hw b1 sb ar cs ci ca h1 n0 Z12 f4 SS A1 f10 f11 gn_b1 f5 f6 f7 f8 f9) (by decide) (by decide) e1 (a := b1) (g := (mkF m 5 #[vR sb] [(.ref sb), (.ref b1), (.ref b1)])) rfl (by rw [hml]; rfl) (argsL := [(.ref sb)]) (rest := [(.ref b1)]) rfl (lenOf pd_Ljava_lang_StringBuilder___V rfl) rfl own_w0 (hb hby d33_5) (by decide) (by decide)
  obtain ⟨rfl, N13q, K13q⟩ := hQ13
  have N13 := Fr.app N0 N13q
  have K21 := K12.trans K13q (allS (Or.inr sz_b1) all0)
  refine own_vF m T13 8 #[vR sb] [(.ref b1)] (fun t k => st13 t k) ?_
  exact own_ret X13 (v := some (.ref b1)) (fun h => by rw [hret] at h; cases h) hlk (fun fs hr => retOut X13 hx (t := (.object "java/lang/String")) hret rfl (Or.inr (Or.inr (Or.inr (Or.inr ⟨rfl, rfl, rfl⟩)))) (hb hby d33_8) hr) (by exact ⟨b1, rfl, N13, K21⟩) (by decide) (by decide)
def Qfi (Z : State) (x1 : UInt64) (h0 : Heap) (n0 : Nat) (v : Option Value) (h : Heap) (L : List Loc) : Prop := v = some (.int 1) ∧ Fr n0 L ∧ h = h0
theorem d34_0 : decode jdk_117_method_8_code 0 = .ok (.dload_n 0, 1) := by decide +kernel
theorem pd_D__D : parseMethodDescriptor "(D)D" = some ⟨[.double], some .double⟩ := by decide +kernel
theorem d34_1 : decode jdk_117_method_8_code 1 = .ok (.invokestatic 38, 3) := by decide +kernel
theorem d34_4 : decode jdk_117_method_8_code 4 = .ok (.ldc2_w 111, 3) := by decide +kernel
theorem d34_7 : decode jdk_117_method_8_code 7 = .ok (.dcmp .g, 1) := by decide +kernel
theorem d34_8 : decode jdk_117_method_8_code 8 = .ok (.ifCond .gt 7, 3) := by decide +kernel
theorem d34_11 : decode jdk_117_method_8_code 11 = .ok (.iconst 1, 1) := by decide +kernel
theorem d34_12 : decode jdk_117_method_8_code 12 = .ok (.goto 4, 3) := by decide +kernel
theorem d34_16 : decode jdk_117_method_8_code 16 = .ok (.ireturn, 1) := by decide +kernel
theorem ef_D2 (m : MethodId) (x0 : UInt64) : entryFrame m #[(.double x0)] 2 = mkF m 0 #[.val (.double x0), .second] [] := by first | (simp [entryFrame, mkF, argsToLocals, Value.category]; done) | rfl
theorem pf_rm_Qfi : plainFor (⟨"java/lang/Double", "isFinite", "(D)Z"⟩ : MethodName) = true := by decide +kernel
set_option maxRecDepth 65536 in
set_option maxHeartbeats 40000000 in
theorem rm_Qfi (l : Launch) (Z : State) (a0 : Array Value) (hw : ∀ d ∈ tables_1, d.before a0 Z = true) (x1 : UInt64) (h0 : Heap) (n0 : Nat) (Z0 : n0 ≤ h0.size) (hf : Fin64 x1) :
    own_MG l Z ((⟨"java/lang/Double", "isFinite", "(D)Z"⟩ : MethodName)) jdk_117_method_8_code 2 (some .boolean) ({ frames := 1, cells := 0, slots := 0, locals := 13 } : Room) #[(.double x1)] h0 (Qfi Z x1 h0 n0) := by
  refine own_mkG pf_rm_Qfi ?_
  intro p e s m below meth c s₁ X0 hx hby hml hown hnm hret hlk hZ e0
  have N0 := Fr.nil n0
  rw [ef_D2 m x1]
  refine own_vF m s₁ 1 #[.val (.double x1), .second] [(.double x1)] (fun t k => XS.dloadN X0.here hx rfl (hb hby d34_0) rfl k) ?_
  obtain ⟨T1, X1, e1, st1⟩ := natS (F := fun a' => a' = #[.double x1] ∧ NoNaN64 x1) (val := .double (x1 &&& 0x7fffffffffffffff)) (val' := .double (x1 &&& 9223372036854775807)) X0 hx hZ (y := Jvm.Free.Fl.Abs.absDN) (by0 := Jvm.Free.Fl.Abs.absDCode) (W := 0) hown (hw _ (own_mt 204 rfl)) (hw _ (own_mt 205 rfl)) (hw _ (own_mt 124 rfl)) (hw _ (own_mt 206 rfl)) (by decide) e0 (fun hc => Jvm.Free.Fl.Abs.absD_pays x1 hc (by decide) (by decide)) (g := (mkF m 1 #[.val (.double x1), .second] [(.double x1)])) rfl (by rw [hml]; rfl) (argsL := [(.double x1)]) (rest := []) (lenOf pd_D__D rfl) rfl own_w0 (hb hby d34_1) (by decide) (by decide) ⟨rfl, hf.noNaN⟩ rfl
  refine own_vF m T1 4 #[.val (.double x1), .second] [(.double (x1 &&& 9223372036854775807))] (fun t k => st1 t k) ?_
  refine own_vF m T1 7 #[.val (.double x1), .second] [(.double (9218868437227405311 : UInt64)), (.double (x1 &&& 9223372036854775807))] (fun t k => X1.ldc2DoubleC hx hown (mvT hZ (hw _ (own_mt 207 rfl))) (g := (mkF m 4 #[.val (.double x1), .second] [(.double (x1 &&& 9223372036854775807))])) rfl (hb hby d34_4) _ k) ?_
  refine own_vF m T1 8 #[.val (.double x1), .second] [(.int (cmpValue (FP.dcmp (x1 &&& 9223372036854775807) (9218868437227405311 : UInt64)) .g))] (fun t k => XS.dcmpS X1.here hx rfl (hb hby d34_7) rfl rfl k) ?_
  refine own_vF m T1 11 #[.val (.double x1), .second] [] (fun t k => XS.ifNo X1.here hx rfl (hb hby d34_8) rfl ((if0 _ _).trans (flt (own_isfin hf)).2.2.1) k) ?_
  refine own_vF m T1 12 #[.val (.double x1), .second] [(.int 1)] (fun t k => XS.iconst X1.here hx rfl (hb hby d34_11) k) ?_
  refine own_vF m T1 16 #[.val (.double x1), .second] [(.int 1)] (fun t k => XS.goto X1.here hx rfl (pc0 := 12) (pc' := 16) rfl (hb hby d34_12) (by decide) (by decide) k) ?_
  exact own_ret X1 (v := some (.int 1)) (fun h => by rw [hret] at h; cases h) hlk (fun fs hr => retN X1 hx (t := .boolean) hret (by simp) (hb hby d34_16) hr) (by rw [e1]; exact ⟨rfl, N0, rfl⟩) (by decide) (by decide)
def Qpo (Z : State) (x1 : UInt64) (ms : Addr) (h0 : Heap) (n0 : Nat) (v : Option Value) (h : Heap) (L : List Loc) : Prop := v = some (.double x1) ∧ Fr n0 L ∧ h = h0
theorem d35_0 : decode prog_14_method_2_code 0 = .ok (.dload_n 0, 1) := by decide +kernel
theorem d35_1 : decode prog_14_method_2_code 1 = .ok (.dconst 0, 1) := by decide +kernel
theorem d35_2 : decode prog_14_method_2_code 2 = .ok (.dcmp .l, 1) := by decide +kernel
theorem d35_3 : decode prog_14_method_2_code 3 = .ok (.ifCond .le 10, 3) := by decide +kernel
theorem d35_6 : decode prog_14_method_2_code 6 = .ok (.dload_n 0, 1) := by decide +kernel
theorem pd_D__Z : parseMethodDescriptor "(D)Z" = some ⟨[.double], some .boolean⟩ := by decide +kernel
theorem d35_7 : decode prog_14_method_2_code 7 = .ok (.invokestatic 7, 3) := by decide +kernel
theorem d35_10 : decode prog_14_method_2_code 10 = .ok (.ifCond .ne 34, 3) := by decide +kernel
theorem d35_44 : decode prog_14_method_2_code 44 = .ok (.dload_n 0, 1) := by decide +kernel
theorem d35_45 : decode prog_14_method_2_code 45 = .ok (.dreturn, 1) := by decide +kernel
theorem ef_DR3 (m : MethodId) (x0 : UInt64) (x1 : Addr) : entryFrame m #[(.double x0), (.ref x1)] 3 = mkF m 0 #[.val (.double x0), .second, vR x1] [] := by first | (simp [entryFrame, mkF, argsToLocals, Value.category]; done) | rfl
theorem pn_com_example_lightpath_planner_lightpathplanner_Require : plainName "com/example/lightpath_planner/lightpathplanner/Require" = true := by first | (simp [plainName, overriddenIn]; done) | decide +kernel
set_option maxRecDepth 65536 in
set_option maxHeartbeats 40000000 in
theorem rm_Qpo (l : Launch) (Z : State) (a0 : Array Value) (hw : ∀ d ∈ tables_1, d.before a0 Z = true) (x1 : UInt64) (ms : Addr) (h0 : Heap) (n0 : Nat) (Z0 : n0 ≤ h0.size) (hp : cmpValue (FP.dcmp x1 0) .l = 1) (hf : Fin64 x1) :
    own_MG l Z ((⟨"com/example/lightpath_planner/lightpathplanner/Require", "positive", "(DLjava/lang/String;)D"⟩ : MethodName)) prog_14_method_2_code 3 (some .double) ({ frames := 2, cells := 0, slots := 0, locals := 26 } : Room) #[(.double x1), (.ref ms)] h0 (Qpo Z x1 ms h0 n0) := by
  refine own_mkG (plainFor_of_name pn_com_example_lightpath_planner_lightpathplanner_Require) ?_
  intro p e s m below meth c s₁ X0 hx hby hml hown hnm hret hlk hZ e0
  have N0 := Fr.nil n0
  rw [ef_DR3 m x1 ms]
  refine own_vF m s₁ 1 #[.val (.double x1), .second, vR ms] [(.double x1)] (fun t k => XS.dloadN X0.here hx rfl (hb hby d35_0) rfl k) ?_
  refine own_vF m s₁ 2 #[.val (.double x1), .second, vR ms] [(.double (0 : UInt64)), (.double x1)] (fun t k => XS.dconst0 X0.here hx rfl (hb hby d35_1) rfl k) ?_
  refine own_vF m s₁ 3 #[.val (.double x1), .second, vR ms] [(.int 1)] (fun t k => XS.dcmpS X0.here hx rfl (hb hby d35_2) rfl hp k) ?_
  refine own_vF m s₁ 6 #[.val (.double x1), .second, vR ms] [] (fun t k => XS.ifNo X0.here hx rfl (hb hby d35_3) rfl ((if0 _ _).trans (tlt (by decide : ((0 : Int32) < (1 : Int32)))).2.2.2) k) ?_
  refine own_vF m s₁ 7 #[.val (.double x1), .second, vR ms] [(.double x1)] (fun t k => XS.dloadN X0.here hx rfl (hb hby d35_6) rfl k) ?_
  obtain ⟨_, T1, L1, X1, hQ1, st1⟩ := own_callS X0 hx hZ (y := (⟨"java/lang/Double", "isFinite", "(D)Z"⟩ : MethodName)) (W := 0) hown (hw _ (own_mt 200 rfl)) (hw _ (own_mt 201 rfl)) (hw _ (own_mt 202 rfl)) (hw _ (own_mt 203 rfl)) (by decide) (rm_Qfi l Z a0 hw x1 h0 n0 Z0 hf) (by decide) (by decide) e0 (g := (mkF m 7 #[.val (.double x1), .second, vR ms] [(.double x1)])) rfl (by rw [hml]; rfl) (argsL := [(.double x1)]) (rest := []) rfl (lenOf pd_D__Z rfl) rfl own_w0 (hb hby d35_7) (by decide) (by decide)
  obtain ⟨rfl, N1q, e1⟩ := hQ1
  have N1 := Fr.app N0 N1q
  refine own_vF m T1 10 #[.val (.double x1), .second, vR ms] [(.int 1)] (fun t k => st1 t k) ?_
  refine own_vF m T1 44 #[.val (.double x1), .second, vR ms] [] (fun t k => XS.ifYes X1.here hx rfl (pc0 := 10) (pc' := 44) rfl (hb hby d35_10) rfl ((if0 _ _).trans (feq (by decide : ¬ ((1 : Int32) = (0 : Int32)))).2) (by decide) (by decide) k) ?_
  refine own_vF m T1 45 #[.val (.double x1), .second, vR ms] [(.double x1)] (fun t k => XS.dloadN X1.here hx rfl (hb hby d35_44) rfl k) ?_
  exact own_ret X1 (v := some (.double x1)) (fun h => by rw [hret] at h; cases h) hlk (fun fs hr => retOut X1 hx (t := .double) hret rfl (Or.inr (Or.inr (Or.inl ⟨rfl, rfl, _, rfl⟩))) (hb hby d35_45) hr) (by rw [e1]; exact ⟨rfl, N1, rfl⟩) (by decide) (by decide)
def Qre (Z : State) (o : Addr) (rd y : UInt64) (x1 x2 : Int64) (h0 : Heap) (n0 : Nat) (v : Option Value) (h : Heap) (L : List Loc) : Prop := v = some (.int (if x1 < x2 then (0 : Int32) else (1 : Int32))) ∧ Fr n0 L ∧ h = h0
theorem d36_0 : decode prog_10_method_5_code 0 = .ok (.aload_n 0, 1) := by decide +kernel
theorem d36_1 : decode prog_10_method_5_code 1 = .ok (.getfield 59, 3) := by decide +kernel
theorem d36_4 : decode prog_10_method_5_code 4 = .ok (.dload_n 1, 1) := by decide +kernel
theorem d36_5 : decode prog_10_method_5_code 5 = .ok (.dcmp .l, 1) := by decide +kernel
theorem d36_6 : decode prog_10_method_5_code 6 = .ok (.ifCond .lt 7, 3) := by decide +kernel
theorem d36_13 : decode prog_10_method_5_code 13 = .ok (.iconst 0, 1) := by decide +kernel
theorem d36_14 : decode prog_10_method_5_code 14 = .ok (.ireturn, 1) := by decide +kernel
theorem d36_9 : decode prog_10_method_5_code 9 = .ok (.iconst 1, 1) := by decide +kernel
theorem d36_10 : decode prog_10_method_5_code 10 = .ok (.goto 4, 3) := by decide +kernel
theorem ef_RD3 (m : MethodId) (x0 : Addr) (x1 : UInt64) : entryFrame m #[(.ref x0), (.double x1)] 3 = mkF m 0 #[vR x0, .val (.double x1), .second] [] := by first | (simp [entryFrame, mkF, argsToLocals, Value.category]; done) | rfl
theorem pn_com_example_lightpath_planner_lightpathplanner_ModulationFormat : plainName "com/example/lightpath_planner/lightpathplanner/ModulationFormat" = true := by first | (simp [plainName, overriddenIn]; done) | decide +kernel
set_option maxRecDepth 65536 in
set_option maxHeartbeats 40000000 in
theorem rm_Qre (l : Launch) (Z : State) (a0 : Array Value) (hw : ∀ d ∈ tables_1, d.before a0 Z = true) (o : Addr) (rd y : UInt64) (x1 x2 : Int64) (h0 : Heap) (n0 : Nat) (Z0 : n0 ≤ h0.size) (Fr_o : Fld Z h0 o "com/example/lightpath_planner/lightpathplanner/ModulationFormat" "reachKm" "D" (.double rd)) (hq : cmpValue (FP.dcmp rd y) .l = lcmpW x1 x2) :
    own_MG l Z ((⟨"com/example/lightpath_planner/lightpathplanner/ModulationFormat", "reaches", "(D)Z"⟩ : MethodName)) prog_10_method_5_code 3 (some .boolean) ({ frames := 0, cells := 0, slots := 0, locals := 0 } : Room) #[(.ref o), (.double y)] h0 (Qre Z o rd y x1 x2 h0 n0) := by
  refine own_mkG (plainFor_of_name pn_com_example_lightpath_planner_lightpathplanner_ModulationFormat) ?_
  intro p e s m below meth c s₁ X0 hx hby hml hown hnm hret hlk hZ e0
  have N0 := Fr.nil n0
  rw [ef_RD3 m o y]
  refine own_vF m s₁ 1 #[vR o, .val (.double y), .second] [(.ref o)] (fun t k => XS.aloadN X0.here hx rfl (hb hby d36_0) rfl rfl k) ?_
  obtain ⟨T1, X1, e1, st1⟩ := getF (host := "") X0 hx hZ hown (Or.inl (hw _ (own_mt 211 rfl))) Via.refl e0 Fr_o (g := (mkF m 1 #[vR o, .val (.double y), .second] [(.ref o)])) rfl rfl (hb hby d36_1)
  refine own_vF m T1 4 #[vR o, .val (.double y), .second] [(.double rd)] (fun t k => st1 t k) ?_
  refine own_vF m T1 5 #[vR o, .val (.double y), .second] [(.double y), (.double rd)] (fun t k => XS.dloadN X1.here hx rfl (hb hby d36_4) rfl k) ?_
  refine own_vF m T1 6 #[vR o, .val (.double y), .second] [(.int (lcmpW x1 x2))] (fun t k => XS.dcmpS X1.here hx rfl (hb hby d36_5) rfl hq k) ?_
  by_cases hc2 : x1 < x2
  case pos =>
    refine own_vF m T1 13 #[vR o, .val (.double y), .second] [] (fun t k => XS.ifYes X1.here hx rfl (pc0 := 6) (pc' := 13) rfl (hb hby d36_6) rfl (own_jlt hc2).1 (by decide) (by decide) k) ?_
    refine own_vF m T1 14 #[vR o, .val (.double y), .second] [(.int 0)] (fun t k => XS.iconst X1.here hx rfl (hb hby d36_13) k) ?_
    exact own_ret X1 (v := some (.int 0)) (fun h => by rw [hret] at h; cases h) hlk (fun fs hr => retN X1 hx (t := .boolean) hret (by simp) (hb hby d36_14) hr) (by rw [e1]; exact ⟨by first | rfl | (simp only [if_pos hc2]), N0, rfl⟩) (by decide) (by decide)
  case neg =>
    refine own_vF m T1 9 #[vR o, .val (.double y), .second] [] (fun t k => XS.ifNo X1.here hx rfl (hb hby d36_6) rfl (own_jnlt hc2).1 k) ?_
    refine own_vF m T1 10 #[vR o, .val (.double y), .second] [(.int 1)] (fun t k => XS.iconst X1.here hx rfl (hb hby d36_9) k) ?_
    refine own_vF m T1 14 #[vR o, .val (.double y), .second] [(.int 1)] (fun t k => XS.goto X1.here hx rfl (pc0 := 10) (pc' := 14) rfl (hb hby d36_10) (by decide) (by decide) k) ?_
    exact own_ret X1 (v := some (.int 1)) (fun h => by rw [hret] at h; cases h) hlk (fun fs hr => retN X1 hx (t := .boolean) hret (by simp) (hb hby d36_14) hr) (by rw [e1]; exact ⟨by first | rfl | (simp only [if_neg hc2]), N0, rfl⟩) (by decide) (by decide)
def Qmf (Z : State) (o sg sa : Addr) (kk : ClassId) (rd : UInt64) (cs : Int32) (ci ca : Addr) (h0 : Heap) (n0 : Nat) (v : Option Value) (h : Heap) (L : List Loc) : Prop := v = none ∧ Fr n0 L ∧ Keep h0 h [o] ∧ Exa Z h o "com/example/lightpath_planner/lightpathplanner/ModulationFormat" ∧ Fld Z h o "com/example/lightpath_planner/lightpathplanner/ModulationFormat" "reachKm" "D" (.double rd)
theorem d37_0 : decode prog_10_method_1_code 0 = .ok (.aload_n 0, 1) := by decide +kernel
theorem d37_1 : decode prog_10_method_1_code 1 = .ok (.invokespecial 1, 3) := by decide +kernel
theorem d37_4 : decode prog_10_method_1_code 4 = .ok (.aload_n 1, 1) := by decide +kernel
theorem d37_5 : decode prog_10_method_1_code 5 = .ok (.ldc 7, 2) := by decide +kernel
theorem pd_Ljava_lang_Object_Ljava_lang_String___Ljava_lang_Object_ : parseMethodDescriptor "(Ljava/lang/Object;Ljava/lang/String;)Ljava/lang/Object;" = some ⟨[(.object "java/lang/Object"), (.object "java/lang/String")], some (.object "java/lang/Object")⟩ := by decide +kernel
theorem d37_7 : decode prog_10_method_1_code 7 = .ok (.invokestatic 9, 3) := by decide +kernel
theorem d37_10 : decode prog_10_method_1_code 10 = .ok (.checkcast 15, 3) := by decide +kernel
theorem d37_13 : decode prog_10_method_1_code 13 = .ok (.invokevirtual 17, 3) := by decide +kernel
theorem d37_16 : decode prog_10_method_1_code 16 = .ok (.ifCond .eq 13, 3) := by decide +kernel
theorem d37_29 : decode prog_10_method_1_code 29 = .ok (.aload_n 0, 1) := by decide +kernel
theorem d37_30 : decode prog_10_method_1_code 30 = .ok (.aload_n 1, 1) := by decide +kernel
theorem d37_31 : decode prog_10_method_1_code 31 = .ok (.putfield 28, 3) := by decide +kernel
theorem d37_34 : decode prog_10_method_1_code 34 = .ok (.aload_n 0, 1) := by decide +kernel
theorem d37_35 : decode prog_10_method_1_code 35 = .ok (.dload_n 2, 1) := by decide +kernel
theorem d37_36 : decode prog_10_method_1_code 36 = .ok (.new 34, 3) := by decide +kernel
theorem d37_39 : decode prog_10_method_1_code 39 = .ok (.dup, 1) := by decide +kernel
theorem pd___V : parseMethodDescriptor "()V" = some ⟨[], none⟩ := by decide +kernel
theorem d37_40 : decode prog_10_method_1_code 40 = .ok (.invokespecial 36, 3) := by decide +kernel
theorem d37_43 : decode prog_10_method_1_code 43 = .ok (.ldc 37, 2) := by decide +kernel
theorem pd_Ljava_lang_String___Ljava_lang_StringBuilder_ : parseMethodDescriptor "(Ljava/lang/String;)Ljava/lang/StringBuilder;" = some ⟨[(.object "java/lang/String")], some (.object "java/lang/StringBuilder")⟩ := by decide +kernel
theorem d37_45 : decode prog_10_method_1_code 45 = .ok (.invokevirtual 39, 3) := by decide +kernel
theorem d37_48 : decode prog_10_method_1_code 48 = .ok (.aload_n 1, 1) := by decide +kernel
theorem d37_49 : decode prog_10_method_1_code 49 = .ok (.invokevirtual 39, 3) := by decide +kernel
theorem pd___Ljava_lang_String_ : parseMethodDescriptor "()Ljava/lang/String;" = some ⟨[], some (.object "java/lang/String")⟩ := by decide +kernel
theorem d37_52 : decode prog_10_method_1_code 52 = .ok (.invokevirtual 43, 3) := by decide +kernel
theorem pd_DLjava_lang_String___D : parseMethodDescriptor "(DLjava/lang/String;)D" = some ⟨[.double, (.object "java/lang/String")], some .double⟩ := by decide +kernel
theorem d37_55 : decode prog_10_method_1_code 55 = .ok (.invokestatic 47, 3) := by decide +kernel
theorem d37_58 : decode prog_10_method_1_code 58 = .ok (.putfield 53, 3) := by decide +kernel
theorem d37_61 : decode prog_10_method_1_code 61 = .ok (.aload_n 0, 1) := by decide +kernel
theorem d37_62 : decode prog_10_method_1_code 62 = .ok (.dload 4, 2) := by decide +kernel
theorem d37_64 : decode prog_10_method_1_code 64 = .ok (.new 34, 3) := by decide +kernel
theorem d37_67 : decode prog_10_method_1_code 67 = .ok (.dup, 1) := by decide +kernel
theorem d37_68 : decode prog_10_method_1_code 68 = .ok (.invokespecial 36, 3) := by decide +kernel
theorem d37_71 : decode prog_10_method_1_code 71 = .ok (.ldc 57, 2) := by decide +kernel
theorem d37_73 : decode prog_10_method_1_code 73 = .ok (.invokevirtual 39, 3) := by decide +kernel
theorem d37_76 : decode prog_10_method_1_code 76 = .ok (.aload_n 1, 1) := by decide +kernel
theorem d37_77 : decode prog_10_method_1_code 77 = .ok (.invokevirtual 39, 3) := by decide +kernel
theorem d37_80 : decode prog_10_method_1_code 80 = .ok (.invokevirtual 43, 3) := by decide +kernel
theorem d37_83 : decode prog_10_method_1_code 83 = .ok (.invokestatic 47, 3) := by decide +kernel
theorem d37_86 : decode prog_10_method_1_code 86 = .ok (.putfield 59, 3) := by decide +kernel
theorem d37_89 : decode prog_10_method_1_code 89 = .ok (.return_, 1) := by decide +kernel
theorem ef_RRDD6 (m : MethodId) (x0 : Addr) (x1 : Addr) (x2 : UInt64) (x3 : UInt64) : entryFrame m #[(.ref x0), (.ref x1), (.double x2), (.double x3)] 6 = mkF m 0 #[vR x0, vR x1, .val (.double x2), .second, .val (.double x3), .second] [] := by first | (simp [entryFrame, mkF, argsToLocals, Value.category]; done) | rfl
set_option maxRecDepth 65536 in
set_option maxHeartbeats 40000000 in
theorem rm_Qmf (l : Launch) (Z : State) (a0 : Array Value) (hw : ∀ d ∈ tables_1, d.before a0 Z = true) (o sg sa : Addr) (kk : ClassId) (rd : UInt64) (cs : Int32) (ci ca : Addr) (h0 : Heap) (n0 : Nat) (Z0 : n0 ≤ h0.size) (Od : Old Z n0 h0) (SS : own_SS Z cs ci ca) (Eo : Exa Z h0 o "com/example/lightpath_planner/lightpathplanner/ModulationFormat") (F_name : Fld Z h0 o "com/example/lightpath_planner/lightpathplanner/ModulationFormat" "name" "Ljava/lang/String;" .null) (F_efficiency : Fld Z h0 o "com/example/lightpath_planner/lightpathplanner/ModulationFormat" "efficiency" "D" (.double (0 : UInt64))) (F_reachKm : Fld Z h0 o "com/example/lightpath_planner/lightpathplanner/ModulationFormat" "reachKm" "D" (.double (0 : UInt64))) (gn_o : n0 ≤ o) (Es_sg : Exa Z h0 sg "java/lang/String") (Fc_sg : Fld Z h0 sg "java/lang/String" "coder" "B" (.int 0)) (Fv_sg : Fld Z h0 sg "java/lang/String" "value" "[B" (.ref sa)) (Vb_sa : Arv Z h0 sa kk .byte (1 : Int32) [.int 70] (.int 0)) (hp : cmpValue (FP.dcmp rd 0) .l = 1) (hf : Fin64 rd) :
    own_MX l Z ((⟨"com/example/lightpath_planner/lightpathplanner/ModulationFormat", "<init>", "(Ljava/lang/String;DD)V"⟩ : MethodName)) prog_10_method_1_code 6 none ({ frames := 6, cells := 16, slots := 400, locals := 136 } : Room) #[(.ref o), (.ref sg), (.double (4607182418800017408 : UInt64)), (.double rd)] h0 (Qmf Z o sg sa kk rd cs ci ca h0 n0) := by
  refine own_mkX (plainFor_of_name pn_com_example_lightpath_planner_lightpathplanner_ModulationFormat) ?_
  intro p e s m below meth c s₁ X0 hx hby hml hown hnm hret hlk hZ e0 hCH
  have hEL := own_hEL hw
  have N0 := Fr.nil n0
  have K0 := Keep.refl h0 [o]
  rw [ef_RRDD6 m o sg (4607182418800017408 : UInt64) rd]
  refine own_vFW m s₁ 1 #[vR o, vR sg, .val (.double (4607182418800017408 : UInt64)), .second, .val (.double rd), .second] [(.ref o)] (fun t k => XS.aloadN X0.here hx rfl (hb hby d37_0) rfl rfl k) ?_
  obtain ⟨T1, X1, e1, st1⟩ := initO X0 hx hZ hown (hw _ (own_mt 16 rfl)) (hw _ (own_mt 17 rfl)) (hw _ (own_mt 18 rfl)) e0 (g := (mkF m 1 #[vR o, vR sg, .val (.double (4607182418800017408 : UInt64)), .second, .val (.double rd), .second] [(.ref o)])) rfl (by rw [hml]; rfl) rfl (hb hby d37_1) (by decide) (W := 0) own_w0 (by decide)
  refine own_vFW m T1 4 #[vR o, vR sg, .val (.double (4607182418800017408 : UInt64)), .second, .val (.double rd), .second] [] (fun t k => st1 t k) ?_
  refine own_vFW m T1 5 #[vR o, vR sg, .val (.double (4607182418800017408 : UInt64)), .second, .val (.double rd), .second] [(.ref sg)] (fun t k => XS.aloadN X1.here hx rfl (hb hby d37_4) rfl rfl k) ?_
  obtain ⟨b2a, T2, h2, k1_2, b2v, k2, X2, e2, E2, hS, hk2, hZ, hown, A2, Fc2, Fv2, V2, -, -, hC2, Li2, hne2, st2⟩ := ldcCH (s := s) (vm0 := s.vm) (vs := [.int 102, .int 111, .int 114, .int 109, .int 97, .int 116, .int 32, .int 110, .int 97, .int 109, .int 101]) (z := (11 : Int32)) X1 hx hZ hown (hw _ (own_mt 19 rfl)) (own_wS hw) e1 ((State.WarmedH.refl s).since 0) (Nat.zero_le _) hEL (own_mt 0 rfl) hCH ⟨by decide, rfl⟩ (by decide) rfl (g := (mkF m 5 #[vR o, vR sg, .val (.double (4607182418800017408 : UInt64)), .second, .val (.double rd), .second] [(.ref sg)])) rfl (hb hby d37_5) (n := 44) (by decide) (by decide) (by decide) (by decide)
  have f3 := Od.ext E2
  have f4 := Eo.ext E2
  have f5 := F_name.ext E2
  have f6 := F_efficiency.ext E2
  have f7 := F_reachKm.ext E2
  have f8 := Es_sg.ext E2
  have f9 := Fc_sg.ext E2
  have f10 := Fv_sg.ext E2
  have f11 := Vb_sa.ext E2
  have Z12 : n0 ≤ h2.size := Nat.le_trans Z0 E2.1
  have K12 := K0.ext E2
  refine own_vFW m T2 7 #[vR o, vR sg, .val (.double (4607182418800017408 : UInt64)), .second, .val (.double rd), .second] [(.ref b2a), (.ref sg)] (fun t k => st2 t k) ?_
  obtain ⟨_, T13, L13, X13, hQ13, st13⟩ := own_callS X2 hx hZ (y := (⟨"java/util/Objects", "requireNonNull", "(Ljava/lang/Object;Ljava/lang/String;)Ljava/lang/Object;"⟩ : MethodName)) (W := 0) hown (hw _ (own_mt 20 rfl)) (hw _ (own_mt 21 rfl)) (hw _ (own_mt 22 rfl)) (hw _ (own_mt 23 rfl)) (by decide) (rm_Qrn l Z a0 hw sg b2a h2 n0 Z12) (by decide) (by decide) e2 (g := (mkF m 7 #[vR o, vR sg, .val (.double (4607182418800017408 : UInt64)), .second, .val (.double rd), .second] [(.ref b2a), (.ref sg)])) rfl (by rw [hml]; rfl) (argsL := [(.ref sg), (.ref b2a)]) (rest := []) rfl (lenOf pd_Ljava_lang_Object_Ljava_lang_String___Ljava_lang_Object_ rfl) rfl own_w0 (hb hby d37_7) (by decide) (by decide)
  obtain ⟨rfl, N13q, e13⟩ := hQ13
  have N13 := Fr.app N0 N13q
  refine own_vFW m T13 10 #[vR o, vR sg, .val (.double (4607182418800017408 : UInt64)), .second, .val (.double rd), .second] [(.ref sg)] (fun t k => st13 t k) ?_
  obtain ⟨T14, X14, e14, st14⟩ := castY X13 hx hZ hown (hw _ (own_mt 24 rfl)) e13 (Ins.self f8) (g := (mkF m 10 #[vR o, vR sg, .val (.double (4607182418800017408 : UInt64)), .second, .val (.double rd), .second] [(.ref sg)])) rfl rfl (hb hby d37_10)
  refine own_vFW m T14 13 #[vR o, vR sg, .val (.double (4607182418800017408 : UInt64)), .second, .val (.double rd), .second] [(.ref sg)] (fun t k => st14 t k) ?_
  obtain ⟨_, T15, L15, X15, hQ15, st15⟩ := own_callV X14 hx hZ (y := (⟨"java/lang/String", "isBlank", "()Z"⟩ : MethodName)) (W := 0) (C := "java/lang/String") hown (hw _ (own_mt 26 rfl)) (hw _ (own_mt 27 rfl)) (hw _ (own_mt 29 rfl)) (hw _ (own_mt 28 rfl)) (hw _ (own_mt 6 rfl)) (hw _ (own_mt 30 rfl)) (by decide) (rm_Qbl l Z a0 hw sg sa kk cs ci ca h2 n0 Z12 f3 SS f8 f9 f10 f11) (by decide) (by decide) e14 f8 (g := (mkF m 13 #[vR o, vR sg, .val (.double (4607182418800017408 : UInt64)), .second, .val (.double rd), .second] [(.ref sg)])) rfl (by rw [hml]; rfl) (argsL := []) (rest := []) rfl (lenOf pd___Z rfl) rfl own_w0 (hb hby d37_13) (by decide) (by decide)
  obtain ⟨rfl, N15q, e15⟩ := hQ15
  have N15 := Fr.app N13 N15q
  refine own_vFW m T15 16 #[vR o, vR sg, .val (.double (4607182418800017408 : UInt64)), .second, .val (.double rd), .second] [(.int 0)] (fun t k => st15 t k) ?_
  refine own_vFW m T15 29 #[vR o, vR sg, .val (.double (4607182418800017408 : UInt64)), .second, .val (.double rd), .second] [] (fun t k => XS.ifYes X15.here hx rfl (pc0 := 16) (pc' := 29) rfl (hb hby d37_16) rfl ((if0 _ _).trans (teq (by decide : ((0 : Int32) = (0 : Int32)))).1) (by decide) (by decide) k) ?_
  refine own_vFW m T15 30 #[vR o, vR sg, .val (.double (4607182418800017408 : UInt64)), .second, .val (.double rd), .second] [(.ref o)] (fun t k => XS.aloadN X15.here hx rfl (hb hby d37_29) rfl rfl k) ?_
  refine own_vFW m T15 31 #[vR o, vR sg, .val (.double (4607182418800017408 : UInt64)), .second, .val (.double rd), .second] [(.ref sg), (.ref o)] (fun t k => XS.aloadN X15.here hx rfl (hb hby d37_30) rfl rfl k) ?_
  obtain ⟨T16, h16, X16, e16, W16, st16⟩ := putF (host := "") X15 hx hZ hown (Or.inl (hw _ (own_mt 74 rfl))) Via.refl e15 f5 f4 (Or.inr ⟨(hw _ (own_mt 75 rfl)), rfl, hnm⟩) (hw _ (own_mt 3 rfl)) (ty := (.object "java/lang/String")) (by decide) rfl rfl (g := (mkF m 31 #[vR o, vR sg, .val (.double (4607182418800017408 : UInt64)), .second, .val (.double rd), .second] [(.ref sg), (.ref o)])) rfl rfl (hb hby d37_31)
  have CH17 := CHv.wr W16 (Safe.exa hZ.alike f4 (by decide) (by decide)) hC2.1
  have f18 := f3.wr W16 gn_o
  have f19 := f4.wr W16
  have f20 := f6.other W16 (Or.inr (slot_ne (Or.inr (hw _ (own_mt 209 rfl))) (Or.inr (hw _ (own_mt 75 rfl))) (by decide) (t := .double) (t' := (.object "java/lang/String")) (by decide) (by decide)))
  have f21 := f7.other W16 (Or.inr (slot_ne (Or.inr (hw _ (own_mt 212 rfl))) (Or.inr (hw _ (own_mt 75 rfl))) (by decide) (t := .double) (t' := (.object "java/lang/String")) (by decide) (by decide)))
  have f22 := f8.wr W16
  have f23 := f9.other W16 (Or.inl (Exa.ne f8 f4 (by decide)))
  have f24 := f10.other W16 (Or.inl (Exa.ne f8 f4 (by decide)))
  have f25 := f11.other W16 (Ne.symm (Exa.neArv f4 f11 (hw _ (own_mt 3 rfl))))
  have Z30 : n0 ≤ h16.size := Nat.le_trans Z12 (Keep.of_wr W16).1
  have K30 := K12.wr W16 (Or.inl (own_mt 0 rfl))
  have hk30 := Nat.le_trans hk2 (Keep.of_wr W16).1
  have N16 := Fr.snoc X16 N15 gn_o
  refine own_vFW m T16 34 #[vR o, vR sg, .val (.double (4607182418800017408 : UInt64)), .second, .val (.double rd), .second] [] (fun t k => st16 t k) ?_
  refine own_vFW m T16 35 #[vR o, vR sg, .val (.double (4607182418800017408 : UInt64)), .second, .val (.double rd), .second] [(.ref o)] (fun t k => XS.aloadN X16.here hx rfl (hb hby d37_34) rfl rfl k) ?_
  refine own_vFW m T16 36 #[vR o, vR sg, .val (.double (4607182418800017408 : UInt64)), .second, .val (.double rd), .second] [(.double (4607182418800017408 : UInt64)), (.ref o)] (fun t k => XS.dloadN X16.here hx rfl (hb hby d37_35) rfl k) ?_
  obtain ⟨T31, h31, X31, e31, E31, A31, D31, -, st31⟩ := newO X16 hx hZ hown (hw _ (own_mt 76 rfl)) (hw _ (own_mt 77 rfl)) (hw _ (own_mt 78 rfl)) e16 (g := (mkF m 36 #[vR o, vR sg, .val (.double (4607182418800017408 : UInt64)), .second, .val (.double rd), .second] [(.double (4607182418800017408 : UInt64)), (.ref o)])) rfl (hb hby d37_36) (by decide) (by decide)
  obtain ⟨b31, g31⟩ : ∃ z, z = h16.size := ⟨_, rfl⟩
  rw [← g31] at A31 D31 st31
  have ne32 : o ≠ b31 := Nat.ne_of_lt (Nat.lt_of_lt_of_le f19.lt (Nat.le_of_eq g31.symm))
  have ne33 : sg ≠ b31 := Nat.ne_of_lt (Nat.lt_of_lt_of_le f22.lt (Nat.le_of_eq g31.symm))
  have ne34 : sa ≠ b31 := Nat.ne_of_lt (Nat.lt_of_lt_of_le f25.lt (Nat.le_of_eq g31.symm))
  have gn_b31 : n0 ≤ b31 := Nat.le_trans Z30 (Nat.le_of_eq g31.symm)
  have sz_b31 : h0.size ≤ b31 := Nat.le_trans K30.1 (Nat.le_of_eq g31.symm)
  have CH37 := CHv.ext E31 CH17
  have f38 := f18.ext E31
  have f39 := f19.ext E31
  have f40 := f20.ext E31
  have f41 := f21.ext E31
  have f42 := f22.ext E31
  have f43 := f23.ext E31
  have f44 := f24.ext E31
  have f45 := f25.ext E31
  have f51 : Fld Z h31 b31 "java/lang/AbstractStringBuilder" "value" "[B" .null := D31 (Or.inl (hw _ (own_mt 91 rfl))) (ty := (.array .byte)) (by decide)
  have f52 : Fld Z h31 b31 "java/lang/AbstractStringBuilder" "coder" "B" (.int 0) := D31 (Or.inl (hw _ (own_mt 93 rfl))) (ty := .byte) (by decide)
  have f53 : Fld Z h31 b31 "java/lang/AbstractStringBuilder" "count" "I" (.int 0) := D31 (Or.inl (hw _ (own_mt 107 rfl))) (ty := .int) (by decide)
  have Z54 : n0 ≤ h31.size := Nat.le_trans Z30 E31.1
  have K54 := K30.ext E31
  have hk54 := Nat.le_trans hk30 E31.1
  refine own_vFW m T31 39 #[vR o, vR sg, .val (.double (4607182418800017408 : UInt64)), .second, .val (.double rd), .second] [(.ref b31), (.double (4607182418800017408 : UInt64)), (.ref o)] (fun t k => st31 t k) ?_
  refine own_vFW m T31 40 #[vR o, vR sg, .val (.double (4607182418800017408 : UInt64)), .second, .val (.double rd), .second] [(.ref b31), (.ref b31), (.double (4607182418800017408 : UInt64)), (.ref o)] (fun t k => XS.dup X31.here hx rfl (hb hby d37_39) rfl rfl k) ?_
  obtain ⟨_, T55, L55, X55, hQ55, st55⟩ := own_callI X31 hx hZ (y := (⟨"java/lang/StringBuilder", "<init>", "()V"⟩ : MethodName)) rfl (W := 4) hown (hw _ (own_mt 79 rfl)) (hw _ (own_mt 80 rfl)) (hw _ (own_mt 78 rfl)) (hw _ (own_mt 81 rfl)) (by decide) (rm_Qbi l Z a0 hw b31 cs ci ca h31 n0 Z54 f38 SS A31 f51 f52 f53 gn_b31) (by decide) (by decide) e31 (a := b31) (g := (mkF m 40 #[vR o, vR sg, .val (.double (4607182418800017408 : UInt64)), .second, .val (.double rd), .second] [(.ref b31), (.ref b31), (.double (4607182418800017408 : UInt64)), (.ref o)])) rfl (by rw [hml]; rfl) (argsL := []) (rest := [(.ref b31), (.double (4607182418800017408 : UInt64)), (.ref o)]) rfl (lenOf pd___V rfl) rfl own_w0 (hb hby d37_40) (by decide) (by decide)
  obtain ⟨r55, rfl, N55q, K55q, sq_r55, E55q, Fval55, Fcod55, Fcou55, V55q⟩ := hQ55
  have N55 := Fr.app N16 N55q
  have CH62 := CHv.keep K55q (allS (Safe.exa hZ.alike A31 (by decide) (by decide)) all0) CH37
  have Sf63 := Safe.keep K55q (allS (Safe.exa hZ.alike A31 (by decide) (by decide)) all0) CH37 (Safe.new sq_r55)
  have f64 := f38.keep K55q (allS gn_b31 all0)
  have f65 := f39.keep K55q
  have f66 := f40.keep K55q (ninS ne32 nin0)
  have f67 := f41.keep K55q (ninS ne32 nin0)
  have f68 := f42.keep K55q
  have f69 := f43.keep K55q (ninS ne33 nin0)
  have f70 := f44.keep K55q (ninS ne33 nin0)
  have f71 := f45.keep K55q (ninS ne34 nin0)
  have Z78 : n0 ≤ T55.heap.size := Nat.le_trans Z54 K55q.1
  have K78 := K54.trans K55q (allS (Or.inr sz_b31) all0)
  have hk78 := Nat.le_trans hk54 K55q.1
  refine own_vFW m T55 43 #[vR o, vR sg, .val (.double (4607182418800017408 : UInt64)), .second, .val (.double rd), .second] [(.ref b31), (.double (4607182418800017408 : UInt64)), (.ref o)] (fun t k => st55 t k) ?_
  obtain ⟨b79a, T79, h79, k1_79, b79v, k79, X79, e79, E79, hS, hk79, hZ, hown, A79, Fc79, Fv79, V79, -, -, hC79, Li79, hne79, st79⟩ := ldcCH (s := s) (vm0 := T2.vm) (vs := [.int 101, .int 102, .int 102, .int 105, .int 99, .int 105, .int 101, .int 110, .int 99, .int 121, .int 32, .int 111, .int 102, .int 32, .int 102, .int 111, .int 114, .int 109, .int 97, .int 116, .int 32]) (z := (21 : Int32)) X55 hx hZ hown (hw _ (own_mt 94 rfl)) (own_wS hw) rfl hS hk78 hEL (own_mt 1 rfl) CH62 ⟨by decide, rfl⟩ (by decide) rfl (g := (mkF m 43 #[vR o, vR sg, .val (.double (4607182418800017408 : UInt64)), .second, .val (.double rd), .second] [(.ref b31), (.double (4607182418800017408 : UInt64)), (.ref o)])) rfl (hb hby d37_43) (n := 84) (by decide) (by decide) (by decide) (by decide)
  have f80 := f64.ext E79
  have f81 := f65.ext E79
  have f82 := f66.ext E79
  have f83 := f67.ext E79
  have f84 := f68.ext E79
  have f85 := f69.ext E79
  have f86 := f70.ext E79
  have f87 := f71.ext E79
  have f93 := E55q.ext E79
  have f94 := Fval55.ext E79
  have f95 := Fcod55.ext E79
  have f96 := Fcou55.ext E79
  have f97 := V55q.ext E79
  have Sf98 := hC79.safe V55q.lt Sf63
  have By79 := own_By.of V79 (by decide)
  have Z99 : n0 ≤ h79.size := Nat.le_trans Z78 E79.1
  have K99 := K78.ext E79
  refine own_vFW m T79 45 #[vR o, vR sg, .val (.double (4607182418800017408 : UInt64)), .second, .val (.double rd), .second] [(.ref b79a), (.ref b31), (.double (4607182418800017408 : UInt64)), (.ref o)] (fun t k => st79 t k) ?_
  obtain ⟨_, T100, L100, X100, hQ100, st100⟩ := own_callV X79 hx hZ (y := (⟨"java/lang/StringBuilder", "append", "(Ljava/lang/String;)Ljava/lang/StringBuilder;"⟩ : MethodName)) (W := 3) (C := "java/lang/StringBuilder") hown (hw _ (own_mt 95 rfl)) (hw _ (own_mt 96 rfl)) (hw _ (own_mt 98 rfl)) (hw _ (own_mt 97 rfl)) (hw _ (own_mt 78 rfl)) (hw _ (own_mt 99 rfl)) (by decide) (rm_Qsp16_0_21 l Z a0 hw b31 r55 b79a b79v cs ci ca h79 n0 Z99 f80 SS f93 f94 f95 f96 f97 A79 Fc79 Fv79 By79 gn_b31 (Ne.symm (hne79 _ Sf98).2)) (by decide) (by decide) e79 f93 (g := (mkF m 45 #[vR o, vR sg, .val (.double (4607182418800017408 : UInt64)), .second, .val (.double rd), .second] [(.ref b79a), (.ref b31), (.double (4607182418800017408 : UInt64)), (.ref o)])) rfl (by rw [hml]; rfl) (argsL := [(.ref b79a)]) (rest := [(.double (4607182418800017408 : UInt64)), (.ref o)]) rfl (lenOf pd_Ljava_lang_String___Ljava_lang_StringBuilder_ rfl) rfl own_w0 (hb hby d37_45) (by decide) (by decide)
  obtain ⟨r100, rfl, N100q, K100q, sq_r100, E100q, Fval100, Fcod100, Fcou100, V100q⟩ := hQ100
  have N100 := Fr.app N55 N100q
  have ne101 : o ≠ r100 := Nat.ne_of_lt (Nat.lt_of_lt_of_le f81.lt sq_r100)
  have ne102 : sg ≠ r100 := Nat.ne_of_lt (Nat.lt_of_lt_of_le f84.lt sq_r100)
  have ne103 : sa ≠ r100 := Nat.ne_of_lt (Nat.lt_of_lt_of_le f87.lt sq_r100)
  have gn_r100 : n0 ≤ r100 := Nat.le_trans Z99 sq_r100
  have sz_r100 : h0.size ≤ r100 := Nat.le_trans K99.1 sq_r100
  have CH110 := CHv.keep K100q (allS (Safe.exa hZ.alike f93 (by decide) (by decide)) all0) hC79.1
  have Sf112 := Safe.keep K100q (allS (Safe.exa hZ.alike f93 (by decide) (by decide)) all0) hC79.1 (Safe.new sq_r100)
  have f113 := f80.keep K100q (allS gn_b31 all0)
  have f114 := f81.keep K100q
  have f115 := f82.keep K100q (ninS ne32 nin0)
  have f116 := f83.keep K100q (ninS ne32 nin0)
  have f117 := f84.keep K100q
  have f118 := f85.keep K100q (ninS ne33 nin0)
  have f119 := f86.keep K100q (ninS ne33 nin0)
  have f120 := f87.keep K100q (ninS ne34 nin0)
  have Z132 : n0 ≤ T100.heap.size := Nat.le_trans Z99 K100q.1
  have K132 := K99.trans K100q (allS (Or.inr sz_b31) all0)
  have hk132 := Nat.le_trans hk79 K100q.1
  refine own_vFW m T100 48 #[vR o, vR sg, .val (.double (4607182418800017408 : UInt64)), .second, .val (.double rd), .second] [(.ref b31), (.double (4607182418800017408 : UInt64)), (.ref o)] (fun t k => st100 t k) ?_
  refine own_vFW m T100 49 #[vR o, vR sg, .val (.double (4607182418800017408 : UInt64)), .second, .val (.double rd), .second] [(.ref sg), (.ref b31), (.double (4607182418800017408 : UInt64)), (.ref o)] (fun t k => XS.aloadN X100.here hx rfl (hb hby d37_48) rfl rfl k) ?_
  obtain ⟨_, T133, L133, X133, hQ133, st133⟩ := own_callV X100 hx hZ (y := (⟨"java/lang/StringBuilder", "append", "(Ljava/lang/String;)Ljava/lang/StringBuilder;"⟩ : MethodName)) (W := 3) (C := "java/lang/StringBuilder") hown (hw _ (own_mt 95 rfl)) (hw _ (own_mt 96 rfl)) (hw _ (own_mt 98 rfl)) (hw _ (own_mt 97 rfl)) (hw _ (own_mt 78 rfl)) (hw _ (own_mt 99 rfl)) (by decide) (rm_Qsp34_21_1 l Z a0 hw b31 r100 sg sa cs ci ca T100.heap n0 Z132 f113 SS E100q Fval100 Fcod100 Fcou100 V100q f117 f118 f119 (own_By.of f120 (by decide)) gn_b31 gn_r100 ne103) (by decide) (by decide) rfl E100q (g := (mkF m 49 #[vR o, vR sg, .val (.double (4607182418800017408 : UInt64)), .second, .val (.double rd), .second] [(.ref sg), (.ref b31), (.double (4607182418800017408 : UInt64)), (.ref o)])) rfl (by rw [hml]; rfl) (argsL := [(.ref sg)]) (rest := [(.double (4607182418800017408 : UInt64)), (.ref o)]) rfl (lenOf pd_Ljava_lang_String___Ljava_lang_StringBuilder_ rfl) rfl own_w0 (hb hby d37_49) (by decide) (by decide)
  obtain ⟨rfl, N133q, K133q, E133q, Fval133, Fcod133, Fcou133, V133q⟩ := hQ133
  have N133 := Fr.app N100 N133q
  have CH134 := CHv.keep K133q (allS (Safe.exa hZ.alike E100q (by decide) (by decide)) (allS Sf112 all0)) CH110
  have f137 := f113.keep K133q (allS gn_b31 (allS gn_r100 all0))
  have f138 := f114.keep K133q
  have f139 := f115.keep K133q (ninS ne32 (ninS ne101 nin0))
  have f140 := f116.keep K133q (ninS ne32 (ninS ne101 nin0))
  have f141 := f117.keep K133q
  have f142 := f118.keep K133q (ninS ne33 (ninS ne102 nin0))
  have f143 := f119.keep K133q (ninS ne33 (ninS ne102 nin0))
  have f144 := f120.keep K133q (ninS ne34 (ninS ne103 nin0))
  have Z156 : n0 ≤ T133.heap.size := Nat.le_trans Z132 K133q.1
  have K156 := K132.trans K133q (allS (Or.inr sz_b31) (allS (Or.inr sz_r100) all0))
  have hk156 := Nat.le_trans hk132 K133q.1
  refine own_vFW m T133 52 #[vR o, vR sg, .val (.double (4607182418800017408 : UInt64)), .second, .val (.double rd), .second] [(.ref b31), (.double (4607182418800017408 : UInt64)), (.ref o)] (fun t k => st133 t k) ?_
  obtain ⟨_, T157, L157, X157, hQ157, st157⟩ := own_callV X133 hx hZ (y := (⟨"java/lang/StringBuilder", "toString", "()Ljava/lang/String;"⟩ : MethodName)) (W := 3) (C := "java/lang/StringBuilder") hown (hw _ (own_mt 156 rfl)) (hw _ (own_mt 157 rfl)) (hw _ (own_mt 159 rfl)) (hw _ (own_mt 158 rfl)) (hw _ (own_mt 78 rfl)) (hw _ (own_mt 160 rfl)) (by decide) (rm_Qts22 l Z a0 hw b31 r100 cs ci ca T133.heap n0 Z156 f137 SS E133q Fval133 Fcod133 Fcou133 V133q) (by decide) (by decide) rfl E133q (g := (mkF m 52 #[vR o, vR sg, .val (.double (4607182418800017408 : UInt64)), .second, .val (.double rd), .second] [(.ref b31), (.double (4607182418800017408 : UInt64)), (.ref o)])) rfl (by rw [hml]; rfl) (argsL := []) (rest := [(.double (4607182418800017408 : UInt64)), (.ref o)]) rfl (lenOf pd___Ljava_lang_String_ rfl) rfl own_w0 (hb hby d37_52) (by decide) (by decide)
  obtain ⟨r157, rfl, N157q, K157q⟩ := hQ157
  have N157 := Fr.app N133 N157q
  have CH158 := CHv.keep K157q (all0) CH134
  have f161 := f137.keep K157q all0
  have f162 := f138.keep K157q
  have f163 := f139.keep K157q nin0
  have f164 := f140.keep K157q nin0
  have f165 := f141.keep K157q
  have f166 := f142.keep K157q nin0
  have f167 := f143.keep K157q nin0
  have f168 := f144.keep K157q nin0
  have Z184 : n0 ≤ T157.heap.size := Nat.le_trans Z156 K157q.1
  have K184 := K156.trans K157q all0
  have hk184 := Nat.le_trans hk156 K157q.1
  refine own_vFW m T157 55 #[vR o, vR sg, .val (.double (4607182418800017408 : UInt64)), .second, .val (.double rd), .second] [(.ref r157), (.double (4607182418800017408 : UInt64)), (.ref o)] (fun t k => st157 t k) ?_
  obtain ⟨_, T185, L185, X185, hQ185, st185⟩ := own_callS X157 hx hZ (y := (⟨"com/example/lightpath_planner/lightpathplanner/Require", "positive", "(DLjava/lang/String;)D"⟩ : MethodName)) (W := 1) hown (hw _ (own_mt 196 rfl)) (hw _ (own_mt 197 rfl)) (hw _ (own_mt 198 rfl)) (hw _ (own_mt 199 rfl)) (by decide) (rm_Qpo l Z a0 hw (4607182418800017408 : UInt64) r157 T157.heap n0 Z184 own_one own_onef) (by decide) (by decide) rfl (g := (mkF m 55 #[vR o, vR sg, .val (.double (4607182418800017408 : UInt64)), .second, .val (.double rd), .second] [(.ref r157), (.double (4607182418800017408 : UInt64)), (.ref o)])) rfl (by rw [hml]; rfl) (argsL := [(.double (4607182418800017408 : UInt64)), (.ref r157)]) (rest := [(.ref o)]) rfl (lenOf pd_DLjava_lang_String___D rfl) rfl own_w0 (hb hby d37_55) (by decide) (by decide)
  obtain ⟨rfl, N185q, e185⟩ := hQ185
  have N185 := Fr.app N157 N185q
  refine own_vFW m T185 58 #[vR o, vR sg, .val (.double (4607182418800017408 : UInt64)), .second, .val (.double rd), .second] [(.double (4607182418800017408 : UInt64)), (.ref o)] (fun t k => st185 t k) ?_
  obtain ⟨T186, h186, X186, e186, W186, st186⟩ := putF (host := "") X185 hx hZ hown (Or.inl (hw _ (own_mt 208 rfl))) Via.refl e185 f163 f162 (Or.inr ⟨(hw _ (own_mt 209 rfl)), rfl, hnm⟩) (hw _ (own_mt 3 rfl)) (ty := .double) (by decide) rfl rfl (g := (mkF m 58 #[vR o, vR sg, .val (.double (4607182418800017408 : UInt64)), .second, .val (.double rd), .second] [(.double (4607182418800017408 : UInt64)), (.ref o)])) rfl rfl (hb hby d37_58)
  have CH187 := CHv.wr W186 (Safe.exa hZ.alike f162 (by decide) (by decide)) CH158
  have f188 := f161.wr W186 gn_o
  have f189 := f162.wr W186
  have f190 := f164.other W186 (Or.inr (slot_ne (Or.inr (hw _ (own_mt 212 rfl))) (Or.inr (hw _ (own_mt 209 rfl))) (by decide) (t := .double) (t' := .double) (by decide) (by decide)))
  have f191 := f165.wr W186
  have f192 := f166.other W186 (Or.inl (Exa.ne f165 f162 (by decide)))
  have f193 := f167.other W186 (Or.inl (Exa.ne f165 f162 (by decide)))
  have f194 := f168.other W186 (Ne.symm (Exa.neArv f162 f168 (hw _ (own_mt 3 rfl))))
  have Z196 : n0 ≤ h186.size := Nat.le_trans Z184 (Keep.of_wr W186).1
  have K196 := K184.wr W186 (Or.inl (own_mt 0 rfl))
  have hk196 := Nat.le_trans hk184 (Keep.of_wr W186).1
  have N186 := Fr.snoc X186 N185 gn_o
  refine own_vFW m T186 61 #[vR o, vR sg, .val (.double (4607182418800017408 : UInt64)), .second, .val (.double rd), .second] [] (fun t k => st186 t k) ?_
  refine own_vFW m T186 62 #[vR o, vR sg, .val (.double (4607182418800017408 : UInt64)), .second, .val (.double rd), .second] [(.ref o)] (fun t k => XS.aloadN X186.here hx rfl (hb hby d37_61) rfl rfl k) ?_
  refine own_vFW m T186 64 #[vR o, vR sg, .val (.double (4607182418800017408 : UInt64)), .second, .val (.double rd), .second] [(.double rd), (.ref o)] (fun t k => XS.dload X186.here hx rfl (hb hby d37_62) rfl k) ?_
  obtain ⟨T197, h197, X197, e197, E197, A197, D197, -, st197⟩ := newO X186 hx hZ hown (hw _ (own_mt 76 rfl)) (hw _ (own_mt 77 rfl)) (hw _ (own_mt 78 rfl)) e186 (g := (mkF m 64 #[vR o, vR sg, .val (.double (4607182418800017408 : UInt64)), .second, .val (.double rd), .second] [(.double rd), (.ref o)])) rfl (hb hby d37_64) (by decide) (by decide)
  obtain ⟨b197, g197⟩ : ∃ z, z = h186.size := ⟨_, rfl⟩
  rw [← g197] at A197 D197 st197
  have ne198 : o ≠ b197 := Nat.ne_of_lt (Nat.lt_of_lt_of_le f189.lt (Nat.le_of_eq g197.symm))
  have ne199 : sg ≠ b197 := Nat.ne_of_lt (Nat.lt_of_lt_of_le f191.lt (Nat.le_of_eq g197.symm))
  have ne200 : sa ≠ b197 := Nat.ne_of_lt (Nat.lt_of_lt_of_le f194.lt (Nat.le_of_eq g197.symm))
  have gn_b197 : n0 ≤ b197 := Nat.le_trans Z196 (Nat.le_of_eq g197.symm)
  have sz_b197 : h0.size ≤ b197 := Nat.le_trans K196.1 (Nat.le_of_eq g197.symm)
  have CH201 := CHv.ext E197 CH187
  have f202 := f188.ext E197
  have f203 := f189.ext E197
  have f204 := f190.ext E197
  have f205 := f191.ext E197
  have f206 := f192.ext E197
  have f207 := f193.ext E197
  have f208 := f194.ext E197
  have f211 : Fld Z h197 b197 "java/lang/AbstractStringBuilder" "value" "[B" .null := D197 (Or.inl (hw _ (own_mt 91 rfl))) (ty := (.array .byte)) (by decide)
  have f212 : Fld Z h197 b197 "java/lang/AbstractStringBuilder" "coder" "B" (.int 0) := D197 (Or.inl (hw _ (own_mt 93 rfl))) (ty := .byte) (by decide)
  have f213 : Fld Z h197 b197 "java/lang/AbstractStringBuilder" "count" "I" (.int 0) := D197 (Or.inl (hw _ (own_mt 107 rfl))) (ty := .int) (by decide)
  have Z214 : n0 ≤ h197.size := Nat.le_trans Z196 E197.1
  have K214 := K196.ext E197
  have hk214 := Nat.le_trans hk196 E197.1
  refine own_vFW m T197 67 #[vR o, vR sg, .val (.double (4607182418800017408 : UInt64)), .second, .val (.double rd), .second] [(.ref b197), (.double rd), (.ref o)] (fun t k => st197 t k) ?_
  refine own_vFW m T197 68 #[vR o, vR sg, .val (.double (4607182418800017408 : UInt64)), .second, .val (.double rd), .second] [(.ref b197), (.ref b197), (.double rd), (.ref o)] (fun t k => XS.dup X197.here hx rfl (hb hby d37_67) rfl rfl k) ?_
  obtain ⟨_, T215, L215, X215, hQ215, st215⟩ := own_callI X197 hx hZ (y := (⟨"java/lang/StringBuilder", "<init>", "()V"⟩ : MethodName)) rfl (W := 4) hown (hw _ (own_mt 79 rfl)) (hw _ (own_mt 80 rfl)) (hw _ (own_mt 78 rfl)) (hw _ (own_mt 81 rfl)) (by decide) (rm_Qbi l Z a0 hw b197 cs ci ca h197 n0 Z214 f202 SS A197 f211 f212 f213 gn_b197) (by decide) (by decide) e197 (a := b197) (g := (mkF m 68 #[vR o, vR sg, .val (.double (4607182418800017408 : UInt64)), .second, .val (.double rd), .second] [(.ref b197), (.ref b197), (.double rd), (.ref o)])) rfl (by rw [hml]; rfl) (argsL := []) (rest := [(.ref b197), (.double rd), (.ref o)]) rfl (lenOf pd___V rfl) rfl own_w0 (hb hby d37_68) (by decide) (by decide)
  obtain ⟨r215, rfl, N215q, K215q, sq_r215, E215q, Fval215, Fcod215, Fcou215, V215q⟩ := hQ215
  have N215 := Fr.app N186 N215q
  have ne216 : o ≠ r215 := Nat.ne_of_lt (Nat.lt_of_lt_of_le f203.lt sq_r215)
  have ne217 : sg ≠ r215 := Nat.ne_of_lt (Nat.lt_of_lt_of_le f205.lt sq_r215)
  have ne218 : sa ≠ r215 := Nat.ne_of_lt (Nat.lt_of_lt_of_le f208.lt sq_r215)
  have gn_r215 : n0 ≤ r215 := Nat.le_trans Z214 sq_r215
  have sz_r215 : h0.size ≤ r215 := Nat.le_trans K214.1 sq_r215
  have CH220 := CHv.keep K215q (allS (Safe.exa hZ.alike A197 (by decide) (by decide)) all0) CH201
  have Sf221 := Safe.keep K215q (allS (Safe.exa hZ.alike A197 (by decide) (by decide)) all0) CH201 (Safe.new sq_r215)
  have f222 := f202.keep K215q (allS gn_b197 all0)
  have f223 := f203.keep K215q
  have f224 := f204.keep K215q (ninS ne198 nin0)
  have f225 := f205.keep K215q
  have f226 := f206.keep K215q (ninS ne199 nin0)
  have f227 := f207.keep K215q (ninS ne199 nin0)
  have f228 := f208.keep K215q (ninS ne200 nin0)
  have Z232 : n0 ≤ T215.heap.size := Nat.le_trans Z214 K215q.1
  have K232 := K214.trans K215q (allS (Or.inr sz_b197) all0)
  have hk232 := Nat.le_trans hk214 K215q.1
  refine own_vFW m T215 71 #[vR o, vR sg, .val (.double (4607182418800017408 : UInt64)), .second, .val (.double rd), .second] [(.ref b197), (.double rd), (.ref o)] (fun t k => st215 t k) ?_
  obtain ⟨b233a, T233, h233, k1_233, b233v, k233, X233, e233, E233, hS, hk233, hZ, hown, A233, Fc233, Fv233, V233, -, -, hC233, Li233, hne233, st233⟩ := ldcCH (s := s) (vm0 := T79.vm) (vs := [.int 114, .int 101, .int 97, .int 99, .int 104, .int 32, .int 111, .int 102, .int 32, .int 102, .int 111, .int 114, .int 109, .int 97, .int 116, .int 32]) (z := (16 : Int32)) X215 hx hZ hown (hw _ (own_mt 210 rfl)) (own_wS hw) rfl hS hk232 hEL (own_mt 2 rfl) CH220 ⟨by decide, rfl⟩ (by decide) rfl (g := (mkF m 71 #[vR o, vR sg, .val (.double (4607182418800017408 : UInt64)), .second, .val (.double rd), .second] [(.ref b197), (.double rd), (.ref o)])) rfl (hb hby d37_71) (n := 64) (by decide) (by decide) (by decide) (by decide)
  have f234 := f222.ext E233
  have f235 := f223.ext E233
  have f236 := f224.ext E233
  have f237 := f225.ext E233
  have f238 := f226.ext E233
  have f239 := f227.ext E233
  have f240 := f228.ext E233
  have f243 := E215q.ext E233
  have f244 := Fval215.ext E233
  have f245 := Fcod215.ext E233
  have f246 := Fcou215.ext E233
  have f247 := V215q.ext E233
  have Sf248 := hC233.safe V215q.lt Sf221
  have By233 := own_By.of V233 (by decide)
  have Z249 : n0 ≤ h233.size := Nat.le_trans Z232 E233.1
  have K249 := K232.ext E233
  refine own_vFW m T233 73 #[vR o, vR sg, .val (.double (4607182418800017408 : UInt64)), .second, .val (.double rd), .second] [(.ref b233a), (.ref b197), (.double rd), (.ref o)] (fun t k => st233 t k) ?_
  obtain ⟨_, T250, L250, X250, hQ250, st250⟩ := own_callV X233 hx hZ (y := (⟨"java/lang/StringBuilder", "append", "(Ljava/lang/String;)Ljava/lang/StringBuilder;"⟩ : MethodName)) (W := 3) (C := "java/lang/StringBuilder") hown (hw _ (own_mt 95 rfl)) (hw _ (own_mt 96 rfl)) (hw _ (own_mt 98 rfl)) (hw _ (own_mt 97 rfl)) (hw _ (own_mt 78 rfl)) (hw _ (own_mt 99 rfl)) (by decide) (rm_Qsp16_0_16 l Z a0 hw b197 r215 b233a b233v cs ci ca h233 n0 Z249 f234 SS f243 f244 f245 f246 f247 A233 Fc233 Fv233 By233 gn_b197 gn_r215 (Ne.symm (hne233 _ Sf248).2)) (by decide) (by decide) e233 f243 (g := (mkF m 73 #[vR o, vR sg, .val (.double (4607182418800017408 : UInt64)), .second, .val (.double rd), .second] [(.ref b233a), (.ref b197), (.double rd), (.ref o)])) rfl (by rw [hml]; rfl) (argsL := [(.ref b233a)]) (rest := [(.double rd), (.ref o)]) rfl (lenOf pd_Ljava_lang_String___Ljava_lang_StringBuilder_ rfl) rfl own_w0 (hb hby d37_73) (by decide) (by decide)
  obtain ⟨rfl, N250q, K250q, E250q, Fval250, Fcod250, Fcou250, V250q⟩ := hQ250
  have N250 := Fr.app N215 N250q
  have f253 := f234.keep K250q (allS gn_b197 (allS gn_r215 all0))
  have f254 := f235.keep K250q
  have f255 := f236.keep K250q (ninS ne198 (ninS ne216 nin0))
  have f256 := f237.keep K250q
  have f257 := f238.keep K250q (ninS ne199 (ninS ne217 nin0))
  have f258 := f239.keep K250q (ninS ne199 (ninS ne217 nin0))
  have f259 := f240.keep K250q (ninS ne200 (ninS ne218 nin0))
  have Z267 : n0 ≤ T250.heap.size := Nat.le_trans Z249 K250q.1
  have K267 := K249.trans K250q (allS (Or.inr sz_b197) (allS (Or.inr sz_r215) all0))
  have hk267 := Nat.le_trans hk233 K250q.1
  refine own_vFW m T250 76 #[vR o, vR sg, .val (.double (4607182418800017408 : UInt64)), .second, .val (.double rd), .second] [(.ref b197), (.double rd), (.ref o)] (fun t k => st250 t k) ?_
  refine own_vFW m T250 77 #[vR o, vR sg, .val (.double (4607182418800017408 : UInt64)), .second, .val (.double rd), .second] [(.ref sg), (.ref b197), (.double rd), (.ref o)] (fun t k => XS.aloadN X250.here hx rfl (hb hby d37_76) rfl rfl k) ?_
  obtain ⟨_, T268, L268, X268, hQ268, st268⟩ := own_callV X250 hx hZ (y := (⟨"java/lang/StringBuilder", "append", "(Ljava/lang/String;)Ljava/lang/StringBuilder;"⟩ : MethodName)) (W := 3) (C := "java/lang/StringBuilder") hown (hw _ (own_mt 95 rfl)) (hw _ (own_mt 96 rfl)) (hw _ (own_mt 98 rfl)) (hw _ (own_mt 97 rfl)) (hw _ (own_mt 78 rfl)) (hw _ (own_mt 99 rfl)) (by decide) (rm_Qsp16_16_1 l Z a0 hw b197 r215 sg sa cs ci ca T250.heap n0 Z267 f253 SS E250q Fval250 Fcod250 Fcou250 V250q f256 f257 f258 (own_By.of f259 (by decide)) gn_b197 ne218) (by decide) (by decide) rfl E250q (g := (mkF m 77 #[vR o, vR sg, .val (.double (4607182418800017408 : UInt64)), .second, .val (.double rd), .second] [(.ref sg), (.ref b197), (.double rd), (.ref o)])) rfl (by rw [hml]; rfl) (argsL := [(.ref sg)]) (rest := [(.double rd), (.ref o)]) rfl (lenOf pd_Ljava_lang_String___Ljava_lang_StringBuilder_ rfl) rfl own_w0 (hb hby d37_77) (by decide) (by decide)
  obtain ⟨r268, rfl, N268q, K268q, sq_r268, E268q, Fval268, Fcod268, Fcou268, V268q⟩ := hQ268
  have N268 := Fr.app N250 N268q
  have f279 := f253.keep K268q (allS gn_b197 all0)
  have f280 := f254.keep K268q
  have f281 := f255.keep K268q (ninS ne198 nin0)
  have Z294 : n0 ≤ T268.heap.size := Nat.le_trans Z267 K268q.1
  have K294 := K267.trans K268q (allS (Or.inr sz_b197) all0)
  have hk294 := Nat.le_trans hk267 K268q.1
  refine own_vFW m T268 80 #[vR o, vR sg, .val (.double (4607182418800017408 : UInt64)), .second, .val (.double rd), .second] [(.ref b197), (.double rd), (.ref o)] (fun t k => st268 t k) ?_
  obtain ⟨_, T295, L295, X295, hQ295, st295⟩ := own_callV X268 hx hZ (y := (⟨"java/lang/StringBuilder", "toString", "()Ljava/lang/String;"⟩ : MethodName)) (W := 3) (C := "java/lang/StringBuilder") hown (hw _ (own_mt 156 rfl)) (hw _ (own_mt 157 rfl)) (hw _ (own_mt 159 rfl)) (hw _ (own_mt 158 rfl)) (hw _ (own_mt 78 rfl)) (hw _ (own_mt 160 rfl)) (by decide) (rm_Qts17 l Z a0 hw b197 r268 cs ci ca T268.heap n0 Z294 f279 SS E268q Fval268 Fcod268 Fcou268 V268q) (by decide) (by decide) rfl E268q (g := (mkF m 80 #[vR o, vR sg, .val (.double (4607182418800017408 : UInt64)), .second, .val (.double rd), .second] [(.ref b197), (.double rd), (.ref o)])) rfl (by rw [hml]; rfl) (argsL := []) (rest := [(.double rd), (.ref o)]) rfl (lenOf pd___Ljava_lang_String_ rfl) rfl own_w0 (hb hby d37_80) (by decide) (by decide)
  obtain ⟨r295, rfl, N295q, K295q⟩ := hQ295
  have N295 := Fr.app N268 N295q
  have f300 := f280.keep K295q
  have f301 := f281.keep K295q nin0
  have Z318 : n0 ≤ T295.heap.size := Nat.le_trans Z294 K295q.1
  have K318 := K294.trans K295q all0
  have hk318 := Nat.le_trans hk294 K295q.1
  refine own_vFW m T295 83 #[vR o, vR sg, .val (.double (4607182418800017408 : UInt64)), .second, .val (.double rd), .second] [(.ref r295), (.double rd), (.ref o)] (fun t k => st295 t k) ?_
  obtain ⟨_, T319, L319, X319, hQ319, st319⟩ := own_callS X295 hx hZ (y := (⟨"com/example/lightpath_planner/lightpathplanner/Require", "positive", "(DLjava/lang/String;)D"⟩ : MethodName)) (W := 1) hown (hw _ (own_mt 196 rfl)) (hw _ (own_mt 197 rfl)) (hw _ (own_mt 198 rfl)) (hw _ (own_mt 199 rfl)) (by decide) (rm_Qpo l Z a0 hw rd r295 T295.heap n0 Z318 hp hf) (by decide) (by decide) rfl (g := (mkF m 83 #[vR o, vR sg, .val (.double (4607182418800017408 : UInt64)), .second, .val (.double rd), .second] [(.ref r295), (.double rd), (.ref o)])) rfl (by rw [hml]; rfl) (argsL := [(.double rd), (.ref r295)]) (rest := [(.ref o)]) rfl (lenOf pd_DLjava_lang_String___D rfl) rfl own_w0 (hb hby d37_83) (by decide) (by decide)
  obtain ⟨rfl, N319q, e319⟩ := hQ319
  have N319 := Fr.app N295 N319q
  refine own_vFW m T319 86 #[vR o, vR sg, .val (.double (4607182418800017408 : UInt64)), .second, .val (.double rd), .second] [(.double rd), (.ref o)] (fun t k => st319 t k) ?_
  obtain ⟨T320, h320, X320, e320, W320, st320⟩ := putF (host := "") X319 hx hZ hown (Or.inl (hw _ (own_mt 211 rfl))) Via.refl e319 f301 f300 (Or.inr ⟨(hw _ (own_mt 212 rfl)), rfl, hnm⟩) (hw _ (own_mt 3 rfl)) (ty := .double) (by decide) rfl rfl (g := (mkF m 86 #[vR o, vR sg, .val (.double (4607182418800017408 : UInt64)), .second, .val (.double rd), .second] [(.double rd), (.ref o)])) rfl rfl (hb hby d37_86)
  have f320w := f301.same W320
  have f323 := f300.wr W320
  have K330 := K318.wr W320 (Or.inl (own_mt 0 rfl))
  have hk330 := Nat.le_trans hk318 (Keep.of_wr W320).1
  have N320 := Fr.snoc X320 N319 gn_o
  refine own_vFW m T320 89 #[vR o, vR sg, .val (.double (4607182418800017408 : UInt64)), .second, .val (.double rd), .second] [] (fun t k => st320 t k) ?_
  exact own_retW (s := s) X320 hS (by rw [e320]; exact hk330) (v := none) (fun _ => rfl) hlk (fun fs hr => X320.returnOut hx hret (hb hby d37_89) hr) (by rw [e320]; exact ⟨rfl, N320, K330, f323, f320w⟩) (by decide) (by decide)
def Q0 (Z : State)  (h0 : Heap) (n0 : Nat) (v : Option Value) (h : Heap) (L : List Loc) : Prop := v = some (.int 1) ∧ Fr n0 L
theorem pd_Ljava_lang_String_DD__V : parseMethodDescriptor "(Ljava/lang/String;DD)V" = some ⟨[(.object "java/lang/String"), .double, .double], none⟩ := by decide +kernel
theorem ef_III13l (m : MethodId) (x0 : Int32) (x1 : Int32) (x2 : Int32) : entryFrame m #[(.int x0), (.int x1), (.int x2)] maxLocals = mkF m 0 #[vI x0, vI x1, vI x2, .unset, .unset, .unset, .unset, .unset, .unset, .unset, .unset, .unset, .unset] [] := by first | (simp [entryFrame, mkF, argsToLocals, Value.category, maxLocals]; done) | rfl
theorem pn_com_example_lightpath_planner_lightpathplanner_ModulationFormatReachesPinLaw : plainName "com/example/lightpath_planner/lightpathplanner/ModulationFormatReachesPinLaw" = true := by first | (simp [plainName, overriddenIn]; done) | decide +kernel
set_option maxRecDepth 65536 in
set_option maxHeartbeats 40000000 in
theorem rm_Q0 (l : Launch) (Z : State) (a0 : Array Value) (hw : ∀ d ∈ tables_1, d.before a0 Z = true) (ws : List Jvm.Cond) (x1 x2 x3 : Int32) (cs : Int32) (ci ca : Addr) (h0 : Heap) (n0 : Nat) (Z0 : n0 ≤ h0.size) (Od : Old Z n0 h0) (SS : own_SS Z cs ci ca) :
    MetFree l x (head1 (Jvm.Cond.code x code maxLocals ret :: ws) room_1) (fun aa_ UU_ => aa_ = #[(.int x1), (.int x2), (.int x3)] ∧ Z.Warmed39 UU_.vm ∧ UU_.heap = h0 ∧ CHv Z own_EL UU_.vm Z.heap) (fun _ _ _ _ _ => True) (fun _ UU_ oo_ VV_ => ∃ vv_ LL_, oo_ = .returned vv_ ∧ Q0 Z  h0 n0 vv_ VV_.heap LL_ ∧ ReturnedEndW UU_ oo_ VV_ LL_ room_1.cells room_1.slots) := by
  refine MetFree.of_bodySF (plainFor_of_name pn_com_example_lightpath_planner_lightpathplanner_ModulationFormatReachesPinLaw) hisR ?_
  intro p e s m args below meth c s₁ Bd hml0 hP hK
  obtain ⟨rfl, hZ, hh, hCH⟩ := hP
  have hx := Bd.exec
  have hby := Bd.bytes
  have hml : c.maxLocals = 13 := hml0
  have hown : s.vm.findClass "com/example/lightpath_planner/lightpathplanner/ModulationFormatReachesPinLaw" = some m.cls := findClass_of_methodNamed Bd.named
  have hlk : meth.locks = false := Bd.notSynchronized
  have X0 : Stand p l e room_1 s m #[(.int x1), (.int x2), (.int x3)] below meth c s₁ [] 0 0 := Stand.of_body Bd
  have e0 : s₁.heap = h0 := by rw [← hh, Bd.state]; rfl
  have N0 := Fr.nil n0
  have hEL := own_hEL hw
  show own_GW p e below s (Q0 Z  h0 n0) _ _ (s₁.setTop (entryFrame m #[(.int x1), (.int x2), (.int x3)] maxLocals))
  rw [ef_III13l m x1 x2 x3]
  refine own_vFW m s₁ 1 #[vI x1, vI x2, vI x3, .unset, .unset, .unset, .unset, .unset, .unset, .unset, .unset, .unset, .unset] [(.int x1)] (fun t k => XS.iloadN X0.here hx rfl (hb hby at_0) rfl k) ?_
  refine own_vFW m s₁ 3 #[vI x1, vI x2, vI x3, .unset, .unset, .unset, .unset, .unset, .unset, .unset, .unset, .unset, .unset] [(.int 1073741823), (.int x1)] (fun t k => X0.ldcInt hx hown (mvT hZ (hw _ (own_mt 0 rfl))) (g := (mkF m 1 #[vI x1, vI x2, vI x3, .unset, .unset, .unset, .unset, .unset, .unset, .unset, .unset, .unset, .unset] [(.int x1)])) rfl (hb hby at_1) _ k) ?_
  refine own_vFW m s₁ 4 #[vI x1, vI x2, vI x3, .unset, .unset, .unset, .unset, .unset, .unset, .unset, .unset, .unset, .unset] [(.int (x1 &&& (1073741823 : Int32)))] (fun t k => XS.iand X0.here hx rfl (hb hby at_3) rfl k) ?_
  refine own_vFW m s₁ 5 #[vI x1, vI x2, vI x3, .unset, .unset, .unset, .unset, .unset, .unset, .unset, .unset, .unset, .unset] [(.int 1), (.int (x1 &&& (1073741823 : Int32)))] (fun t k => XS.iconst X0.here hx rfl (hb hby at_4) k) ?_
  refine own_vFW m s₁ 6 #[vI x1, vI x2, vI x3, .unset, .unset, .unset, .unset, .unset, .unset, .unset, .unset, .unset, .unset] [(.int ((x1 &&& (1073741823 : Int32)) + (1 : Int32)))] (fun t k => XS.iadd X0.here hx rfl (hb hby at_5) rfl k) ?_
  refine own_vFW m s₁ 7 #[vI x1, vI x2, vI x3, .val (.int ((x1 &&& (1073741823 : Int32)) + (1 : Int32))), .unset, .unset, .unset, .unset, .unset, .unset, .unset, .unset, .unset] [] (fun t k => XS.istoreN X0.here hx rfl (hb hby at_6) rfl (l' := #[vI x1, vI x2, vI x3, .val (.int ((x1 &&& (1073741823 : Int32)) + (1 : Int32))), .unset, .unset, .unset, .unset, .unset, .unset, .unset, .unset, .unset]) rfl k) ?_
  have hr1 : 1 ≤ (((x1 &&& (1073741823 : Int32)) + (1 : Int32))).toInt := own_r _
  generalize ((x1 &&& (1073741823 : Int32)) + (1 : Int32)) = r at hr1 ⊢
  refine own_vFW m s₁ 8 #[vI x1, vI x2, vI x3, vI r, .unset, .unset, .unset, .unset, .unset, .unset, .unset, .unset, .unset] [(.int r)] (fun t k => XS.iloadN X0.here hx rfl (hb hby at_7) rfl k) ?_
  refine own_vFW m s₁ 9 #[vI x1, vI x2, vI x3, vI r, .unset, .unset, .unset, .unset, .unset, .unset, .unset, .unset, .unset] [(.double (FP.i2d r))] (fun t k => XS.i2dS X0.here hx rfl (hb hby at_8) rfl rfl k) ?_
  refine own_vFW m s₁ 12 #[vI x1, vI x2, vI x3, vI r, .unset, .unset, .unset, .unset, .unset, .unset, .unset, .unset, .unset] [(.double (4611686018427387904 : UInt64)), (.double (FP.i2d r))] (fun t k => X0.ldc2DoubleC hx hown (mvT hZ (hw _ (own_mt 1 rfl))) (g := (mkF m 9 #[vI x1, vI x2, vI x3, vI r, .unset, .unset, .unset, .unset, .unset, .unset, .unset, .unset, .unset] [(.double (FP.i2d r))])) rfl (hb hby at_9) _ k) ?_
  refine own_vFW m s₁ 13 #[vI x1, vI x2, vI x3, vI r, .unset, .unset, .unset, .unset, .unset, .unset, .unset, .unset, .unset] [(.double (FP.ddiv (FP.i2d r) (4611686018427387904 : UInt64)))] (fun t k => XS.ddivS X0.here hx rfl (hb hby at_12) rfl (own_fr r).noNaN rfl k) ?_
  refine own_vFW m s₁ 15 #[vI x1, vI x2, vI x3, vI r, .val (.double (FP.ddiv (FP.i2d r) (4611686018427387904 : UInt64))), .second, .unset, .unset, .unset, .unset, .unset, .unset, .unset] [] (fun t k => XS.dstore X0.here hx rfl (hb hby at_13) rfl (l' := #[vI x1, vI x2, vI x3, vI r, .val (.double (FP.ddiv (FP.i2d r) (4611686018427387904 : UInt64))), .second, .unset, .unset, .unset, .unset, .unset, .unset, .unset]) rfl k) ?_
  refine own_vFW m s₁ 16 #[vI x1, vI x2, vI x3, vI r, .val (.double (FP.ddiv (FP.i2d r) (4611686018427387904 : UInt64))), .second, .unset, .unset, .unset, .unset, .unset, .unset, .unset] [(.int x3)] (fun t k => XS.iloadN X0.here hx rfl (hb hby at_15) rfl k) ?_
  refine own_vFW m s₁ 17 #[vI x1, vI x2, vI x3, vI r, .val (.double (FP.ddiv (FP.i2d r) (4611686018427387904 : UInt64))), .second, .unset, .unset, .unset, .unset, .unset, .unset, .unset] [(.int 1), (.int x3)] (fun t k => XS.iconst X0.here hx rfl (hb hby at_16) k) ?_
  refine own_vFW m s₁ 18 #[vI x1, vI x2, vI x3, vI r, .val (.double (FP.ddiv (FP.i2d r) (4611686018427387904 : UInt64))), .second, .unset, .unset, .unset, .unset, .unset, .unset, .unset] [(.int (x3 &&& (1 : Int32)))] (fun t k => XS.iand X0.here hx rfl (hb hby at_17) rfl k) ?_
  refine own_viaW (U' := s₁.setTop (mkF m 37 #[vI x1, vI x2, vI x3, vI r, .val (.double (FP.ddiv (FP.i2d r) (4611686018427387904 : UInt64))), .second, .val (.long (if (x3 &&& (1 : Int32)) = (0 : Int32) then (x2.toInt64) else ((r.toInt64) + ((x2 % (3 : Int32)).toInt64)))), .second, .unset, .unset, .unset, .unset, .unset] [])) (fun t k => ?_) ?_
  · by_cases hc1 : (x3 &&& (1 : Int32)) = (0 : Int32)
    case pos =>
      simp only [if_pos hc1] at k
      refine XS.ifYes X0.here hx rfl (pc0 := 18) (pc' := 33) rfl (hb hby at_18) rfl ((if0 _ _).trans (teq hc1).1) (by decide) (by decide) ?_
      show Steps p.tables e below (s₁.setTop (mkF m 33 #[vI x1, vI x2, vI x3, vI r, .val (.double (FP.ddiv (FP.i2d r) (4611686018427387904 : UInt64))), .second, .unset, .unset, .unset, .unset, .unset, .unset, .unset] [])) _
      refine XS.iloadN X0.here hx rfl (hb hby at_33) rfl ?_
      show Steps p.tables e below (s₁.setTop (mkF m 34 #[vI x1, vI x2, vI x3, vI r, .val (.double (FP.ddiv (FP.i2d r) (4611686018427387904 : UInt64))), .second, .unset, .unset, .unset, .unset, .unset, .unset, .unset] [(.int x2)])) _
      refine XS.i2l X0.here hx rfl (hb hby at_34) rfl ?_
      show Steps p.tables e below (s₁.setTop (mkF m 35 #[vI x1, vI x2, vI x3, vI r, .val (.double (FP.ddiv (FP.i2d r) (4611686018427387904 : UInt64))), .second, .unset, .unset, .unset, .unset, .unset, .unset, .unset] [(.long (x2.toInt64))])) _
      refine XS.lstore X0.here hx rfl (hb hby at_35) rfl (l' := #[vI x1, vI x2, vI x3, vI r, .val (.double (FP.ddiv (FP.i2d r) (4611686018427387904 : UInt64))), .second, .val (.long (x2.toInt64)), .second, .unset, .unset, .unset, .unset, .unset]) rfl ?_
      show Steps p.tables e below (s₁.setTop (mkF m 37 #[vI x1, vI x2, vI x3, vI r, .val (.double (FP.ddiv (FP.i2d r) (4611686018427387904 : UInt64))), .second, .val (.long (x2.toInt64)), .second, .unset, .unset, .unset, .unset, .unset] [])) _
      exact k
    case neg =>
      simp only [if_neg hc1] at k
      refine XS.ifNo X0.here hx rfl (hb hby at_18) rfl ((if0 _ _).trans (feq hc1).1) ?_
      show Steps p.tables e below (s₁.setTop (mkF m 21 #[vI x1, vI x2, vI x3, vI r, .val (.double (FP.ddiv (FP.i2d r) (4611686018427387904 : UInt64))), .second, .unset, .unset, .unset, .unset, .unset, .unset, .unset] [])) _
      refine XS.iloadN X0.here hx rfl (hb hby at_21) rfl ?_
      show Steps p.tables e below (s₁.setTop (mkF m 22 #[vI x1, vI x2, vI x3, vI r, .val (.double (FP.ddiv (FP.i2d r) (4611686018427387904 : UInt64))), .second, .unset, .unset, .unset, .unset, .unset, .unset, .unset] [(.int r)])) _
      refine XS.i2l X0.here hx rfl (hb hby at_22) rfl ?_
      show Steps p.tables e below (s₁.setTop (mkF m 23 #[vI x1, vI x2, vI x3, vI r, .val (.double (FP.ddiv (FP.i2d r) (4611686018427387904 : UInt64))), .second, .unset, .unset, .unset, .unset, .unset, .unset, .unset] [(.long (r.toInt64))])) _
      refine XS.iloadN X0.here hx rfl (hb hby at_23) rfl ?_
      show Steps p.tables e below (s₁.setTop (mkF m 24 #[vI x1, vI x2, vI x3, vI r, .val (.double (FP.ddiv (FP.i2d r) (4611686018427387904 : UInt64))), .second, .unset, .unset, .unset, .unset, .unset, .unset, .unset] [(.int x2), (.long (r.toInt64))])) _
      refine XS.iconst X0.here hx rfl (hb hby at_24) ?_
      show Steps p.tables e below (s₁.setTop (mkF m 25 #[vI x1, vI x2, vI x3, vI r, .val (.double (FP.ddiv (FP.i2d r) (4611686018427387904 : UInt64))), .second, .unset, .unset, .unset, .unset, .unset, .unset, .unset] [(.int 3), (.int x2), (.long (r.toInt64))])) _
      refine iremM X0 hx rfl (hb hby at_25) rfl (by decide) ?_
      show Steps p.tables e below (s₁.setTop (mkF m 26 #[vI x1, vI x2, vI x3, vI r, .val (.double (FP.ddiv (FP.i2d r) (4611686018427387904 : UInt64))), .second, .unset, .unset, .unset, .unset, .unset, .unset, .unset] [(.int (x2 % (3 : Int32))), (.long (r.toInt64))])) _
      refine XS.i2l X0.here hx rfl (hb hby at_26) rfl ?_
      show Steps p.tables e below (s₁.setTop (mkF m 27 #[vI x1, vI x2, vI x3, vI r, .val (.double (FP.ddiv (FP.i2d r) (4611686018427387904 : UInt64))), .second, .unset, .unset, .unset, .unset, .unset, .unset, .unset] [(.long ((x2 % (3 : Int32)).toInt64)), (.long (r.toInt64))])) _
      refine XS.ladd X0.here hx rfl (hb hby at_27) rfl ?_
      show Steps p.tables e below (s₁.setTop (mkF m 28 #[vI x1, vI x2, vI x3, vI r, .val (.double (FP.ddiv (FP.i2d r) (4611686018427387904 : UInt64))), .second, .unset, .unset, .unset, .unset, .unset, .unset, .unset] [(.long ((r.toInt64) + ((x2 % (3 : Int32)).toInt64)))])) _
      refine XS.lstore X0.here hx rfl (hb hby at_28) rfl (l' := #[vI x1, vI x2, vI x3, vI r, .val (.double (FP.ddiv (FP.i2d r) (4611686018427387904 : UInt64))), .second, .val (.long ((r.toInt64) + ((x2 % (3 : Int32)).toInt64))), .second, .unset, .unset, .unset, .unset, .unset]) rfl ?_
      show Steps p.tables e below (s₁.setTop (mkF m 30 #[vI x1, vI x2, vI x3, vI r, .val (.double (FP.ddiv (FP.i2d r) (4611686018427387904 : UInt64))), .second, .val (.long ((r.toInt64) + ((x2 % (3 : Int32)).toInt64))), .second, .unset, .unset, .unset, .unset, .unset] [])) _
      refine XS.goto X0.here hx rfl (pc0 := 30) (pc' := 37) rfl (hb hby at_30) (by decide) (by decide) ?_
      show Steps p.tables e below (s₁.setTop (mkF m 37 #[vI x1, vI x2, vI x3, vI r, .val (.double (FP.ddiv (FP.i2d r) (4611686018427387904 : UInt64))), .second, .val (.long ((r.toInt64) + ((x2 % (3 : Int32)).toInt64))), .second, .unset, .unset, .unset, .unset, .unset] [])) _
      exact k
  have hq53 : B53 (if (x3 &&& (1 : Int32)) = (0 : Int32) then (x2.toInt64) else ((r.toInt64) + ((x2 % (3 : Int32)).toInt64))) := own_bq _ _
  generalize (if (x3 &&& (1 : Int32)) = (0 : Int32) then (x2.toInt64) else ((r.toInt64) + ((x2 % (3 : Int32)).toInt64))) = q at hq53 ⊢
  refine own_vFW m s₁ 39 #[vI x1, vI x2, vI x3, vI r, .val (.double (FP.ddiv (FP.i2d r) (4611686018427387904 : UInt64))), .second, .val (.long q), .second, .unset, .unset, .unset, .unset, .unset] [(.long q)] (fun t k => XS.lload X0.here hx rfl (hb hby at_37) rfl k) ?_
  refine own_vFW m s₁ 40 #[vI x1, vI x2, vI x3, vI r, .val (.double (FP.ddiv (FP.i2d r) (4611686018427387904 : UInt64))), .second, .val (.long q), .second, .unset, .unset, .unset, .unset, .unset] [(.double (FP.l2d q))] (fun t k => XS.l2dS X0.here hx rfl (hb hby at_39) rfl rfl k) ?_
  refine own_vFW m s₁ 43 #[vI x1, vI x2, vI x3, vI r, .val (.double (FP.ddiv (FP.i2d r) (4611686018427387904 : UInt64))), .second, .val (.long q), .second, .unset, .unset, .unset, .unset, .unset] [(.double (4611686018427387904 : UInt64)), (.double (FP.l2d q))] (fun t k => X0.ldc2DoubleC hx hown (mvT hZ (hw _ (own_mt 1 rfl))) (g := (mkF m 40 #[vI x1, vI x2, vI x3, vI r, .val (.double (FP.ddiv (FP.i2d r) (4611686018427387904 : UInt64))), .second, .val (.long q), .second, .unset, .unset, .unset, .unset, .unset] [(.double (FP.l2d q))])) rfl (hb hby at_40) _ k) ?_
  refine own_vFW m s₁ 44 #[vI x1, vI x2, vI x3, vI r, .val (.double (FP.ddiv (FP.i2d r) (4611686018427387904 : UInt64))), .second, .val (.long q), .second, .unset, .unset, .unset, .unset, .unset] [(.double (FP.ddiv (FP.l2d q) (4611686018427387904 : UInt64)))] (fun t k => XS.ddivS X0.here hx rfl (hb hby at_43) rfl (own_fq hq53).noNaN rfl k) ?_
  refine own_vFW m s₁ 46 #[vI x1, vI x2, vI x3, vI r, .val (.double (FP.ddiv (FP.i2d r) (4611686018427387904 : UInt64))), .second, .val (.long q), .second, .val (.double (FP.ddiv (FP.l2d q) (4611686018427387904 : UInt64))), .second, .unset, .unset, .unset] [] (fun t k => XS.dstore X0.here hx rfl (hb hby at_44) rfl (l' := #[vI x1, vI x2, vI x3, vI r, .val (.double (FP.ddiv (FP.i2d r) (4611686018427387904 : UInt64))), .second, .val (.long q), .second, .val (.double (FP.ddiv (FP.l2d q) (4611686018427387904 : UInt64))), .second, .unset, .unset, .unset]) rfl k) ?_
  obtain ⟨T2, h2, X2, e2, E2, A2, D2, -, st2⟩ := newO X0 hx hZ hown (hw _ (own_mt 2 rfl)) (hw _ (own_mt 3 rfl)) (hw _ (own_mt 4 rfl)) e0 (g := (mkF m 46 #[vI x1, vI x2, vI x3, vI r, .val (.double (FP.ddiv (FP.i2d r) (4611686018427387904 : UInt64))), .second, .val (.long q), .second, .val (.double (FP.ddiv (FP.l2d q) (4611686018427387904 : UInt64))), .second, .unset, .unset, .unset] [])) rfl (hb hby at_46) (by decide) (by decide)
  obtain ⟨b2, g2⟩ : ∃ z, z = h0.size := ⟨_, rfl⟩
  rw [← g2] at A2 D2 st2
  have gn_b2 : n0 ≤ b2 := Nat.le_trans Z0 (Nat.le_of_eq g2.symm)
  have f3 := Od.ext E2
  have f4 : Fld Z h2 b2 "com/example/lightpath_planner/lightpathplanner/ModulationFormat" "name" "Ljava/lang/String;" .null := D2 (Or.inr (hw _ (own_mt 75 rfl))) (ty := (.object "java/lang/String")) (by decide)
  have f5 : Fld Z h2 b2 "com/example/lightpath_planner/lightpathplanner/ModulationFormat" "efficiency" "D" (.double (0 : UInt64)) := D2 (Or.inr (hw _ (own_mt 209 rfl))) (ty := .double) (by decide)
  have f6 : Fld Z h2 b2 "com/example/lightpath_planner/lightpathplanner/ModulationFormat" "reachKm" "D" (.double (0 : UInt64)) := D2 (Or.inr (hw _ (own_mt 212 rfl))) (ty := .double) (by decide)
  have Z7 : n0 ≤ h2.size := Nat.le_trans Z0 E2.1
  refine own_vFW m T2 49 #[vI x1, vI x2, vI x3, vI r, .val (.double (FP.ddiv (FP.i2d r) (4611686018427387904 : UInt64))), .second, .val (.long q), .second, .val (.double (FP.ddiv (FP.l2d q) (4611686018427387904 : UInt64))), .second, .unset, .unset, .unset] [(.ref b2)] (fun t k => st2 t k) ?_
  refine own_vFW m T2 50 #[vI x1, vI x2, vI x3, vI r, .val (.double (FP.ddiv (FP.i2d r) (4611686018427387904 : UInt64))), .second, .val (.long q), .second, .val (.double (FP.ddiv (FP.l2d q) (4611686018427387904 : UInt64))), .second, .unset, .unset, .unset] [(.ref b2), (.ref b2)] (fun t k => XS.dup X2.here hx rfl (hb hby at_49) rfl rfl k) ?_
  obtain ⟨b8a, T8, h8, k1_8, b8v, k8, X8, e8, E8, hS, hk8, hZ, hown, A8, Fc8, Fv8, V8, -, -, hC8, Li8, hne8, st8⟩ := ldcCH (s := s) (vm0 := s.vm) (vs := [.int 70]) (z := (1 : Int32)) X2 hx hZ hown (hw _ (own_mt 5 rfl)) (own_wS hw) e2 ((State.WarmedH.refl s).since 0) (Nat.zero_le _) hEL (own_mt 3 rfl) (hCH.ext f3.2) ⟨by decide, rfl⟩ (by decide) rfl (g := (mkF m 50 #[vI x1, vI x2, vI x3, vI r, .val (.double (FP.ddiv (FP.i2d r) (4611686018427387904 : UInt64))), .second, .val (.long q), .second, .val (.double (FP.ddiv (FP.l2d q) (4611686018427387904 : UInt64))), .second, .unset, .unset, .unset] [(.ref b2), (.ref b2)])) rfl (hb hby at_50) (n := 4) (by decide) (by decide) (by decide) (by decide)
  have f9 := f3.ext E8
  have f10 := A2.ext E8
  have f11 := f4.ext E8
  have f12 := f5.ext E8
  have f13 := f6.ext E8
  have Z14 : n0 ≤ h8.size := Nat.le_trans Z7 E8.1
  refine own_vFW m T8 52 #[vI x1, vI x2, vI x3, vI r, .val (.double (FP.ddiv (FP.i2d r) (4611686018427387904 : UInt64))), .second, .val (.long q), .second, .val (.double (FP.ddiv (FP.l2d q) (4611686018427387904 : UInt64))), .second, .unset, .unset, .unset] [(.ref b8a), (.ref b2), (.ref b2)] (fun t k => st8 t k) ?_
  refine own_vFW m T8 53 #[vI x1, vI x2, vI x3, vI r, .val (.double (FP.ddiv (FP.i2d r) (4611686018427387904 : UInt64))), .second, .val (.long q), .second, .val (.double (FP.ddiv (FP.l2d q) (4611686018427387904 : UInt64))), .second, .unset, .unset, .unset] [(.double (4607182418800017408 : UInt64)), (.ref b8a), (.ref b2), (.ref b2)] (fun t k => XS.dconst1 X8.here hx rfl (hb hby at_52) rfl k) ?_
  refine own_vFW m T8 55 #[vI x1, vI x2, vI x3, vI r, .val (.double (FP.ddiv (FP.i2d r) (4611686018427387904 : UInt64))), .second, .val (.long q), .second, .val (.double (FP.ddiv (FP.l2d q) (4611686018427387904 : UInt64))), .second, .unset, .unset, .unset] [(.double (FP.ddiv (FP.i2d r) (4611686018427387904 : UInt64))), (.double (4607182418800017408 : UInt64)), (.ref b8a), (.ref b2), (.ref b2)] (fun t k => XS.dload X8.here hx rfl (hb hby at_53) rfl k) ?_
  obtain ⟨_, T15, L15, X15, hSx, hZ, hown, hQ15, st15⟩ := own_callIX (s := s) (vm0 := T8.vm) X8 hx hZ hEL hC8.1 (y := (⟨"com/example/lightpath_planner/lightpathplanner/ModulationFormat", "<init>", "(Ljava/lang/String;DD)V"⟩ : MethodName)) rfl (W := 1) hown (hw _ (own_mt 13 rfl)) (hw _ (own_mt 14 rfl)) (hw _ (own_mt 4 rfl)) (hw _ (own_mt 15 rfl)) (by decide) (rm_Qmf l Z a0 hw b2 b8a b8v k8 (FP.ddiv (FP.i2d r) (4611686018427387904 : UInt64)) cs ci ca h8 n0 Z14 f9 SS f10 f11 f12 f13 gn_b2 A8 Fc8 Fv8 V8 (own_rpos hr1) (own_fr r)) (by decide) (by decide) e8 (a := b2) (g := (mkF m 55 #[vI x1, vI x2, vI x3, vI r, .val (.double (FP.ddiv (FP.i2d r) (4611686018427387904 : UInt64))), .second, .val (.long q), .second, .val (.double (FP.ddiv (FP.l2d q) (4611686018427387904 : UInt64))), .second, .unset, .unset, .unset] [(.double (FP.ddiv (FP.i2d r) (4611686018427387904 : UInt64))), (.double (4607182418800017408 : UInt64)), (.ref b8a), (.ref b2), (.ref b2)])) rfl (by rw [hml]; rfl) (argsL := [(.ref b8a), (.double (4607182418800017408 : UInt64)), (.double (FP.ddiv (FP.i2d r) (4611686018427387904 : UInt64)))]) (rest := [(.ref b2)]) rfl (lenOf pd_Ljava_lang_String_DD__V rfl) rfl own_w0 (hb hby at_55) (by decide) (by decide)
  obtain ⟨rfl, N15q, K15q, E15q, F15q⟩ := hQ15
  have N15 := Fr.app N0 N15q
  have hS := hS.trans hSx (Nat.le_trans hk8 K15q.1)
  have Z17 : n0 ≤ T15.heap.size := Nat.le_trans Z14 K15q.1
  have hk15 : T15.heap.size ≤ T15.heap.size := Nat.le_refl _
  refine own_vFW m T15 58 #[vI x1, vI x2, vI x3, vI r, .val (.double (FP.ddiv (FP.i2d r) (4611686018427387904 : UInt64))), .second, .val (.long q), .second, .val (.double (FP.ddiv (FP.l2d q) (4611686018427387904 : UInt64))), .second, .unset, .unset, .unset] [(.ref b2)] (fun t k => st15 t k) ?_
  refine own_vFW m T15 60 #[vI x1, vI x2, vI x3, vI r, .val (.double (FP.ddiv (FP.i2d r) (4611686018427387904 : UInt64))), .second, .val (.long q), .second, .val (.double (FP.ddiv (FP.l2d q) (4611686018427387904 : UInt64))), .second, vR b2, .unset, .unset] [] (fun t k => XS.astore X15.here hx rfl (hb hby at_58) rfl rfl (l' := #[vI x1, vI x2, vI x3, vI r, .val (.double (FP.ddiv (FP.i2d r) (4611686018427387904 : UInt64))), .second, .val (.long q), .second, .val (.double (FP.ddiv (FP.l2d q) (4611686018427387904 : UInt64))), .second, vR b2, .unset, .unset]) rfl k) ?_
  refine own_vFW m T15 62 #[vI x1, vI x2, vI x3, vI r, .val (.double (FP.ddiv (FP.i2d r) (4611686018427387904 : UInt64))), .second, .val (.long q), .second, .val (.double (FP.ddiv (FP.l2d q) (4611686018427387904 : UInt64))), .second, vR b2, .unset, .unset] [(.ref b2)] (fun t k => XS.aload X15.here hx rfl (hb hby at_60) rfl rfl k) ?_
  refine own_vFW m T15 64 #[vI x1, vI x2, vI x3, vI r, .val (.double (FP.ddiv (FP.i2d r) (4611686018427387904 : UInt64))), .second, .val (.long q), .second, .val (.double (FP.ddiv (FP.l2d q) (4611686018427387904 : UInt64))), .second, vR b2, .unset, .unset] [(.double (FP.ddiv (FP.l2d q) (4611686018427387904 : UInt64))), (.ref b2)] (fun t k => XS.dload X15.here hx rfl (hb hby at_62) rfl k) ?_
  obtain ⟨_, T18, L18, X18, hQ18, st18⟩ := own_callV X15 hx hZ (y := (⟨"com/example/lightpath_planner/lightpathplanner/ModulationFormat", "reaches", "(D)Z"⟩ : MethodName)) (W := 0) (C := "com/example/lightpath_planner/lightpathplanner/ModulationFormat") hown (hw _ (own_mt 213 rfl)) (hw _ (own_mt 214 rfl)) (hw _ (own_mt 216 rfl)) (hw _ (own_mt 215 rfl)) (hw _ (own_mt 4 rfl)) (hw _ (own_mt 217 rfl)) (by decide) (rm_Qre l Z a0 hw b2 (FP.ddiv (FP.i2d r) (4611686018427387904 : UInt64)) (FP.ddiv (FP.l2d q) (4611686018427387904 : UInt64)) (r.toInt64) q T15.heap n0 Z17 F15q (own_rq hr1 hq53)) (by decide) (by decide) rfl E15q (g := (mkF m 64 #[vI x1, vI x2, vI x3, vI r, .val (.double (FP.ddiv (FP.i2d r) (4611686018427387904 : UInt64))), .second, .val (.long q), .second, .val (.double (FP.ddiv (FP.l2d q) (4611686018427387904 : UInt64))), .second, vR b2, .unset, .unset] [(.double (FP.ddiv (FP.l2d q) (4611686018427387904 : UInt64))), (.ref b2)])) rfl (by rw [hml]; rfl) (argsL := [(.double (FP.ddiv (FP.l2d q) (4611686018427387904 : UInt64)))]) (rest := []) rfl (lenOf pd_D__Z rfl) rfl own_w0 (hb hby at_64) (by decide) (by decide)
  obtain ⟨rfl, N18q, e18⟩ := hQ18
  have N18 := Fr.app N15 N18q
  refine own_vFW m T18 67 #[vI x1, vI x2, vI x3, vI r, .val (.double (FP.ddiv (FP.i2d r) (4611686018427387904 : UInt64))), .second, .val (.long q), .second, .val (.double (FP.ddiv (FP.l2d q) (4611686018427387904 : UInt64))), .second, vR b2, .unset, .unset] [(.int (if (r.toInt64) < q then (0 : Int32) else (1 : Int32)))] (fun t k => st18 t k) ?_
  refine own_vFW m T18 69 #[vI x1, vI x2, vI x3, vI r, .val (.double (FP.ddiv (FP.i2d r) (4611686018427387904 : UInt64))), .second, .val (.long q), .second, .val (.double (FP.ddiv (FP.l2d q) (4611686018427387904 : UInt64))), .second, vR b2, .val (.int (if (r.toInt64) < q then (0 : Int32) else (1 : Int32))), .unset] [] (fun t k => XS.istore X18.here hx rfl (hb hby at_67) rfl (l' := #[vI x1, vI x2, vI x3, vI r, .val (.double (FP.ddiv (FP.i2d r) (4611686018427387904 : UInt64))), .second, .val (.long q), .second, .val (.double (FP.ddiv (FP.l2d q) (4611686018427387904 : UInt64))), .second, vR b2, .val (.int (if (r.toInt64) < q then (0 : Int32) else (1 : Int32))), .unset]) rfl k) ?_
  refine own_vFW m T18 70 #[vI x1, vI x2, vI x3, vI r, .val (.double (FP.ddiv (FP.i2d r) (4611686018427387904 : UInt64))), .second, .val (.long q), .second, .val (.double (FP.ddiv (FP.l2d q) (4611686018427387904 : UInt64))), .second, vR b2, .val (.int (if (r.toInt64) < q then (0 : Int32) else (1 : Int32))), .unset] [(.int r)] (fun t k => XS.iloadN X18.here hx rfl (hb hby at_69) rfl k) ?_
  refine own_vFW m T18 71 #[vI x1, vI x2, vI x3, vI r, .val (.double (FP.ddiv (FP.i2d r) (4611686018427387904 : UInt64))), .second, .val (.long q), .second, .val (.double (FP.ddiv (FP.l2d q) (4611686018427387904 : UInt64))), .second, vR b2, .val (.int (if (r.toInt64) < q then (0 : Int32) else (1 : Int32))), .unset] [(.long (r.toInt64))] (fun t k => XS.i2l X18.here hx rfl (hb hby at_70) rfl k) ?_
  refine own_vFW m T18 73 #[vI x1, vI x2, vI x3, vI r, .val (.double (FP.ddiv (FP.i2d r) (4611686018427387904 : UInt64))), .second, .val (.long q), .second, .val (.double (FP.ddiv (FP.l2d q) (4611686018427387904 : UInt64))), .second, vR b2, .val (.int (if (r.toInt64) < q then (0 : Int32) else (1 : Int32))), .unset] [(.long q), (.long (r.toInt64))] (fun t k => XS.lload X18.here hx rfl (hb hby at_71) rfl k) ?_
  refine own_vFW m T18 74 #[vI x1, vI x2, vI x3, vI r, .val (.double (FP.ddiv (FP.i2d r) (4611686018427387904 : UInt64))), .second, .val (.long q), .second, .val (.double (FP.ddiv (FP.l2d q) (4611686018427387904 : UInt64))), .second, vR b2, .val (.int (if (r.toInt64) < q then (0 : Int32) else (1 : Int32))), .unset] [(.int (lcmpW (r.toInt64) q))] (fun t k => XS.lcmp X18.here hx rfl (hb hby at_73) rfl k) ?_
  by_cases hc19 : (r.toInt64) < q
  case pos =>
    refine own_vFW m T18 81 #[vI x1, vI x2, vI x3, vI r, .val (.double (FP.ddiv (FP.i2d r) (4611686018427387904 : UInt64))), .second, .val (.long q), .second, .val (.double (FP.ddiv (FP.l2d q) (4611686018427387904 : UInt64))), .second, vR b2, .val (.int (if (r.toInt64) < q then (0 : Int32) else (1 : Int32))), .unset] [] (fun t k => XS.ifYes X18.here hx rfl (pc0 := 74) (pc' := 81) rfl (hb hby at_74) rfl (own_jlt hc19).1 (by decide) (by decide) k) ?_
    refine own_vFW m T18 82 #[vI x1, vI x2, vI x3, vI r, .val (.double (FP.ddiv (FP.i2d r) (4611686018427387904 : UInt64))), .second, .val (.long q), .second, .val (.double (FP.ddiv (FP.l2d q) (4611686018427387904 : UInt64))), .second, vR b2, .val (.int (if (r.toInt64) < q then (0 : Int32) else (1 : Int32))), .unset] [(.int 0)] (fun t k => XS.iconst X18.here hx rfl (hb hby at_81) k) ?_
    refine own_vFW m T18 84 #[vI x1, vI x2, vI x3, vI r, .val (.double (FP.ddiv (FP.i2d r) (4611686018427387904 : UInt64))), .second, .val (.long q), .second, .val (.double (FP.ddiv (FP.l2d q) (4611686018427387904 : UInt64))), .second, vR b2, .val (.int (if (r.toInt64) < q then (0 : Int32) else (1 : Int32))), vI (0 : Int32)] [] (fun t k => XS.istore X18.here hx rfl (hb hby at_82) rfl (l' := #[vI x1, vI x2, vI x3, vI r, .val (.double (FP.ddiv (FP.i2d r) (4611686018427387904 : UInt64))), .second, .val (.long q), .second, .val (.double (FP.ddiv (FP.l2d q) (4611686018427387904 : UInt64))), .second, vR b2, .val (.int (if (r.toInt64) < q then (0 : Int32) else (1 : Int32))), vI (0 : Int32)]) rfl k) ?_
    refine own_vFW m T18 86 #[vI x1, vI x2, vI x3, vI r, .val (.double (FP.ddiv (FP.i2d r) (4611686018427387904 : UInt64))), .second, .val (.long q), .second, .val (.double (FP.ddiv (FP.l2d q) (4611686018427387904 : UInt64))), .second, vR b2, .val (.int (if (r.toInt64) < q then (0 : Int32) else (1 : Int32))), vI (0 : Int32)] [(.int (if (r.toInt64) < q then (0 : Int32) else (1 : Int32)))] (fun t k => XS.iload X18.here hx rfl (hb hby at_84) rfl k) ?_
    refine own_vFW m T18 88 #[vI x1, vI x2, vI x3, vI r, .val (.double (FP.ddiv (FP.i2d r) (4611686018427387904 : UInt64))), .second, .val (.long q), .second, .val (.double (FP.ddiv (FP.l2d q) (4611686018427387904 : UInt64))), .second, vR b2, .val (.int (if (r.toInt64) < q then (0 : Int32) else (1 : Int32))), vI (0 : Int32)] [(.int 0), (.int (if (r.toInt64) < q then (0 : Int32) else (1 : Int32)))] (fun t k => XS.iload X18.here hx rfl (hb hby at_86) rfl k) ?_
    refine own_vFW m T18 91 #[vI x1, vI x2, vI x3, vI r, .val (.double (FP.ddiv (FP.i2d r) (4611686018427387904 : UInt64))), .second, .val (.long q), .second, .val (.double (FP.ddiv (FP.l2d q) (4611686018427387904 : UInt64))), .second, vR b2, .val (.int (if (r.toInt64) < q then (0 : Int32) else (1 : Int32))), vI (0 : Int32)] [] (fun t k => XS.icmpNo X18.here hx rfl (hb hby at_88) rfl (teq (if_pos hc19)).2 k) ?_
    refine own_vFW m T18 92 #[vI x1, vI x2, vI x3, vI r, .val (.double (FP.ddiv (FP.i2d r) (4611686018427387904 : UInt64))), .second, .val (.long q), .second, .val (.double (FP.ddiv (FP.l2d q) (4611686018427387904 : UInt64))), .second, vR b2, .val (.int (if (r.toInt64) < q then (0 : Int32) else (1 : Int32))), vI (0 : Int32)] [(.int 1)] (fun t k => XS.iconst X18.here hx rfl (hb hby at_91) k) ?_
    refine own_vFW m T18 96 #[vI x1, vI x2, vI x3, vI r, .val (.double (FP.ddiv (FP.i2d r) (4611686018427387904 : UInt64))), .second, .val (.long q), .second, .val (.double (FP.ddiv (FP.l2d q) (4611686018427387904 : UInt64))), .second, vR b2, .val (.int (if (r.toInt64) < q then (0 : Int32) else (1 : Int32))), vI (0 : Int32)] [(.int 1)] (fun t k => XS.goto X18.here hx rfl (pc0 := 92) (pc' := 96) rfl (hb hby at_92) (by decide) (by decide) k) ?_
    exact own_retW (s := s) X18 hS (by rw [e18]; exact hk15) (v := some (.int 1)) (fun h => by rw [Bd.returns] at h; cases h) hlk (fun fs hr => retN X18 hx (t := .boolean) Bd.returns (by simp) (hb hby at_96) hr) (by rw [e18]; exact ⟨rfl, N18⟩) (by decide) (by decide)
  case neg =>
    refine own_vFW m T18 77 #[vI x1, vI x2, vI x3, vI r, .val (.double (FP.ddiv (FP.i2d r) (4611686018427387904 : UInt64))), .second, .val (.long q), .second, .val (.double (FP.ddiv (FP.l2d q) (4611686018427387904 : UInt64))), .second, vR b2, .val (.int (if (r.toInt64) < q then (0 : Int32) else (1 : Int32))), .unset] [] (fun t k => XS.ifNo X18.here hx rfl (hb hby at_74) rfl (own_jnlt hc19).1 k) ?_
    refine own_vFW m T18 78 #[vI x1, vI x2, vI x3, vI r, .val (.double (FP.ddiv (FP.i2d r) (4611686018427387904 : UInt64))), .second, .val (.long q), .second, .val (.double (FP.ddiv (FP.l2d q) (4611686018427387904 : UInt64))), .second, vR b2, .val (.int (if (r.toInt64) < q then (0 : Int32) else (1 : Int32))), .unset] [(.int 1)] (fun t k => XS.iconst X18.here hx rfl (hb hby at_77) k) ?_
    refine own_vFW m T18 82 #[vI x1, vI x2, vI x3, vI r, .val (.double (FP.ddiv (FP.i2d r) (4611686018427387904 : UInt64))), .second, .val (.long q), .second, .val (.double (FP.ddiv (FP.l2d q) (4611686018427387904 : UInt64))), .second, vR b2, .val (.int (if (r.toInt64) < q then (0 : Int32) else (1 : Int32))), .unset] [(.int 1)] (fun t k => XS.goto X18.here hx rfl (pc0 := 78) (pc' := 82) rfl (hb hby at_78) (by decide) (by decide) k) ?_
    refine own_vFW m T18 84 #[vI x1, vI x2, vI x3, vI r, .val (.double (FP.ddiv (FP.i2d r) (4611686018427387904 : UInt64))), .second, .val (.long q), .second, .val (.double (FP.ddiv (FP.l2d q) (4611686018427387904 : UInt64))), .second, vR b2, .val (.int (if (r.toInt64) < q then (0 : Int32) else (1 : Int32))), vI (1 : Int32)] [] (fun t k => XS.istore X18.here hx rfl (hb hby at_82) rfl (l' := #[vI x1, vI x2, vI x3, vI r, .val (.double (FP.ddiv (FP.i2d r) (4611686018427387904 : UInt64))), .second, .val (.long q), .second, .val (.double (FP.ddiv (FP.l2d q) (4611686018427387904 : UInt64))), .second, vR b2, .val (.int (if (r.toInt64) < q then (0 : Int32) else (1 : Int32))), vI (1 : Int32)]) rfl k) ?_
    refine own_vFW m T18 86 #[vI x1, vI x2, vI x3, vI r, .val (.double (FP.ddiv (FP.i2d r) (4611686018427387904 : UInt64))), .second, .val (.long q), .second, .val (.double (FP.ddiv (FP.l2d q) (4611686018427387904 : UInt64))), .second, vR b2, .val (.int (if (r.toInt64) < q then (0 : Int32) else (1 : Int32))), vI (1 : Int32)] [(.int (if (r.toInt64) < q then (0 : Int32) else (1 : Int32)))] (fun t k => XS.iload X18.here hx rfl (hb hby at_84) rfl k) ?_
    refine own_vFW m T18 88 #[vI x1, vI x2, vI x3, vI r, .val (.double (FP.ddiv (FP.i2d r) (4611686018427387904 : UInt64))), .second, .val (.long q), .second, .val (.double (FP.ddiv (FP.l2d q) (4611686018427387904 : UInt64))), .second, vR b2, .val (.int (if (r.toInt64) < q then (0 : Int32) else (1 : Int32))), vI (1 : Int32)] [(.int 1), (.int (if (r.toInt64) < q then (0 : Int32) else (1 : Int32)))] (fun t k => XS.iload X18.here hx rfl (hb hby at_86) rfl k) ?_
    refine own_vFW m T18 91 #[vI x1, vI x2, vI x3, vI r, .val (.double (FP.ddiv (FP.i2d r) (4611686018427387904 : UInt64))), .second, .val (.long q), .second, .val (.double (FP.ddiv (FP.l2d q) (4611686018427387904 : UInt64))), .second, vR b2, .val (.int (if (r.toInt64) < q then (0 : Int32) else (1 : Int32))), vI (1 : Int32)] [] (fun t k => XS.icmpNo X18.here hx rfl (hb hby at_88) rfl (teq (if_neg hc19)).2 k) ?_
    refine own_vFW m T18 92 #[vI x1, vI x2, vI x3, vI r, .val (.double (FP.ddiv (FP.i2d r) (4611686018427387904 : UInt64))), .second, .val (.long q), .second, .val (.double (FP.ddiv (FP.l2d q) (4611686018427387904 : UInt64))), .second, vR b2, .val (.int (if (r.toInt64) < q then (0 : Int32) else (1 : Int32))), vI (1 : Int32)] [(.int 1)] (fun t k => XS.iconst X18.here hx rfl (hb hby at_91) k) ?_
    refine own_vFW m T18 96 #[vI x1, vI x2, vI x3, vI r, .val (.double (FP.ddiv (FP.i2d r) (4611686018427387904 : UInt64))), .second, .val (.long q), .second, .val (.double (FP.ddiv (FP.l2d q) (4611686018427387904 : UInt64))), .second, vR b2, .val (.int (if (r.toInt64) < q then (0 : Int32) else (1 : Int32))), vI (1 : Int32)] [(.int 1)] (fun t k => XS.goto X18.here hx rfl (pc0 := 92) (pc' := 96) rfl (hb hby at_92) (by decide) (by decide) k) ?_
    exact own_retW (s := s) X18 hS (by rw [e18]; exact hk15) (v := some (.int 1)) (fun h => by rw [Bd.returns] at h; cases h) hlk (fun fs hr => retN X18 hx (t := .boolean) Bd.returns (by simp) (hb hby at_96) hr) (by rw [e18]; exact ⟨rfl, N18⟩) (by decide) (by decide)
theorem own_neI {args : Array Value} {t : Term} {first s : State} {o : Option Outcome} {idx : List Nat} {x : Int32} (e : t.eval args first o idx s = some (.int x)) (h : (Jvm.Cond.not (Jvm.Cond.eq t (Jvm.Term.int 0))).value args first o s idx = some true) : ¬ x = (0 : Int32) := fun q => by
  subst q
  simp [Cond.value, e, Term.eval] at h
theorem own_eqI {args : Array Value} {t : Term} {first s : State} {o : Option Outcome} {idx : List Nat} {k : Int32} (h : (Jvm.Cond.eq t (Jvm.Term.int k)).value args first o s idx = some true) : t.eval args first o idx s = some (.int k) := by
  cases e : t.eval args first o idx s with
  | none => simp [Cond.value, e] at h
  | some x =>
    cases x <;> simp [Cond.value, e, Term.eval] at h
    rw [h]
set_option maxRecDepth 65536 in
set_option maxHeartbeats 40000000 in
theorem comes_1 {Post : Tables → Env → Array Value → State → Outcome → State → Prop} (hpost : ∀ tb e args s v u, (limb_1_1.after args s (.returned v) u = true ∧ limb_1_2.after args s (.returned v) u = true ∧ True) → ReturnedEndW s (.returned v) u (Jvm.fieldLocs frame_1_writes args s ++ Jvm.arrayLocs frame_1_arrays args s ++ Jvm.staticLocs frame_1_statics s) 40 4544 → Post tb e args s (.returned v) u) :
    ArmFor flags0 classFile x code maxLocals ret World_1 tables_1 room_1 Calls_1 rest_1 Pre_1 Post := by
  intro l hfl _ _ p e ha hc hk s m args below hf hA hF happ hP
  obtain ⟨hcalls, hrest, hpre⟩ := hP
  obtain ⟨-, -, -, hnamed, -, -, -, hat⟩ := (Spec.applies_iff hf).mp happ
  obtain ⟨hg, hn⟩ := and_e (Cond.before_iff.mp (show (Jvm.Cond.and given_1 narrow_1).before args s = true from hpre))
  obtain ⟨hcount, r0⟩ := and_e hg
  obtain ⟨k0, r1⟩ := and_e r0
  obtain ⟨k1, r2⟩ := and_e r1
  obtain ⟨w0, w1, w2, rfl⟩ : ∃ w0 w1 w2 : Value, args = #[w0, w1, w2] := by
    have hs : args.size = 3 := by simpa [Cond.value, given_1] using hcount
    obtain ⟨L⟩ := args
    match L, hs with
    | [w0, w1, w2], _ => exact ⟨w0, w1, w2, rfl⟩
  have hw := fun d (hd : d ∈ tables_1) => atoms_spec (ws := Jvm.Cond.code x code maxLocals ret :: tables_1) hat d (List.mem_cons_of_mem _ hd)
  have hfit : Fit s := fun {y c} hc i hi => by
    obtain ⟨ha, rfl⟩ := Array.getElem?_eq_some_iff.mp hc
    have q := List.all_eq_true.mp ((Array.all_eq_true_iff_forall_mem.mp hF) _ (Array.getElem_mem ha)) i (List.mem_range.mpr hi)
    simpa [Array.getElem?_eq_getElem hi] using q
  obtain ⟨hsets, hown0⟩ := atoms_of _ (rest_1_c_eq ▸ (show rest_1_c.before _ s = true from hrest))
  have hr0 := Cond.before_iff.mp hown0
  obtain ⟨i0, ei0⟩ := is_v k0
  obtain rfl : w0 = (.int i0) := Option.some.inj ei0
  obtain ⟨i1, ei1⟩ := is_v k1
  obtain rfl : w1 = (.int i1) := Option.some.inj ei1
  obtain ⟨i2, ei2⟩ := is_v r2
  obtain rfl : w2 = (.int i2) := Option.some.inj ei2
  obtain ⟨cs, vcs⟩ := is_v (Cond.before_iff.mp (hsets _ (own_mt 1 rfl)))
  have Scs := Sta.start vcs (Or.inl (hsets _ (own_mt 0 rfl)))
  have hcs := own_neI vcs (Cond.before_iff.mp (hsets _ (own_mt 2 rfl)))
  obtain ⟨ci, vci⟩ := exa_v (Cond.before_iff.mp (hsets _ (own_mt 11 rfl)))
  have Sci := Sta.start vci (Or.inl (hsets _ (own_mt 10 rfl)))
  have Eci := Exa.start vci (Cond.before_iff.mp (hsets _ (own_mt 11 rfl)))
  obtain ⟨ca, vca⟩ := exa_v (Cond.before_iff.mp (hsets _ (own_mt 15 rfl)))
  have Sca := Sta.start vca (Or.inl (hsets _ (own_mt 13 rfl)))
  obtain ⟨cA, Aca⟩ := Arr.start vca (Cond.before_iff.mp (hsets _ (own_mt 14 rfl)))
  have hel := elem_in (own_eqI (Cond.before_iff.mp (hsets _ (own_mt 87 rfl)))) vca (Term.int_eval 70) Aca.1
  have hCH : CHv s own_EL s.vm s.heap := CHv.start (own_hEL hw) (fun p hp => hcalls.1 p hp) (hsets _ (own_mt 2 rfl)) (hw _ (own_mt 8 rfl)) (hw _ (own_mt 7 rfl))
  obtain ⟨n, o, h1, h2, h3, _, L, rfl, ⟨rfl, N⟩, hq⟩ := rm_Q0 l s _ hw tables_1 i0 i1 i2 cs ci ca s.heap s.heap.size (Nat.le_refl _) (Old.start s) ⟨Scs, hcs, Sci, Eci, Sca, cA, Aca, hel.1, hel.2⟩ p e ha hc hk s m _ below hf ((Spec.applies_iff_loose hf).mp happ).1 ⟨rfl, State.Warmed39.refl s, rfl, hCH⟩ trivial
  refine ⟨n, _, h1, h2, h3, hpost _ _ _ _ _ _ ⟨Cond.after_iff.mpr rfl, Cond.after_iff.mpr (eq_i res_at (Term.int_eval (1)) rfl), trivial⟩ ⟨hq.1, hq.2.1, hq.2.2.1, (hq.2.2.2.sift fun y hy => Or.inr (N y hy)).mono (by decide) (by decide)⟩⟩
theorem main_1_1 : Claimed_1_1 := comes_1 fun _ _ _ _ _ _ h hF => ⟨h.1, hF⟩
theorem main_1_2 : Claimed_1_2 := comes_1 fun _ _ _ _ _ _ h hF => ⟨h.2.1, hF⟩
end Jvm.Pilot.@@N@@
namespace Jvm.Pilot.@@N@@
open Jvm Jvm.ClassFile Sem Op Lib Jvm.Free Jvm.Stand Jvm.Pilot.@@N@@.Jvm.D
/-! MADE BY PROGRAM (witnessworld.py) out of the Statement's table words and the real class files: 29 classes; the members and pool entries that the words name. The judged class is class 1, her method 1. -/
namespace start1
open Jvm.ClassFile
def u (s : String) : CpInfo := .utf8 (stringToUtf16 s)
/-- a pool by its gaps: so many unusable entries, then the entry; so many at the end -/
def gap : Nat → List CpInfo → List CpInfo
  | 0, r => r
  | n + 1, r => .unusable :: gap n r
def poolList (es : List (Nat × CpInfo)) (last : Nat) : List CpInfo := es.foldr (fun e r => gap e.1 (e.2 :: r)) (gap last [])
def pool (es : List (Nat × CpInfo)) (last : Nat) : Array CpInfo := ⟨poolList es last⟩
def fileOf (pool : Array CpInfo) (this : Nat) (attrs : Array Attribute := #[]) (ms : Array MethodInfo := #[]) (fl : Nat := 33) (sup : Nat := 0) (ifs : Array Nat := #[]) (fds : Array FieldInfo := #[]) : ClassFile where
  minorVersion := 0
  majorVersion := 65
  constantPool := pool
  accessFlags := fl
  thisClass := this
  superClass := sup
  interfaces := ifs
  fields := fds
  methods := ms
  attributes := attrs
def plain (name : String) (sup : Option ClassId) : Class where
  name := name
  kind := .ordinary
  loader := none
  accessFlags := 33
  super := sup
  interfaces := #[]
  cf := none
  fields := #[]
  methods := #[]
  instanceTypes := #[]
  staticTypes := #[]
  resolved := #[]
  callSites := []
  init := .initialized
  statics := none
  mirror := none

def pool0 : Array CpInfo := pool [(5, u "<init>"), (0, u "()V"), (1, .class_ 10), (1, u "java/lang/Object")] 113

def k0c0 : Code := { maxStack := 0, maxLocals := 1, code := object_method_1_code, exceptionTable := #[], attributes := #[] }
def k0m0 : Method := { name := "<init>", desc := "()V", sig := { parameters := [], returnType := none }, accessFlags := 1, code := some k0c0 }
/-- java/lang/Object -/
def k0 : Class := { plain "java/lang/Object" none with
  accessFlags := 33
  interfaces := #[]
  cf := some (fileOf pool0 8 #[] #[{ accessFlags := 1, nameIndex := 5, descriptorIndex := 6, attributes := #[] }] 33 0 #[] #[])
  fields := #[]
  methods := #[k0m0]
  instanceTypes := #[]
  staticTypes := #[]
  resolved := Array.replicate 124 none
  statics := none }

def pool1 : Array CpInfo := pool [(2, .class_ 4), (1, u "java/lang/Object"), (0, u "<init>"), (0, u "()V"), (0, .integer 1073741823), (0, .double 4611686018427387904), (1, .class_ 11), (0, u "com/example/lightpath_planner/lightpathplanner/ModulationFormat"), (0, .string 13), (0, u "F"), (0, .methodref 10 15), (0, .nameAndType 5 16), (0, u "(Ljava/lang/String;DD)V"), (0, .methodref 10 18), (0, .nameAndType 19 20), (0, u "reaches"), (0, u "(D)Z"), (0, .class_ 22), (0, u "com/example/lightpath_planner/lightpathplanner/ModulationFormatReachesPinLaw"), (2, u "law"), (0, u "(III)Z")] 3

def k1m0 : Method := { name := "<init>", desc := "()V", sig := { parameters := [], returnType := none }, accessFlags := 2, code := none }
def k1c1 : Code := { maxStack := 7, maxLocals := 13, code := code, exceptionTable := #[], attributes := #[] }
def k1m1 : Method := { name := "law", desc := "(III)Z", sig := { parameters := [.int, .int, .int], returnType := some .boolean }, accessFlags := 9, code := some k1c1 }
/-- com/example/lightpath_planner/lightpathplanner/ModulationFormatReachesPinLaw -/
def k1 : Class := { plain "com/example/lightpath_planner/lightpathplanner/ModulationFormatReachesPinLaw" (some 0) with
  accessFlags := 49
  interfaces := #[]
  cf := some (fileOf pool1 21 #[] #[{ accessFlags := 2, nameIndex := 5, descriptorIndex := 6, attributes := #[] }, { accessFlags := 9, nameIndex := 25, descriptorIndex := 26, attributes := #[] }] 49 2 #[] #[])
  fields := #[]
  methods := #[k1m0, k1m1]
  instanceTypes := #[]
  staticTypes := #[]
  resolved := Array.replicate 30 none
  statics := none }

def pool2 : Array CpInfo := pool [(1, .methodref 2 3), (0, .class_ 4), (0, .nameAndType 5 6), (0, u "java/lang/Object"), (0, u "<init>"), (0, u "()V"), (0, .string 8), (0, u "format name"), (0, .methodref 10 11), (0, .class_ 12), (0, .nameAndType 13 14), (0, u "java/util/Objects"), (0, u "requireNonNull"), (0, u "(Ljava/lang/Object;Ljava/lang/String;)Ljava/lang/Object;"), (0, .class_ 16), (0, u "java/lang/String"), (0, .methodref 15 18), (0, .nameAndType 19 20), (0, u "isBlank"), (0, u "()Z"), (7, .fieldref 29 30), (0, .class_ 31), (0, .nameAndType 32 33), (0, u "com/example/lightpath_planner/lightpathplanner/ModulationFormat"), (0, u "name"), (0, u "Ljava/lang/String;"), (0, .class_ 35), (0, u "java/lang/StringBuilder"), (0, .methodref 34 3), (0, .string 38), (0, u "efficiency of format "), (0, .methodref 34 40), (0, .nameAndType 41 42), (0, u "append"), (0, u "(Ljava/lang/String;)Ljava/lang/StringBuilder;"), (0, .methodref 34 44), (0, .nameAndType 45 46), (0, u "toString"), (0, u "()Ljava/lang/String;"), (0, .methodref 48 49), (0, .class_ 50), (0, .nameAndType 51 52), (0, u "com/example/lightpath_planner/lightpathplanner/Require"), (0, u "positive"), (0, u "(DLjava/lang/String;)D"), (0, .fieldref 29 54), (0, .nameAndType 55 56), (0, u "efficiency"), (0, u "D"), (0, .string 58), (0, u "reach of format "), (0, .fieldref 29 60), (0, .nameAndType 61 56), (0, u "reachKm"), (28, u "MAX_SLOTS"), (0, u "Ljava/math/BigDecimal;"), (30, u "(Ljava/lang/String;DD)V"), (7, u "reaches"), (0, u "(D)Z")] 5

def k2c0 : Code := { maxStack := 5, maxLocals := 6, code := prog_10_method_1_code, exceptionTable := #[], attributes := #[] }
def k2m0 : Method := { name := "<init>", desc := "(Ljava/lang/String;DD)V", sig := { parameters := [(.object "java/lang/String"), .double, .double], returnType := none }, accessFlags := 1, code := some k2c0 }
def k2c1 : Code := { maxStack := 4, maxLocals := 3, code := prog_10_method_5_code, exceptionTable := #[], attributes := #[] }
def k2m1 : Method := { name := "reaches", desc := "(D)Z", sig := { parameters := [.double], returnType := some .boolean }, accessFlags := 1, code := some k2c1 }
/-- com/example/lightpath_planner/lightpathplanner/ModulationFormat -/
def k2 : Class := { plain "com/example/lightpath_planner/lightpathplanner/ModulationFormat" (some 0) with
  accessFlags := 49
  interfaces := #[]
  cf := some (fileOf pool2 29 #[] #[{ accessFlags := 1, nameIndex := 5, descriptorIndex := 122, attributes := #[] }, { accessFlags := 1, nameIndex := 130, descriptorIndex := 131, attributes := #[] }] 49 2 #[] #[{ accessFlags := 26, nameIndex := 90, descriptorIndex := 91, attributes := #[] }, { accessFlags := 18, nameIndex := 32, descriptorIndex := 33, attributes := #[] }, { accessFlags := 18, nameIndex := 55, descriptorIndex := 56, attributes := #[] }, { accessFlags := 18, nameIndex := 61, descriptorIndex := 56, attributes := #[] }])
  fields := #[{ name := "MAX_SLOTS", type := (.object "java/math/BigDecimal"), accessFlags := 26, slot := 0, constantValue := 0 }, { name := "name", type := (.object "java/lang/String"), accessFlags := 18, slot := 0, constantValue := 0 }, { name := "efficiency", type := .double, accessFlags := 18, slot := 1, constantValue := 0 }, { name := "reachKm", type := .double, accessFlags := 18, slot := 2, constantValue := 0 }]
  methods := #[k2m0, k2m1]
  instanceTypes := #[(.object "java/lang/String"), .double, .double]
  staticTypes := #[(.object "java/math/BigDecimal")]
  resolved := Array.replicate 137 none
  statics := none }

def pool3 : Array CpInfo := pool [(1, .class_ 2), (0, u "java/io/Serializable"), (0, .class_ 4), (0, u "java/lang/Object")] 2

/-- java/io/Serializable -/
def k3 : Class := { plain "java/io/Serializable" (some 0) with
  accessFlags := 1537
  interfaces := #[]
  cf := some (fileOf pool3 1 #[] #[] 1537 3 #[] #[])
  fields := #[]
  methods := #[]
  instanceTypes := #[]
  staticTypes := #[]
  resolved := Array.replicate 7 none
  statics := none }

def pool4 : Array CpInfo := pool [(1, .class_ 2), (0, u "java/lang/Comparable"), (0, .class_ 4), (0, u "java/lang/Object")] 7

/-- java/lang/Comparable -/
def k4 : Class := { plain "java/lang/Comparable" (some 0) with
  accessFlags := 1537
  interfaces := #[]
  cf := some (fileOf pool4 1 #[] #[] 1537 3 #[] #[])
  fields := #[]
  methods := #[]
  instanceTypes := #[]
  staticTypes := #[]
  resolved := Array.replicate 12 none
  statics := none }

def pool5 : Array CpInfo := pool [(2, .class_ 4), (1, u "java/lang/CharSequence"), (42, .class_ 48), (0, u "java/lang/CharSequence$1CodePointIterator"), (10, .class_ 60), (0, u "java/lang/CharSequence$1CharIterator"), (5, .class_ 67), (0, u "java/lang/Object")] 63

/-- java/lang/CharSequence -/
def k5 : Class := { plain "java/lang/CharSequence" (some 0) with
  accessFlags := 1537
  interfaces := #[]
  cf := some (fileOf pool5 2 #[.nestMembers #[47, 59]] #[] 1537 66 #[] #[])
  fields := #[]
  methods := #[]
  instanceTypes := #[]
  staticTypes := #[]
  resolved := Array.replicate 131 none
  statics := none }

def pool6 : Array CpInfo := pool [(1, .class_ 2), (0, u "java/lang/constant/Constable"), (0, .class_ 4), (0, u "java/lang/Object")] 6

/-- java/lang/constant/Constable -/
def k6 : Class := { plain "java/lang/constant/Constable" (some 0) with
  accessFlags := 1537
  interfaces := #[]
  cf := some (fileOf pool6 1 #[] #[] 1537 3 #[] #[])
  fields := #[]
  methods := #[]
  instanceTypes := #[]
  staticTypes := #[]
  resolved := Array.replicate 11 none
  statics := none }

def pool7 : Array CpInfo := pool [(1, .class_ 2), (0, u "java/lang/constant/ConstantDesc"), (0, .class_ 4), (0, u "java/lang/Object")] 32

/-- java/lang/constant/ConstantDesc -/
def k7 : Class := { plain "java/lang/constant/ConstantDesc" (some 0) with
  accessFlags := 1537
  interfaces := #[]
  cf := some (fileOf pool7 1 #[] #[] 1537 3 #[] #[])
  fields := #[]
  methods := #[]
  instanceTypes := #[]
  staticTypes := #[]
  resolved := Array.replicate 37 none
  statics := none }

def pool8 : Array CpInfo := pool [(1, .methodref 2 3), (0, .class_ 4), (0, .nameAndType 5 6), (0, u "java/lang/Object"), (0, u "<init>"), (0, u "()V"), (2, .fieldref 10 11), (0, .class_ 12), (0, .nameAndType 13 14), (0, u "java/lang/String"), (0, u "value"), (0, u "[B"), (0, .fieldref 10 16), (0, .nameAndType 17 18), (0, u "coder"), (0, u "B"), (2, u "hash"), (0, u "I"), (2, u "hashIsZero"), (0, u "Z"), (11, .fieldref 10 39), (0, .nameAndType 40 26), (0, u "COMPACT_STRINGS"), (13, .methodref 55 56), (0, .class_ 57), (0, .nameAndType 58 59), (0, u "java/util/Arrays"), (0, u "copyOfRange"), (0, u "([BII)[B"), (47, .class_ 109), (1, u "java/lang/StringLatin1"), (32, u "()Z"), (50, .class_ 195), (1, u "java/lang/System"), (16, .methodref 193 213), (0, .nameAndType 214 215), (0, u "arraycopy"), (0, u "(Ljava/lang/Object;ILjava/lang/Object;II)V"), (118, u "()I"), (0, .methodref 10 336), (0, .nameAndType 17 337), (0, u "()B"), (2, u "()[B"), (148, .methodref 10 490), (0, .nameAndType 5 491), (0, u "(Ljava/lang/AbstractStringBuilder;Ljava/lang/Void;)V"), (0, .methodref 10 493), (0, .nameAndType 494 142), (0, u "isLatin1"), (10, .methodref 10 506), (0, .nameAndType 507 334), (0, u "length"), (24, u "getBytes"), (16, .methodref 550 506), (0, .class_ 551), (0, u "java/lang/AbstractStringBuilder"), (0, .methodref 550 553), (0, .nameAndType 554 340), (0, u "getValue"), (20, .class_ 576), (0, u "java/lang/CharSequence"), (22, u "CASE_INSENSITIVE_ORDER"), (0, u "Ljava/util/Comparator;"), (30, u "([B)I"), (189, u "([BIB)V"), (54, .methodref 10 877), (0, .nameAndType 878 334), (0, u "indexOfNonWhitespace"), (45, .methodref 107 925), (0, .nameAndType 878 631), (26, u "isBlank"), (94, .methodref 550 493), (53, u "serialPersistentFields"), (0, u "[Ljava/io/ObjectStreamField;"), (0, .class_ 1104), (0, u "java/lang/String$CaseInsensitiveComparator"), (1, .class_ 1107), (0, u "java/io/Serializable"), (0, .class_ 1109), (0, u "java/lang/Comparable"), (0, .class_ 1111), (0, u "java/lang/constant/Constable"), (0, .class_ 1113), (0, u "java/lang/constant/ConstantDesc"), (2, u "serialVersionUID"), (0, u "J"), (3, u "REPL"), (0, u "C"), (2, u "LATIN1"), (1, u "UTF16"), (105, u "(Ljava/lang/StringBuilder;)V")] 217

def k8m0 : Method := { name := "<init>", desc := "()V", sig := { parameters := [], returnType := none }, accessFlags := 1, code := none }
def k8c1 : Code := { maxStack := 3, maxLocals := 2, code := jdk_42_method_53_code, exceptionTable := #[], attributes := #[] }
def k8m1 : Method := { name := "<init>", desc := "(Ljava/lang/StringBuilder;)V", sig := { parameters := [(.object "java/lang/StringBuilder")], returnType := none }, accessFlags := 1, code := some k8c1 }
def k8c2 : Code := { maxStack := 2, maxLocals := 1, code := jdk_42_method_54_code, exceptionTable := #[], attributes := #[] }
def k8m2 : Method := { name := "length", desc := "()I", sig := { parameters := [], returnType := some .int }, accessFlags := 1, code := some k8c2 }
def k8c3 : Code := { maxStack := 2, maxLocals := 1, code := jdk_42_method_117_code, exceptionTable := #[], attributes := #[] }
def k8m3 : Method := { name := "isBlank", desc := "()Z", sig := { parameters := [], returnType := some .boolean }, accessFlags := 1, code := some k8c3 }
def k8c4 : Code := { maxStack := 1, maxLocals := 1, code := jdk_42_method_120_code, exceptionTable := #[], attributes := #[] }
def k8m4 : Method := { name := "indexOfNonWhitespace", desc := "()I", sig := { parameters := [], returnType := some .int }, accessFlags := 2, code := some k8c4 }
def k8c5 : Code := { maxStack := 5, maxLocals := 4, code := jdk_42_method_147_code, exceptionTable := #[], attributes := #[] }
def k8m5 : Method := { name := "getBytes", desc := "([BIB)V", sig := { parameters := [(.array .byte), .int, .byte], returnType := none }, accessFlags := 0, code := some k8c5 }
def k8c6 : Code := { maxStack := 5, maxLocals := 5, code := jdk_42_method_150_code, exceptionTable := #[], attributes := #[] }
def k8m6 : Method := { name := "<init>", desc := "(Ljava/lang/AbstractStringBuilder;Ljava/lang/Void;)V", sig := { parameters := [(.object "java/lang/AbstractStringBuilder"), (.object "java/lang/Void")], returnType := none }, accessFlags := 0, code := some k8c6 }
def k8c7 : Code := { maxStack := 1, maxLocals := 1, code := jdk_42_method_152_code, exceptionTable := #[], attributes := #[] }
def k8m7 : Method := { name := "coder", desc := "()B", sig := { parameters := [], returnType := some .byte }, accessFlags := 0, code := some k8c7 }
def k8c8 : Code := { maxStack := 1, maxLocals := 1, code := jdk_42_method_154_code, exceptionTable := #[], attributes := #[] }
def k8m8 : Method := { name := "isLatin1", desc := "()Z", sig := { parameters := [], returnType := some .boolean }, accessFlags := 0, code := some k8c8 }
/-- java/lang/String -/
def k8 : Class := { plain "java/lang/String" (some 0) with
  accessFlags := 49
  interfaces := #[3, 4, 5, 6, 7]
  cf := some (fileOf pool8 10 #[.nestMembers #[1103]] #[{ accessFlags := 1, nameIndex := 5, descriptorIndex := 6, attributes := #[] }, { accessFlags := 1, nameIndex := 5, descriptorIndex := 1233, attributes := #[] }, { accessFlags := 1, nameIndex := 507, descriptorIndex := 334, attributes := #[] }, { accessFlags := 1, nameIndex := 952, descriptorIndex := 142, attributes := #[] }, { accessFlags := 2, nameIndex := 878, descriptorIndex := 334, attributes := #[] }, { accessFlags := 0, nameIndex := 532, descriptorIndex := 821, attributes := #[] }, { accessFlags := 0, nameIndex := 5, descriptorIndex := 491, attributes := #[] }, { accessFlags := 0, nameIndex := 17, descriptorIndex := 337, attributes := #[] }, { accessFlags := 0, nameIndex := 494, descriptorIndex := 142, attributes := #[] }] 49 2 #[1106, 1108, 575, 1110, 1112] #[{ accessFlags := 18, nameIndex := 13, descriptorIndex := 14, attributes := #[] }, { accessFlags := 18, nameIndex := 17, descriptorIndex := 18, attributes := #[] }, { accessFlags := 2, nameIndex := 21, descriptorIndex := 22, attributes := #[] }, { accessFlags := 2, nameIndex := 25, descriptorIndex := 26, attributes := #[] }, { accessFlags := 26, nameIndex := 1116, descriptorIndex := 1117, attributes := #[] }, { accessFlags := 24, nameIndex := 40, descriptorIndex := 26, attributes := #[] }, { accessFlags := 26, nameIndex := 1101, descriptorIndex := 1102, attributes := #[] }, { accessFlags := 26, nameIndex := 1121, descriptorIndex := 1122, attributes := #[] }, { accessFlags := 25, nameIndex := 599, descriptorIndex := 600, attributes := #[] }, { accessFlags := 24, nameIndex := 1125, descriptorIndex := 18, attributes := #[] }, { accessFlags := 24, nameIndex := 1127, descriptorIndex := 18, attributes := #[] }])
  fields := #[{ name := "value", type := (.array .byte), accessFlags := 18, slot := 0, constantValue := 0 }, { name := "coder", type := .byte, accessFlags := 18, slot := 1, constantValue := 0 }, { name := "hash", type := .int, accessFlags := 2, slot := 2, constantValue := 0 }, { name := "hashIsZero", type := .boolean, accessFlags := 2, slot := 3, constantValue := 0 }, { name := "serialVersionUID", type := .long, accessFlags := 26, slot := 0, constantValue := 0 }, { name := "COMPACT_STRINGS", type := .boolean, accessFlags := 24, slot := 1, constantValue := 0 }, { name := "serialPersistentFields", type := (.array (.object "java/io/ObjectStreamField")), accessFlags := 26, slot := 2, constantValue := 0 }, { name := "REPL", type := .char, accessFlags := 26, slot := 3, constantValue := 0 }, { name := "CASE_INSENSITIVE_ORDER", type := (.object "java/util/Comparator"), accessFlags := 25, slot := 4, constantValue := 0 }, { name := "LATIN1", type := .byte, accessFlags := 24, slot := 5, constantValue := 0 }, { name := "UTF16", type := .byte, accessFlags := 24, slot := 6, constantValue := 0 }]
  methods := #[k8m0, k8m1, k8m2, k8m3, k8m4, k8m5, k8m6, k8m7, k8m8]
  instanceTypes := #[(.array .byte), .byte, .int, .boolean]
  staticTypes := #[.long, .boolean, (.array (.object "java/io/ObjectStreamField")), .char, (.object "java/util/Comparator"), .byte, .byte]
  resolved := Array.replicate 1451 none
  statics := some 0 }

def pool9 : Array CpInfo := pool [(2, .class_ 4), (1, u "java/lang/Object"), (0, u "<init>"), (0, u "()V"), (35, .class_ 44), (1, u "java/util/Objects"), (0, u "requireNonNull"), (48, u "(Ljava/lang/Object;Ljava/lang/String;)Ljava/lang/Object;")] 89

def k9m0 : Method := { name := "<init>", desc := "()V", sig := { parameters := [], returnType := none }, accessFlags := 2, code := none }
def k9c1 : Code := { maxStack := 3, maxLocals := 2, code := jdk_31_method_11_code, exceptionTable := #[], attributes := #[] }
def k9m1 : Method := { name := "requireNonNull", desc := "(Ljava/lang/Object;Ljava/lang/String;)Ljava/lang/Object;", sig := { parameters := [(.object "java/lang/Object"), (.object "java/lang/String")], returnType := some (.object "java/lang/Object") }, accessFlags := 9, code := some k9c1 }
/-- java/util/Objects -/
def k9 : Class := { plain "java/util/Objects" (some 0) with
  accessFlags := 49
  interfaces := #[]
  cf := some (fileOf pool9 42 #[] #[{ accessFlags := 2, nameIndex := 5, descriptorIndex := 6, attributes := #[] }, { accessFlags := 9, nameIndex := 45, descriptorIndex := 94, attributes := #[] }] 49 2 #[] #[])
  fields := #[]
  methods := #[k9m0, k9m1]
  instanceTypes := #[]
  staticTypes := #[]
  resolved := Array.replicate 184 none
  statics := none }

def pool10 : Array CpInfo := pool [(4, .class_ 6), (1, u "java/lang/Object"), (0, u "<init>"), (0, u "()V"), (5, .class_ 16), (1, u "java/lang/StringLatin1"), (33, .methodref 14 51), (0, .nameAndType 52 53), (0, u "getChar"), (0, u "([BI)C"), (3, u "([B)I"), (8, .fieldref 67 68), (0, .class_ 69), (0, .nameAndType 70 71), (0, u "java/lang/CharacterDataLatin1"), (0, u "instance"), (0, u "Ljava/lang/CharacterDataLatin1;"), (19, u "(I)Z"), (29, u "$assertionsDisabled"), (0, u "Z"), (88, .methodref 67 212), (0, .nameAndType 213 91), (0, u "isWhitespace"), (2, u "indexOfNonWhitespace"), (4, .class_ 223), (1, u "java/lang/StringLatin1$LinesSpliterator"), (166, .class_ 391), (0, u "java/lang/StringLatin1$CharsSpliterator")] 3

def k10m0 : Method := { name := "<init>", desc := "()V", sig := { parameters := [], returnType := none }, accessFlags := 0, code := none }
def k10c1 : Code := { maxStack := 2, maxLocals := 4, code := jdk_43_method_37_code, exceptionTable := #[], attributes := #[] }
def k10m1 : Method := { name := "indexOfNonWhitespace", desc := "([B)I", sig := { parameters := [(.array .byte)], returnType := some .int }, accessFlags := 9, code := some k10c1 }
def k10c2 : Code := { maxStack := 2, maxLocals := 2, code := jdk_43_method_44_code, exceptionTable := #[], attributes := #[] }
def k10m2 : Method := { name := "getChar", desc := "([BI)C", sig := { parameters := [(.array .byte), .int], returnType := some .char }, accessFlags := 9, code := some k10c2 }
/-- java/lang/StringLatin1 -/
def k10 : Class := { plain "java/lang/StringLatin1" (some 0) with
  accessFlags := 48
  interfaces := #[]
  cf := some (fileOf pool10 14 #[.nestMembers #[390, 221]] #[{ accessFlags := 0, nameIndex := 7, descriptorIndex := 8, attributes := #[] }, { accessFlags := 9, nameIndex := 216, descriptorIndex := 57, attributes := #[] }, { accessFlags := 9, nameIndex := 52, descriptorIndex := 53, attributes := #[] }] 48 4 #[] #[{ accessFlags := 4120, nameIndex := 121, descriptorIndex := 122, attributes := #[] }])
  fields := #[{ name := "$assertionsDisabled", type := .boolean, accessFlags := 4120, slot := 0, constantValue := 0 }]
  methods := #[k10m0, k10m1, k10m2]
  instanceTypes := #[]
  staticTypes := #[.boolean]
  resolved := Array.replicate 395 none
  statics := none }

def pool11 : Array CpInfo := pool [(2, .class_ 4), (1, u "java/lang/Object"), (0, u "<init>"), (0, u "()V"), (1, .class_ 10), (1, u "java/lang/CharacterData")] 75

def k11m0 : Method := { name := "<init>", desc := "()V", sig := { parameters := [], returnType := none }, accessFlags := 0, code := none }
/-- java/lang/CharacterData -/
def k11 : Class := { plain "java/lang/CharacterData" (some 0) with
  accessFlags := 1056
  interfaces := #[]
  cf := some (fileOf pool11 8 #[] #[{ accessFlags := 0, nameIndex := 5, descriptorIndex := 6, attributes := #[] }] 1056 2 #[] #[])
  fields := #[]
  methods := #[k11m0]
  instanceTypes := #[]
  staticTypes := #[]
  resolved := Array.replicate 86 none
  statics := none }

def pool12 : Array CpInfo := pool [(1, .fieldref 2 3), (0, .class_ 4), (0, .nameAndType 5 6), (0, u "java/lang/CharacterDataLatin1"), (0, u "A"), (0, u "[I"), (2, u "B"), (0, u "[C"), (3, u "(I)I"), (0, .methodref 2 16), (0, .nameAndType 17 14), (0, u "getProperties"), (3, u "(I)Z"), (5, u "DIGITS"), (0, u "[B"), (8, u "sharpsMap"), (1, .class_ 41), (1, u "java/lang/CharacterData"), (0, u "<init>"), (0, u "()V"), (3, u "instance"), (0, u "Ljava/lang/CharacterDataLatin1;"), (78, u "isWhitespace")] 13

def k12c0 : Code := { maxStack := 2, maxLocals := 4, code := jdk_116_method_1_code, exceptionTable := #[], attributes := #[] }
def k12m0 : Method := { name := "getProperties", desc := "(I)I", sig := { parameters := [.int], returnType := some .int }, accessFlags := 0, code := some k12c0 }
def k12c1 : Code := { maxStack := 2, maxLocals := 3, code := jdk_116_method_26_code, exceptionTable := #[], attributes := #[] }
def k12m1 : Method := { name := "isWhitespace", desc := "(I)Z", sig := { parameters := [.int], returnType := some .boolean }, accessFlags := 0, code := some k12c1 }
def k12m2 : Method := { name := "<init>", desc := "()V", sig := { parameters := [], returnType := none }, accessFlags := 2, code := none }
/-- java/lang/CharacterDataLatin1 -/
def k12 : Class := { plain "java/lang/CharacterDataLatin1" (some 11) with
  accessFlags := 32
  interfaces := #[]
  cf := some (fileOf pool12 2 #[] #[{ accessFlags := 0, nameIndex := 17, descriptorIndex := 14, attributes := #[] }, { accessFlags := 0, nameIndex := 127, descriptorIndex := 21, attributes := #[] }, { accessFlags := 2, nameIndex := 42, descriptorIndex := 43, attributes := #[] }] 32 39 #[] #[{ accessFlags := 26, nameIndex := 27, descriptorIndex := 28, attributes := #[] }, { accessFlags := 8, nameIndex := 37, descriptorIndex := 10, attributes := #[] }, { accessFlags := 24, nameIndex := 47, descriptorIndex := 48, attributes := #[] }, { accessFlags := 24, nameIndex := 5, descriptorIndex := 6, attributes := #[] }, { accessFlags := 24, nameIndex := 9, descriptorIndex := 10, attributes := #[] }])
  fields := #[{ name := "DIGITS", type := (.array .byte), accessFlags := 26, slot := 0, constantValue := 0 }, { name := "sharpsMap", type := (.array .char), accessFlags := 8, slot := 1, constantValue := 0 }, { name := "instance", type := (.object "java/lang/CharacterDataLatin1"), accessFlags := 24, slot := 2, constantValue := 0 }, { name := "A", type := (.array .int), accessFlags := 24, slot := 3, constantValue := 0 }, { name := "B", type := (.array .char), accessFlags := 24, slot := 4, constantValue := 0 }]
  methods := #[k12m0, k12m1, k12m2]
  instanceTypes := #[]
  staticTypes := #[(.array .byte), (.array .char), (.object "java/lang/CharacterDataLatin1"), (.array .int), (.array .char)]
  resolved := Array.replicate 141 none
  statics := some 1 }

def pool13 : Array CpInfo := pool [(1, .class_ 2), (0, u "java/lang/Appendable"), (0, .class_ 4), (0, u "java/lang/Object")] 9

/-- java/lang/Appendable -/
def k13 : Class := { plain "java/lang/Appendable" (some 0) with
  accessFlags := 1537
  interfaces := #[]
  cf := some (fileOf pool13 1 #[] #[] 1537 3 #[] #[])
  fields := #[]
  methods := #[]
  instanceTypes := #[]
  staticTypes := #[]
  resolved := Array.replicate 14 none
  statics := none }

def pool14 : Array CpInfo := pool [(1, .class_ 2), (0, u "java/lang/String"), (0, .methodref 4 5), (0, .class_ 6), (0, .nameAndType 7 8), (0, u "java/lang/Object"), (0, u "<init>"), (0, u "()V"), (1, .class_ 12), (1, u "java/lang/AbstractStringBuilder"), (0, u "EMPTYVALUE"), (0, u "[B"), (0, .fieldref 10 16), (0, .nameAndType 17 14), (0, u "value"), (0, .fieldref 1 19), (0, .nameAndType 20 21), (0, u "COMPACT_STRINGS"), (0, u "Z"), (0, .fieldref 10 23), (0, .nameAndType 24 25), (0, u "coder"), (0, u "B"), (6, .methodref 1 33), (0, .nameAndType 34 35), (0, u "length"), (0, u "()I"), (3, .integer 2147483647), (0, .methodref 1 41), (0, .nameAndType 24 42), (0, u "()B"), (2, u "append"), (0, u "(Ljava/lang/String;)Ljava/lang/AbstractStringBuilder;"), (1, .class_ 49), (0, u "java/lang/CharSequence"), (19, u "(Ljava/lang/String;)V"), (5, u "maybeLatin1"), (3, .fieldref 10 80), (0, .nameAndType 81 82), (0, u "count"), (0, u "I"), (2, u "isLatin1"), (0, u "()Z"), (13, .methodref 10 101), (0, .nameAndType 102 103), (0, u "ensureCapacityInternal"), (0, u "(I)V"), (0, .methodref 10 105), (0, .nameAndType 106 107), (0, u "newCapacity"), (0, u "(I)I"), (0, .methodref 109 110), (0, .class_ 111), (0, .nameAndType 112 113), (0, u "java/util/Arrays"), (0, u "copyOf"), (0, u "([BI)[B"), (0, .methodref 115 116), (0, .class_ 117), (0, .nameAndType 118 119), (0, u "jdk/internal/util/ArraysSupport"), (0, u "newLength"), (0, u "(III)I"), (88, .methodref 10 209), (0, .nameAndType 210 211), (0, u "putStringAt"), (0, u "(ILjava/lang/String;)V"), (5, u "inflateIfNeededFor"), (2, .nameAndType 221 222), (0, u "getBytes"), (0, u "([BIB)V"), (174, .methodref 10 398), (0, .nameAndType 217 69), (0, .methodref 1 220), (3, u "()[B"), (40, .class_ 445), (0, u "java/lang/Appendable"), (106, u "getValue")] 56

def k14m0 : Method := { name := "<init>", desc := "()V", sig := { parameters := [], returnType := none }, accessFlags := 0, code := none }
def k14c1 : Code := { maxStack := 2, maxLocals := 2, code := jdk_68_method_2_code, exceptionTable := #[], attributes := #[] }
def k14m1 : Method := { name := "<init>", desc := "(I)V", sig := { parameters := [.int], returnType := none }, accessFlags := 0, code := some k14c1 }
def k14c2 : Code := { maxStack := 1, maxLocals := 1, code := jdk_68_method_6_code, exceptionTable := #[], attributes := #[] }
def k14m2 : Method := { name := "length", desc := "()I", sig := { parameters := [], returnType := some .int }, accessFlags := 1, code := some k14c2 }
def k14c3 : Code := { maxStack := 4, maxLocals := 3, code := jdk_68_method_9_code, exceptionTable := #[], attributes := #[] }
def k14m3 : Method := { name := "ensureCapacityInternal", desc := "(I)V", sig := { parameters := [.int], returnType := none }, accessFlags := 2, code := some k14c3 }
def k14c4 : Code := { maxStack := 5, maxLocals := 6, code := jdk_68_method_10_code, exceptionTable := #[], attributes := #[] }
def k14m4 : Method := { name := "newCapacity", desc := "(I)I", sig := { parameters := [.int], returnType := some .int }, accessFlags := 2, code := some k14c4 }
def k14c5 : Code := { maxStack := 3, maxLocals := 3, code := jdk_68_method_22_code, exceptionTable := #[], attributes := #[] }
def k14m5 : Method := { name := "append", desc := "(Ljava/lang/String;)Ljava/lang/AbstractStringBuilder;", sig := { parameters := [(.object "java/lang/String")], returnType := some (.object "java/lang/AbstractStringBuilder") }, accessFlags := 1, code := some k14c5 }
def k14c6 : Code := { maxStack := 1, maxLocals := 1, code := jdk_68_method_64_code, exceptionTable := #[], attributes := #[] }
def k14m6 : Method := { name := "getValue", desc := "()[B", sig := { parameters := [], returnType := some (.array .byte) }, accessFlags := 16, code := some k14c6 }
def k14c7 : Code := { maxStack := 1, maxLocals := 1, code := jdk_68_method_68_code, exceptionTable := #[], attributes := #[] }
def k14m7 : Method := { name := "isLatin1", desc := "()Z", sig := { parameters := [], returnType := some .boolean }, accessFlags := 16, code := some k14c7 }
def k14c8 : Code := { maxStack := 2, maxLocals := 2, code := jdk_68_method_71_code, exceptionTable := #[], attributes := #[] }
def k14m8 : Method := { name := "inflateIfNeededFor", desc := "(Ljava/lang/String;)V", sig := { parameters := [(.object "java/lang/String")], returnType := none }, accessFlags := 2, code := some k14c8 }
def k14c9 : Code := { maxStack := 4, maxLocals := 3, code := jdk_68_method_73_code, exceptionTable := #[], attributes := #[] }
def k14m9 : Method := { name := "putStringAt", desc := "(ILjava/lang/String;)V", sig := { parameters := [.int, (.object "java/lang/String")], returnType := none }, accessFlags := 2, code := some k14c9 }
/-- java/lang/AbstractStringBuilder -/
def k14 : Class := { plain "java/lang/AbstractStringBuilder" (some 0) with
  accessFlags := 1056
  interfaces := #[13, 5]
  cf := some (fileOf pool14 10 #[] #[{ accessFlags := 0, nameIndex := 7, descriptorIndex := 8, attributes := #[] }, { accessFlags := 0, nameIndex := 7, descriptorIndex := 103, attributes := #[] }, { accessFlags := 1, nameIndex := 34, descriptorIndex := 35, attributes := #[] }, { accessFlags := 2, nameIndex := 102, descriptorIndex := 103, attributes := #[] }, { accessFlags := 2, nameIndex := 106, descriptorIndex := 107, attributes := #[] }, { accessFlags := 1, nameIndex := 45, descriptorIndex := 46, attributes := #[] }, { accessFlags := 16, nameIndex := 552, descriptorIndex := 403, attributes := #[] }, { accessFlags := 16, nameIndex := 85, descriptorIndex := 86, attributes := #[] }, { accessFlags := 2, nameIndex := 217, descriptorIndex := 69, attributes := #[] }, { accessFlags := 2, nameIndex := 210, descriptorIndex := 211, attributes := #[] }] 1056 4 #[444, 48] #[{ accessFlags := 0, nameIndex := 17, descriptorIndex := 14, attributes := #[] }, { accessFlags := 0, nameIndex := 24, descriptorIndex := 25, attributes := #[] }, { accessFlags := 0, nameIndex := 75, descriptorIndex := 21, attributes := #[] }, { accessFlags := 0, nameIndex := 81, descriptorIndex := 82, attributes := #[] }, { accessFlags := 26, nameIndex := 13, descriptorIndex := 14, attributes := #[] }])
  fields := #[{ name := "value", type := (.array .byte), accessFlags := 0, slot := 0, constantValue := 0 }, { name := "coder", type := .byte, accessFlags := 0, slot := 1, constantValue := 0 }, { name := "maybeLatin1", type := .boolean, accessFlags := 0, slot := 2, constantValue := 0 }, { name := "count", type := .int, accessFlags := 0, slot := 3, constantValue := 0 }, { name := "EMPTYVALUE", type := (.array .byte), accessFlags := 26, slot := 0, constantValue := 0 }]
  methods := #[k14m0, k14m1, k14m2, k14m3, k14m4, k14m5, k14m6, k14m7, k14m8, k14m9]
  instanceTypes := #[(.array .byte), .byte, .boolean, .int]
  staticTypes := #[(.array .byte)]
  resolved := Array.replicate 609 none
  statics := none }

def pool15 : Array CpInfo := pool [(1, .methodref 2 3), (0, .class_ 4), (0, .nameAndType 5 6), (0, u "java/lang/AbstractStringBuilder"), (0, u "<init>"), (0, u "(I)V"), (11, .class_ 20), (1, u "java/lang/String"), (3, .class_ 26), (1, u "java/lang/StringBuilder"), (0, u "append"), (0, u "(Ljava/lang/String;)Ljava/lang/StringBuilder;"), (0, .methodref 2 30), (0, .nameAndType 27 31), (0, u "(Ljava/lang/String;)Ljava/lang/AbstractStringBuilder;"), (105, .methodref 18 138), (0, .nameAndType 5 139), (0, u "(Ljava/lang/StringBuilder;)V"), (5, u "()V"), (10, u "()I"), (186, .methodref 2 344), (0, .nameAndType 345 156), (0, u "length"), (3, .class_ 350), (0, u "java/lang/Appendable"), (0, .class_ 352), (0, u "java/io/Serializable"), (0, .class_ 354), (0, u "java/lang/Comparable"), (0, .class_ 356), (0, u "java/lang/CharSequence"), (0, u "serialVersionUID"), (0, u "J"), (40, u "toString"), (0, u "()Ljava/lang/String;")] 21

def k15c0 : Code := { maxStack := 2, maxLocals := 1, code := jdk_67_method_1_code, exceptionTable := #[], attributes := #[] }
def k15m0 : Method := { name := "<init>", desc := "()V", sig := { parameters := [], returnType := none }, accessFlags := 1, code := some k15c0 }
def k15c1 : Code := { maxStack := 2, maxLocals := 2, code := jdk_67_method_7_code, exceptionTable := #[], attributes := #[] }
def k15m1 : Method := { name := "append", desc := "(Ljava/lang/String;)Ljava/lang/StringBuilder;", sig := { parameters := [(.object "java/lang/String")], returnType := some (.object "java/lang/StringBuilder") }, accessFlags := 1, code := some k15c1 }
def k15c2 : Code := { maxStack := 3, maxLocals := 1, code := jdk_67_method_42_code, exceptionTable := #[], attributes := #[] }
def k15m2 : Method := { name := "toString", desc := "()Ljava/lang/String;", sig := { parameters := [], returnType := some (.object "java/lang/String") }, accessFlags := 1, code := some k15c2 }
def k15c3 : Code := { maxStack := 1, maxLocals := 1, code := jdk_67_method_93_code, exceptionTable := #[], attributes := #[] }
def k15m3 : Method := { name := "length", desc := "()I", sig := { parameters := [], returnType := some .int }, accessFlags := 4161, code := some k15c3 }
/-- java/lang/StringBuilder -/
def k15 : Class := { plain "java/lang/StringBuilder" (some 14) with
  accessFlags := 49
  interfaces := #[13, 3, 4, 5]
  cf := some (fileOf pool15 24 #[] #[{ accessFlags := 1, nameIndex := 5, descriptorIndex := 145, attributes := #[] }, { accessFlags := 1, nameIndex := 27, descriptorIndex := 28, attributes := #[] }, { accessFlags := 1, nameIndex := 399, descriptorIndex := 400, attributes := #[] }, { accessFlags := 4161, nameIndex := 345, descriptorIndex := 156, attributes := #[] }] 49 2 #[349, 351, 353, 355] #[{ accessFlags := 24, nameIndex := 357, descriptorIndex := 358, attributes := #[] }])
  fields := #[{ name := "serialVersionUID", type := .long, accessFlags := 24, slot := 0, constantValue := 0 }]
  methods := #[k15m0, k15m1, k15m2, k15m3]
  instanceTypes := #[(.array .byte), .byte, .boolean, .int]
  staticTypes := #[.long]
  resolved := Array.replicate 422 none
  statics := none }

def pool16 : Array CpInfo := pool [(9, u "<init>"), (6, .class_ 18), (1, u "java/lang/Object"), (0, u "()V"), (1, .class_ 23), (1, u "jdk/internal/util/ArraysSupport"), (0, u "LOG2_ARRAY_LONG_INDEX_SCALE"), (0, u "I"), (2, u "U"), (0, u "Ljdk/internal/misc/Unsafe;"), (8, u "BIG_ENDIAN"), (0, u "Z"), (8, u "LOG2_BYTE_BIT_SIZE"), (4, u "LOG2_ARRAY_INT_INDEX_SCALE"), (54, u "JLA"), (0, u "Ljdk/internal/access/JavaLangAccess;"), (11, u "LOG2_ARRAY_BOOLEAN_INDEX_SCALE"), (9, u "LOG2_ARRAY_BYTE_INDEX_SCALE"), (5, u "LOG2_ARRAY_CHAR_INDEX_SCALE"), (5, u "LOG2_ARRAY_SHORT_INDEX_SCALE"), (18, u "LOG2_ARRAY_FLOAT_INDEX_SCALE"), (24, u "LOG2_ARRAY_DOUBLE_INDEX_SCALE"), (6, .methodref 195 196), (0, .class_ 197), (0, .nameAndType 198 199), (0, u "java/lang/Math"), (0, u "max"), (0, u "(II)I"), (0, .integer 2147483639), (76, u "T_BOOLEAN"), (2, u "T_CHAR"), (1, u "T_FLOAT"), (1, u "T_DOUBLE"), (1, u "T_BYTE"), (1, u "T_SHORT"), (1, u "T_INT"), (1, u "T_LONG"), (1, u "SOFT_MAX_ARRAY_LENGTH"), (56, u "newLength"), (0, u "(III)I")] 25

def k16m0 : Method := { name := "<init>", desc := "()V", sig := { parameters := [], returnType := none }, accessFlags := 2, code := none }
def k16c1 : Code := { maxStack := 3, maxLocals := 4, code := jdk_48_method_27_code, exceptionTable := #[], attributes := #[] }
def k16m1 : Method := { name := "newLength", desc := "(III)I", sig := { parameters := [.int, .int, .int], returnType := some .int }, accessFlags := 9, code := some k16c1 }
/-- jdk/internal/util/ArraysSupport -/
def k16 : Class := { plain "jdk/internal/util/ArraysSupport" (some 0) with
  accessFlags := 33
  interfaces := #[]
  cf := some (fileOf pool16 21 #[] #[{ accessFlags := 2, nameIndex := 9, descriptorIndex := 19, attributes := #[] }, { accessFlags := 9, nameIndex := 351, descriptorIndex := 352, attributes := #[] }] 33 16 #[] #[{ accessFlags := 24, nameIndex := 28, descriptorIndex := 29, attributes := #[] }, { accessFlags := 26, nameIndex := 38, descriptorIndex := 39, attributes := #[] }, { accessFlags := 25, nameIndex := 121, descriptorIndex := 25, attributes := #[] }, { accessFlags := 25, nameIndex := 131, descriptorIndex := 25, attributes := #[] }, { accessFlags := 25, nameIndex := 137, descriptorIndex := 25, attributes := #[] }, { accessFlags := 25, nameIndex := 143, descriptorIndex := 25, attributes := #[] }, { accessFlags := 25, nameIndex := 53, descriptorIndex := 25, attributes := #[] }, { accessFlags := 25, nameIndex := 24, descriptorIndex := 25, attributes := #[] }, { accessFlags := 25, nameIndex := 162, descriptorIndex := 25, attributes := #[] }, { accessFlags := 25, nameIndex := 187, descriptorIndex := 25, attributes := #[] }, { accessFlags := 26, nameIndex := 48, descriptorIndex := 25, attributes := #[] }, { accessFlags := 25, nameIndex := 277, descriptorIndex := 25, attributes := #[] }, { accessFlags := 25, nameIndex := 280, descriptorIndex := 25, attributes := #[] }, { accessFlags := 25, nameIndex := 282, descriptorIndex := 25, attributes := #[] }, { accessFlags := 25, nameIndex := 284, descriptorIndex := 25, attributes := #[] }, { accessFlags := 25, nameIndex := 286, descriptorIndex := 25, attributes := #[] }, { accessFlags := 25, nameIndex := 288, descriptorIndex := 25, attributes := #[] }, { accessFlags := 25, nameIndex := 290, descriptorIndex := 25, attributes := #[] }, { accessFlags := 25, nameIndex := 292, descriptorIndex := 25, attributes := #[] }, { accessFlags := 26, nameIndex := 108, descriptorIndex := 109, attributes := #[] }, { accessFlags := 25, nameIndex := 294, descriptorIndex := 25, attributes := #[] }])
  fields := #[{ name := "U", type := (.object "jdk/internal/misc/Unsafe"), accessFlags := 24, slot := 0, constantValue := 0 }, { name := "BIG_ENDIAN", type := .boolean, accessFlags := 26, slot := 1, constantValue := 0 }, { name := "LOG2_ARRAY_BOOLEAN_INDEX_SCALE", type := .int, accessFlags := 25, slot := 2, constantValue := 0 }, { name := "LOG2_ARRAY_BYTE_INDEX_SCALE", type := .int, accessFlags := 25, slot := 3, constantValue := 0 }, { name := "LOG2_ARRAY_CHAR_INDEX_SCALE", type := .int, accessFlags := 25, slot := 4, constantValue := 0 }, { name := "LOG2_ARRAY_SHORT_INDEX_SCALE", type := .int, accessFlags := 25, slot := 5, constantValue := 0 }, { name := "LOG2_ARRAY_INT_INDEX_SCALE", type := .int, accessFlags := 25, slot := 6, constantValue := 0 }, { name := "LOG2_ARRAY_LONG_INDEX_SCALE", type := .int, accessFlags := 25, slot := 7, constantValue := 0 }, { name := "LOG2_ARRAY_FLOAT_INDEX_SCALE", type := .int, accessFlags := 25, slot := 8, constantValue := 0 }, { name := "LOG2_ARRAY_DOUBLE_INDEX_SCALE", type := .int, accessFlags := 25, slot := 9, constantValue := 0 }, { name := "LOG2_BYTE_BIT_SIZE", type := .int, accessFlags := 26, slot := 10, constantValue := 0 }, { name := "T_BOOLEAN", type := .int, accessFlags := 25, slot := 11, constantValue := 0 }, { name := "T_CHAR", type := .int, accessFlags := 25, slot := 12, constantValue := 0 }, { name := "T_FLOAT", type := .int, accessFlags := 25, slot := 13, constantValue := 0 }, { name := "T_DOUBLE", type := .int, accessFlags := 25, slot := 14, constantValue := 0 }, { name := "T_BYTE", type := .int, accessFlags := 25, slot := 15, constantValue := 0 }, { name := "T_SHORT", type := .int, accessFlags := 25, slot := 16, constantValue := 0 }, { name := "T_INT", type := .int, accessFlags := 25, slot := 17, constantValue := 0 }, { name := "T_LONG", type := .int, accessFlags := 25, slot := 18, constantValue := 0 }, { name := "JLA", type := (.object "jdk/internal/access/JavaLangAccess"), accessFlags := 26, slot := 19, constantValue := 0 }, { name := "SOFT_MAX_ARRAY_LENGTH", type := .int, accessFlags := 25, slot := 20, constantValue := 0 }]
  methods := #[k16m0, k16m1]
  instanceTypes := #[]
  staticTypes := #[(.object "jdk/internal/misc/Unsafe"), .boolean, .int, .int, .int, .int, .int, .int, .int, .int, .int, .int, .int, .int, .int, .int, .int, .int, .int, (.object "jdk/internal/access/JavaLangAccess"), .int]
  resolved := Array.replicate 378 none
  statics := none }

def pool17 : Array CpInfo := pool [(1, .class_ 2), (0, u "java/lang/Math"), (1, .class_ 6), (1, u "java/lang/Object"), (0, u "<init>"), (0, u "()V"), (5, u "(D)D"), (83, .class_ 100), (1, u "java/lang/Math$RandomNumberGeneratorHolder"), (23, u "abs"), (47, u "negativeZeroFloatBits"), (0, u "J"), (2, u "negativeZeroDoubleBits"), (21, u "max"), (2, u "min"), (43, u "$assertionsDisabled"), (0, u "Z"), (88, u "(II)I"), (2, u "twoToTheDoubleScaleDown"), (0, u "D"), (4, u "twoToTheDoubleScaleUp"), (9, u "E"), (3, u "PI"), (2, u "TAU"), (2, u "DEGREES_TO_RADIANS"), (0, u "RADIANS_TO_DEGREES")] 94

def k17m0 : Method := { name := "<init>", desc := "()V", sig := { parameters := [], returnType := none }, accessFlags := 2, code := none }
def k17c1 : Code := { maxStack := 4, maxLocals := 2, code := jdk_29_method_64_code, exceptionTable := #[], attributes := #[] }
def k17m1 : Method := { name := "abs", desc := "(D)D", sig := { parameters := [.double], returnType := some .double }, accessFlags := 9, code := some k17c1 }
def k17c2 : Code := { maxStack := 2, maxLocals := 2, code := jdk_29_method_65_code, exceptionTable := #[], attributes := #[] }
def k17m2 : Method := { name := "max", desc := "(II)I", sig := { parameters := [.int, .int], returnType := some .int }, accessFlags := 9, code := some k17c2 }
def k17c3 : Code := { maxStack := 2, maxLocals := 2, code := jdk_29_method_69_code, exceptionTable := #[], attributes := #[] }
def k17m3 : Method := { name := "min", desc := "(II)I", sig := { parameters := [.int, .int], returnType := some .int }, accessFlags := 9, code := some k17c3 }
/-- java/lang/Math -/
def k17 : Class := { plain "java/lang/Math" (some 0) with
  accessFlags := 49
  interfaces := #[]
  cf := some (fileOf pool17 1 #[.nestMembers #[98]] #[{ accessFlags := 2, nameIndex := 7, descriptorIndex := 8, attributes := #[] }, { accessFlags := 9, nameIndex := 124, descriptorIndex := 14, attributes := #[] }, { accessFlags := 9, nameIndex := 198, descriptorIndex := 335, attributes := #[] }, { accessFlags := 9, nameIndex := 201, descriptorIndex := 335, attributes := #[] }] 49 4 #[] #[{ accessFlags := 25, nameIndex := 354, descriptorIndex := 339, attributes := #[] }, { accessFlags := 25, nameIndex := 358, descriptorIndex := 339, attributes := #[] }, { accessFlags := 25, nameIndex := 361, descriptorIndex := 339, attributes := #[] }, { accessFlags := 26, nameIndex := 364, descriptorIndex := 339, attributes := #[] }, { accessFlags := 26, nameIndex := 365, descriptorIndex := 339, attributes := #[] }, { accessFlags := 26, nameIndex := 172, descriptorIndex := 173, attributes := #[] }, { accessFlags := 26, nameIndex := 176, descriptorIndex := 173, attributes := #[] }, { accessFlags := 8, nameIndex := 344, descriptorIndex := 339, attributes := #[] }, { accessFlags := 8, nameIndex := 338, descriptorIndex := 339, attributes := #[] }, { accessFlags := 4120, nameIndex := 245, descriptorIndex := 246, attributes := #[] }])
  fields := #[{ name := "E", type := .double, accessFlags := 25, slot := 0, constantValue := 0 }, { name := "PI", type := .double, accessFlags := 25, slot := 1, constantValue := 0 }, { name := "TAU", type := .double, accessFlags := 25, slot := 2, constantValue := 0 }, { name := "DEGREES_TO_RADIANS", type := .double, accessFlags := 26, slot := 3, constantValue := 0 }, { name := "RADIANS_TO_DEGREES", type := .double, accessFlags := 26, slot := 4, constantValue := 0 }, { name := "negativeZeroFloatBits", type := .long, accessFlags := 26, slot := 5, constantValue := 0 }, { name := "negativeZeroDoubleBits", type := .long, accessFlags := 26, slot := 6, constantValue := 0 }, { name := "twoToTheDoubleScaleUp", type := .double, accessFlags := 8, slot := 7, constantValue := 0 }, { name := "twoToTheDoubleScaleDown", type := .double, accessFlags := 8, slot := 8, constantValue := 0 }, { name := "$assertionsDisabled", type := .boolean, accessFlags := 4120, slot := 9, constantValue := 0 }]
  methods := #[k17m0, k17m1, k17m2, k17m3]
  instanceTypes := #[]
  staticTypes := #[.double, .double, .double, .double, .double, .long, .long, .double, .double, .boolean]
  resolved := Array.replicate 460 none
  statics := none }

def pool18 : Array CpInfo := pool [(2, .class_ 4), (1, u "java/lang/Object"), (0, u "<init>"), (0, u "()V"), (7, .class_ 16), (1, u "java/util/Arrays"), (57, .class_ 76), (1, u "java/util/Arrays$NaturalOrder"), (36, .class_ 115), (1, u "java/util/Arrays$LegacyMergeSort"), (1, u "Z"), (21, u "copyOfRange"), (10, .methodref 151 152), (0, .class_ 153), (0, .nameAndType 154 155), (0, u "java/lang/System"), (0, u "arraycopy"), (0, u "(Ljava/lang/Object;ILjava/lang/Object;II)V"), (146, u "copyOf"), (1, .methodref 305 306), (0, .class_ 307), (0, .nameAndType 308 309), (0, u "java/lang/Math"), (0, u "min"), (0, u "(II)I"), (29, .methodref 14 340), (0, .nameAndType 341 342), (0, u "copyOfRangeByte"), (0, u "([BII)[B"), (0, .methodref 14 344), (0, .nameAndType 345 346), (0, u "checkLength"), (0, u "(II)V"), (28, .class_ 376), (0, u "java/util/Arrays$ArrayList"), (68, u "$assertionsDisabled"), (269, u "MIN_ARRAY_SORT_GRAN"), (0, u "I"), (2, u "INSERTIONSORT_THRESHOLD"), (149, u "([BI)[B"), (105, .class_ 976), (0, u "java/util/Arrays$ArrayItr")] 52

def k18m0 : Method := { name := "<init>", desc := "()V", sig := { parameters := [], returnType := none }, accessFlags := 2, code := none }
def k18c1 : Code := { maxStack := 6, maxLocals := 3, code := jdk_65_method_121_code, exceptionTable := #[], attributes := #[] }
def k18m1 : Method := { name := "copyOf", desc := "([BI)[B", sig := { parameters := [(.array .byte), .int], returnType := some (.array .byte) }, accessFlags := 9, code := some k18c1 }
def k18c2 : Code := { maxStack := 4, maxLocals := 2, code := jdk_65_method_131_code, exceptionTable := #[], attributes := #[] }
def k18m2 : Method := { name := "checkLength", desc := "(II)V", sig := { parameters := [.int, .int], returnType := none }, accessFlags := 10, code := some k18c2 }
def k18c3 : Code := { maxStack := 3, maxLocals := 3, code := jdk_65_method_132_code, exceptionTable := #[], attributes := #[] }
def k18m3 : Method := { name := "copyOfRange", desc := "([BII)[B", sig := { parameters := [(.array .byte), .int, .int], returnType := some (.array .byte) }, accessFlags := 9, code := some k18c3 }
def k18c4 : Code := { maxStack := 6, maxLocals := 5, code := jdk_65_method_133_code, exceptionTable := #[], attributes := #[] }
def k18m4 : Method := { name := "copyOfRangeByte", desc := "([BII)[B", sig := { parameters := [(.array .byte), .int, .int], returnType := some (.array .byte) }, accessFlags := 10, code := some k18c4 }
/-- java/util/Arrays -/
def k18 : Class := { plain "java/util/Arrays" (some 0) with
  accessFlags := 49
  interfaces := #[]
  cf := some (fileOf pool18 14 #[.nestMembers #[975, 375, 113, 74]] #[{ accessFlags := 2, nameIndex := 5, descriptorIndex := 6, attributes := #[] }, { accessFlags := 9, nameIndex := 302, descriptorIndex := 869, attributes := #[] }, { accessFlags := 10, nameIndex := 345, descriptorIndex := 346, attributes := #[] }, { accessFlags := 9, nameIndex := 139, descriptorIndex := 342, attributes := #[] }, { accessFlags := 10, nameIndex := 341, descriptorIndex := 342, attributes := #[] }] 49 2 #[] #[{ accessFlags := 26, nameIndex := 715, descriptorIndex := 716, attributes := #[] }, { accessFlags := 26, nameIndex := 719, descriptorIndex := 716, attributes := #[] }, { accessFlags := 4120, nameIndex := 445, descriptorIndex := 117, attributes := #[] }])
  fields := #[{ name := "MIN_ARRAY_SORT_GRAN", type := .int, accessFlags := 26, slot := 0, constantValue := 0 }, { name := "INSERTIONSORT_THRESHOLD", type := .int, accessFlags := 26, slot := 1, constantValue := 0 }, { name := "$assertionsDisabled", type := .boolean, accessFlags := 4120, slot := 2, constantValue := 0 }]
  methods := #[k18m0, k18m1, k18m2, k18m3, k18m4]
  instanceTypes := #[]
  staticTypes := #[.int, .int, .boolean]
  resolved := Array.replicate 1029 none
  statics := none }

def pool19 : Array CpInfo := pool [(2, .class_ 4), (1, u "java/lang/Object"), (0, u "<init>"), (0, u "()V"), (1, .class_ 10), (1, u "java/lang/System"), (0, u "allowSecurityManager"), (0, u "I"), (16, u "cons"), (0, u "Ljava/io/Console;"), (77, .class_ 110), (1, u "java/lang/System$CallersHolder"), (43, u "initialErrStream"), (0, u "Ljava/io/PrintStream;"), (19, u "security"), (0, u "Ljava/lang/SecurityManager;"), (31, .class_ 209), (0, u "java/lang/System$1"), (7, u "props"), (0, u "Ljava/util/Properties;"), (2, u "lineSeparator"), (0, u "Ljava/lang/String;"), (96, .class_ 321), (1, u "java/lang/System$LoggerFinder"), (5, .class_ 328), (0, u "java/lang/System$Logger"), (67, u "err"), (2, u "out"), (91, u "notSupportedJnuEncoding"), (15, u "in"), (17, u "initialIn"), (0, u "Ljava/io/InputStream;"), (35, u "bootLayer"), (0, u "Ljava/lang/ModuleLayer;"), (99, .class_ 664), (0, u "java/lang/System$2"), (9, u "NEVER"), (2, u "MAYBE"), (49, u "arraycopy"), (0, u "(Ljava/lang/Object;ILjava/lang/Object;II)V"), (72, .class_ 802), (0, u "java/lang/System$Logger$Level")] 31

def k19m0 : Method := { name := "<init>", desc := "()V", sig := { parameters := [], returnType := none }, accessFlags := 2, code := none }
def k19m1 : Method := { name := "arraycopy", desc := "(Ljava/lang/Object;ILjava/lang/Object;II)V", sig := { parameters := [(.object "java/lang/Object"), .int, (.object "java/lang/Object"), .int, .int], returnType := none }, accessFlags := 265, code := none }
/-- java/lang/System -/
def k19 : Class := { plain "java/lang/System" (some 0) with
  accessFlags := 49
  interfaces := #[]
  cf := some (fileOf pool19 8 #[.nestMembers #[319, 327, 801, 108, 663, 208]] #[{ accessFlags := 2, nameIndex := 5, descriptorIndex := 6, attributes := #[] }, { accessFlags := 265, nameIndex := 727, descriptorIndex := 728, attributes := #[] }] 49 2 #[] #[{ accessFlags := 25, nameIndex := 507, descriptorIndex := 526, attributes := #[] }, { accessFlags := 25, nameIndex := 399, descriptorIndex := 155, attributes := #[] }, { accessFlags := 25, nameIndex := 396, descriptorIndex := 155, attributes := #[] }, { accessFlags := 10, nameIndex := 525, descriptorIndex := 526, attributes := #[] }, { accessFlags := 26, nameIndex := 674, descriptorIndex := 12, attributes := #[] }, { accessFlags := 26, nameIndex := 677, descriptorIndex := 12, attributes := #[] }, { accessFlags := 10, nameIndex := 11, descriptorIndex := 12, attributes := #[] }, { accessFlags := 74, nameIndex := 175, descriptorIndex := 176, attributes := #[] }, { accessFlags := 10, nameIndex := 491, descriptorIndex := 222, attributes := #[] }, { accessFlags := 74, nameIndex := 29, descriptorIndex := 30, attributes := #[] }, { accessFlags := 74, nameIndex := 154, descriptorIndex := 155, attributes := #[] }, { accessFlags := 10, nameIndex := 217, descriptorIndex := 218, attributes := #[] }, { accessFlags := 10, nameIndex := 221, descriptorIndex := 222, attributes := #[] }, { accessFlags := 8, nameIndex := 562, descriptorIndex := 563, attributes := #[] }])
  fields := #[{ name := "in", type := (.object "java/io/InputStream"), accessFlags := 25, slot := 0, constantValue := 0 }, { name := "out", type := (.object "java/io/PrintStream"), accessFlags := 25, slot := 1, constantValue := 0 }, { name := "err", type := (.object "java/io/PrintStream"), accessFlags := 25, slot := 2, constantValue := 0 }, { name := "initialIn", type := (.object "java/io/InputStream"), accessFlags := 10, slot := 3, constantValue := 0 }, { name := "NEVER", type := .int, accessFlags := 26, slot := 4, constantValue := 0 }, { name := "MAYBE", type := .int, accessFlags := 26, slot := 5, constantValue := 0 }, { name := "allowSecurityManager", type := .int, accessFlags := 10, slot := 6, constantValue := 0 }, { name := "security", type := (.object "java/lang/SecurityManager"), accessFlags := 74, slot := 7, constantValue := 0 }, { name := "notSupportedJnuEncoding", type := (.object "java/lang/String"), accessFlags := 10, slot := 8, constantValue := 0 }, { name := "cons", type := (.object "java/io/Console"), accessFlags := 74, slot := 9, constantValue := 0 }, { name := "initialErrStream", type := (.object "java/io/PrintStream"), accessFlags := 74, slot := 10, constantValue := 0 }, { name := "props", type := (.object "java/util/Properties"), accessFlags := 10, slot := 11, constantValue := 0 }, { name := "lineSeparator", type := (.object "java/lang/String"), accessFlags := 10, slot := 12, constantValue := 0 }, { name := "bootLayer", type := (.object "java/lang/ModuleLayer"), accessFlags := 8, slot := 13, constantValue := 0 }]
  methods := #[k19m0, k19m1]
  instanceTypes := #[]
  staticTypes := #[(.object "java/io/InputStream"), (.object "java/io/PrintStream"), (.object "java/io/PrintStream"), (.object "java/io/InputStream"), .int, .int, .int, (.object "java/lang/SecurityManager"), (.object "java/lang/String"), (.object "java/io/Console"), (.object "java/io/PrintStream"), (.object "java/util/Properties"), (.object "java/lang/String"), (.object "java/lang/ModuleLayer")]
  resolved := Array.replicate 834 none
  statics := none }

def pool20 : Array CpInfo := pool [(2, .class_ 4), (1, u "java/lang/Object"), (0, u "<init>"), (0, u "()V"), (0, .methodref 8 9), (0, .class_ 10), (0, .nameAndType 11 12), (0, u "java/lang/Double"), (0, u "isFinite"), (0, u "(D)Z"), (33, .class_ 47), (0, u "com/example/lightpath_planner/lightpathplanner/Require"), (2, u "positive"), (0, u "(DLjava/lang/String;)D")] 8

def k20m0 : Method := { name := "<init>", desc := "()V", sig := { parameters := [], returnType := none }, accessFlags := 2, code := none }
def k20c1 : Code := { maxStack := 5, maxLocals := 3, code := prog_14_method_2_code, exceptionTable := #[], attributes := #[] }
def k20m1 : Method := { name := "positive", desc := "(DLjava/lang/String;)D", sig := { parameters := [.double, (.object "java/lang/String")], returnType := some .double }, accessFlags := 8, code := some k20c1 }
/-- com/example/lightpath_planner/lightpathplanner/Require -/
def k20 : Class := { plain "com/example/lightpath_planner/lightpathplanner/Require" (some 0) with
  accessFlags := 48
  interfaces := #[]
  cf := some (fileOf pool20 46 #[] #[{ accessFlags := 2, nameIndex := 5, descriptorIndex := 6, attributes := #[] }, { accessFlags := 8, nameIndex := 50, descriptorIndex := 51, attributes := #[] }] 48 2 #[] #[])
  fields := #[]
  methods := #[k20m0, k20m1]
  instanceTypes := #[]
  staticTypes := #[]
  resolved := Array.replicate 60 none
  statics := none }

def pool21 : Array CpInfo := pool [(2, .class_ 4), (1, u "java/lang/Object"), (0, u "<init>"), (0, u "()V"), (1, .class_ 10), (1, u "java/lang/Number"), (2, .class_ 14), (0, u "java/io/Serializable"), (0, u "serialVersionUID"), (0, u "J")] 20

def k21m0 : Method := { name := "<init>", desc := "()V", sig := { parameters := [], returnType := none }, accessFlags := 1, code := none }
/-- java/lang/Number -/
def k21 : Class := { plain "java/lang/Number" (some 0) with
  accessFlags := 1057
  interfaces := #[3]
  cf := some (fileOf pool21 8 #[] #[{ accessFlags := 1, nameIndex := 5, descriptorIndex := 6, attributes := #[] }] 1057 2 #[13] #[{ accessFlags := 26, nameIndex := 15, descriptorIndex := 16, attributes := #[] }])
  fields := #[{ name := "serialVersionUID", type := .long, accessFlags := 26, slot := 0, constantValue := 0 }]
  methods := #[k21m0]
  instanceTypes := #[]
  staticTypes := #[.long]
  resolved := Array.replicate 37 none
  statics := none }

def pool22 : Array CpInfo := pool [(1, .class_ 2), (0, u "java/lang/Double"), (10, u "isFinite"), (0, u "(D)Z"), (8, .class_ 25), (1, u "java/lang/Math"), (12, .methodref 23 39), (0, .nameAndType 40 41), (0, u "abs"), (0, u "(D)D"), (69, .double 9218868437227405311), (2, .class_ 116), (1, u "java/lang/Number"), (3, u "value"), (0, u "D"), (51, u "TYPE"), (0, u "Ljava/lang/Class;"), (0, .class_ 176), (0, u "java/lang/Comparable"), (0, .class_ 178), (0, u "java/lang/constant/Constable"), (0, .class_ 180), (0, u "java/lang/constant/ConstantDesc"), (0, u "POSITIVE_INFINITY"), (3, u "NEGATIVE_INFINITY"), (2, u "NaN"), (2, u "MAX_VALUE"), (0, u "MIN_NORMAL"), (0, u "MIN_VALUE"), (2, u "SIZE"), (0, u "I"), (1, u "PRECISION"), (1, u "MAX_EXPONENT"), (1, u "MIN_EXPONENT"), (1, u "BYTES"), (3, u "serialVersionUID"), (0, u "J")] 79

def k22c0 : Code := { maxStack := 4, maxLocals := 2, code := jdk_117_method_8_code, exceptionTable := #[], attributes := #[] }
def k22m0 : Method := { name := "isFinite", desc := "(D)Z", sig := { parameters := [.double], returnType := some .boolean }, accessFlags := 9, code := some k22c0 }
/-- java/lang/Double -/
def k22 : Class := { plain "java/lang/Double" (some 21) with
  accessFlags := 49
  interfaces := #[4, 6, 7]
  cf := some (fileOf pool22 1 #[] #[{ accessFlags := 9, nameIndex := 13, descriptorIndex := 14, attributes := #[] }] 49 114 #[175, 177, 179] #[{ accessFlags := 25, nameIndex := 181, descriptorIndex := 121, attributes := #[] }, { accessFlags := 25, nameIndex := 185, descriptorIndex := 121, attributes := #[] }, { accessFlags := 25, nameIndex := 188, descriptorIndex := 121, attributes := #[] }, { accessFlags := 25, nameIndex := 191, descriptorIndex := 121, attributes := #[] }, { accessFlags := 25, nameIndex := 192, descriptorIndex := 121, attributes := #[] }, { accessFlags := 25, nameIndex := 193, descriptorIndex := 121, attributes := #[] }, { accessFlags := 25, nameIndex := 196, descriptorIndex := 197, attributes := #[] }, { accessFlags := 25, nameIndex := 199, descriptorIndex := 197, attributes := #[] }, { accessFlags := 25, nameIndex := 201, descriptorIndex := 197, attributes := #[] }, { accessFlags := 25, nameIndex := 203, descriptorIndex := 197, attributes := #[] }, { accessFlags := 25, nameIndex := 205, descriptorIndex := 197, attributes := #[] }, { accessFlags := 25, nameIndex := 173, descriptorIndex := 174, attributes := #[] }, { accessFlags := 18, nameIndex := 120, descriptorIndex := 121, attributes := #[] }, { accessFlags := 26, nameIndex := 209, descriptorIndex := 210, attributes := #[] }])
  fields := #[{ name := "POSITIVE_INFINITY", type := .double, accessFlags := 25, slot := 0, constantValue := 0 }, { name := "NEGATIVE_INFINITY", type := .double, accessFlags := 25, slot := 1, constantValue := 0 }, { name := "NaN", type := .double, accessFlags := 25, slot := 2, constantValue := 0 }, { name := "MAX_VALUE", type := .double, accessFlags := 25, slot := 3, constantValue := 0 }, { name := "MIN_NORMAL", type := .double, accessFlags := 25, slot := 4, constantValue := 0 }, { name := "MIN_VALUE", type := .double, accessFlags := 25, slot := 5, constantValue := 0 }, { name := "SIZE", type := .int, accessFlags := 25, slot := 6, constantValue := 0 }, { name := "PRECISION", type := .int, accessFlags := 25, slot := 7, constantValue := 0 }, { name := "MAX_EXPONENT", type := .int, accessFlags := 25, slot := 8, constantValue := 0 }, { name := "MIN_EXPONENT", type := .int, accessFlags := 25, slot := 9, constantValue := 0 }, { name := "BYTES", type := .int, accessFlags := 25, slot := 10, constantValue := 0 }, { name := "TYPE", type := (.object "java/lang/Class"), accessFlags := 25, slot := 11, constantValue := 0 }, { name := "value", type := .double, accessFlags := 18, slot := 0, constantValue := 0 }, { name := "serialVersionUID", type := .long, accessFlags := 26, slot := 12, constantValue := 0 }]
  methods := #[k22m0]
  instanceTypes := #[.double]
  staticTypes := #[.double, .double, .double, .double, .double, .double, .int, .int, .int, .int, .int, (.object "java/lang/Class"), .long]
  resolved := Array.replicate 290 none
  statics := none }

def pool23 : Array CpInfo := pool [(2, .class_ 4), (1, u "java/lang/Object"), (0, u "<init>"), (0, u "()V"), (17, .class_ 26), (1, u "jdk/internal/util/Preconditions"), (28, .class_ 56), (0, u "jdk/internal/util/Preconditions$4"), (57, .class_ 115), (0, u "jdk/internal/util/Preconditions$1"), (7, u "SIOOBE_FORMATTER"), (0, u "Ljava/util/function/BiFunction;"), (0, .class_ 126), (0, u "jdk/internal/util/Preconditions$2"), (3, u "AIOOBE_FORMATTER"), (0, .class_ 132), (0, u "jdk/internal/util/Preconditions$3"), (3, u "IOOBE_FORMATTER")] 57

def k23m0 : Method := { name := "<init>", desc := "()V", sig := { parameters := [], returnType := none }, accessFlags := 1, code := none }
/-- jdk/internal/util/Preconditions -/
def k23 : Class := { plain "jdk/internal/util/Preconditions" (some 0) with
  accessFlags := 33
  interfaces := #[]
  cf := some (fileOf pool23 24 #[.nestMembers #[55, 131, 125, 114]] #[{ accessFlags := 1, nameIndex := 5, descriptorIndex := 6, attributes := #[] }] 33 2 #[] #[{ accessFlags := 25, nameIndex := 123, descriptorIndex := 124, attributes := #[] }, { accessFlags := 25, nameIndex := 130, descriptorIndex := 124, attributes := #[] }, { accessFlags := 25, nameIndex := 136, descriptorIndex := 124, attributes := #[] }])
  fields := #[{ name := "SIOOBE_FORMATTER", type := (.object "java/util/function/BiFunction"), accessFlags := 25, slot := 0, constantValue := 0 }, { name := "AIOOBE_FORMATTER", type := (.object "java/util/function/BiFunction"), accessFlags := 25, slot := 1, constantValue := 0 }, { name := "IOOBE_FORMATTER", type := (.object "java/util/function/BiFunction"), accessFlags := 25, slot := 2, constantValue := 0 }]
  methods := #[k23m0]
  instanceTypes := #[]
  staticTypes := #[(.object "java/util/function/BiFunction"), (.object "java/util/function/BiFunction"), (.object "java/util/function/BiFunction")]
  resolved := Array.replicate 194 none
  statics := some 2 }

def pool24 : Array CpInfo := pool [(1, u "java/lang/Cloneable"), (0, .class_ 1), (0, u "java/lang/Object"), (0, .class_ 3)] 3

/-- java/lang/Cloneable -/
def k24 : Class := { plain "java/lang/Cloneable" (some 0) with
  accessFlags := 1537
  interfaces := #[]
  cf := some (fileOf pool24 2 #[] #[] 1537 4 #[] #[])
  fields := #[]
  methods := #[]
  instanceTypes := #[]
  staticTypes := #[]
  resolved := Array.replicate 8 none
  statics := none }

/-- the primitive byte -/
def k25 : Class := { plain "byte" none with kind := .primitive 'B', accessFlags := 0x411 }
/-- [B -/
def k26 : Class := { plain "[B" (some 0) with kind := .array 25 .byte, interfaces := #[24, 3], accessFlags := 1041 }

/-- the primitive int -/
def k27 : Class := { plain "int" none with kind := .primitive 'I', accessFlags := 0x411 }
/-- [I -/
def k28 : Class := { plain "[I" (some 0) with kind := .array 27 .int, interfaces := #[24, 3], accessFlags := 1041 }

def heap : Heap := #[{ cls := 8, slots := #[.long 0, .int 1, .null, .int 0, .null, .int 0, .int 0], vm := .statics 8 },
  { cls := 12, slots := #[.null, .null, .ref 3, .ref 4, .null], vm := .statics 12 },
  { cls := 23, slots := #[.null, .null, .null], vm := .statics 23 },
  { cls := 12, slots := #[], vm := .none },
  { cls := 28, slots := #[.int 1207963663, .int 1207963663, .int 1207963663, .int 1207963663, .int 1207963663, .int 1207963663, .int 1207963663, .int 1207963663, .int 1207963663, .int 1476411407, .int 1342193679, .int 1476411407, .int 1610629135, .int 1342193679, .int 1207963663, .int 1207963663, .int 1207963663, .int 1207963663, .int 1207963663, .int 1207963663, .int 1207963663, .int 1207963663, .int 1207963663, .int 1207963663, .int 1207963663, .int 1207963663, .int 1207963663, .int 1207963663, .int 1342193679, .int 1342193679, .int 1342193679, .int 1476411407, .int 1610629132, .int 1744830488, .int 1744830488, .int 671088664, .int 671113242, .int 671088664, .int 1744830488, .int 1744830488, .int (-402653163), .int (-402653162), .int 1744830488, .int 536870937, .int 939524120, .int 536870932, .int 939524120, .int 939524120, .int 402667017, .int 402667017, .int 402667017, .int 402667017, .int 402667017, .int 402667017, .int 402667017, .int 402667017, .int 402667017, .int 402667017, .int 939524120, .int 1744830488, .int (-402653159), .int 1744830489, .int (-402653159), .int 1744830488, .int 1744830488, .int 8552417, .int 8552417, .int 8552417, .int 8552417, .int 8552417, .int 8552417, .int 8552417, .int 8552417, .int 8552417, .int 8552417, .int 8552417, .int 8552417, .int 8552417, .int 8552417, .int 8552417, .int 8552417, .int 8552417, .int 8552417, .int 8552417, .int 8552417, .int 8552417, .int 8552417, .int 8552417, .int 8552417, .int 8552417, .int 8552417, .int (-402653163), .int 1744830488, .int (-402653162), .int 1744830491, .int 1744850967, .int 1744830491, .int 8486882, .int 8486882, .int 8486882, .int 8486882, .int 8486882, .int 8486882, .int 8486882, .int 8486882, .int 8486882, .int 8486882, .int 8486882, .int 8486882, .int 8486882, .int 8486882, .int 8486882, .int 8486882, .int 8486882, .int 8486882, .int 8486882, .int 8486882, .int 8486882, .int 8486882, .int 8486882, .int 8486882, .int 8486882, .int 8486882, .int (-402653163), .int 1744830489, .int (-402653162), .int 1744830489, .int 1207963663, .int 1207963663, .int 1207963663, .int 1207963663, .int 1207963663, .int 1207963663, .int 1342181391, .int 1207963663, .int 1207963663, .int 1207963663, .int 1207963663, .int 1207963663, .int 1207963663, .int 1207963663, .int 1207963663, .int 1207963663, .int 1207963663, .int 1207963663, .int 1207963663, .int 1207963663, .int 1207963663, .int 1207963663, .int 1207963663, .int 1207963663, .int 1207963663, .int 1207963663, .int 1207963663, .int 1207963663, .int 1207963663, .int 1207963663, .int 1207963663, .int 1207963663, .int 1207963663, .int 939524108, .int 1744830488, .int 671113242, .int 671113242, .int 671113242, .int 671113242, .int 1744830492, .int 1744830488, .int 1744830491, .int 1744830492, .int 28677, .int (-402653155), .int 1744830489, .int 1207963664, .int 1744830492, .int 1744830491, .int 671088668, .int 671088665, .int 402654731, .int 402654731, .int 1744830491, .int 134049794, .int 1744830488, .int 1744830488, .int 1744830491, .int 402654475, .int 28677, .int (-402653154), .int 1744832523, .int 1744832523, .int 1744832523, .int 1744830488, .int 8548353, .int 8548353, .int 8548353, .int 8548353, .int 8548353, .int 8548353, .int 8548353, .int 8548353, .int 8548353, .int 8548353, .int 8548353, .int 8548353, .int 8548353, .int 8548353, .int 8548353, .int 8548353, .int 8548353, .int 8548353, .int 8548353, .int 8548353, .int 8548353, .int 8548353, .int 8548353, .int 1744830489, .int 8548353, .int 8548353, .int 8548353, .int 8548353, .int 8548353, .int 8548353, .int 8548353, .int 134049794, .int 8482818, .int 8482818, .int 8482818, .int 8482818, .int 8482818, .int 8482818, .int 8482818, .int 8482818, .int 8482818, .int 8482818, .int 8482818, .int 8482818, .int 8482818, .int 8482818, .int 8482818, .int 8482818, .int 8482818, .int 8482818, .int 8482818, .int 8482818, .int 8482818, .int 8482818, .int 8482818, .int 1744830489, .int 8482818, .int 8482818, .int 8482818, .int 8482818, .int 8482818, .int 8482818, .int 8482818, .int 102592514], vm := .none }]
def classes : Array Class := #[k0, k1, k2, k3, k4, k5, k6, k7, k8, k9, k10, k11, k12, k13, k14, k15, k16, k17, k18, k19, k20, k21, k22, k23, k24, k25, k26, k27, k28]
def interned : List (Array UInt16 × Addr) := []
def slotsUsed : Nat := 271
def theMethod : MethodId := ⟨1, 1⟩
def args0 : Array Value := #[.int 5, .int 7, .int 1]
def aboutOver (below : List Frame) : State where
  vm := { classes := classes, interned := interned.toArray }
  heap := heap
  slotsUsed := slotsUsed
  threads := #[{ frames := .invoking theMethod args0 :: below }]
def below0 : List Frame := [.native { method := ⟨0, 0⟩, args := #[] }]
def about1 : State := aboutOver below0
def p0 : Program := .bare "" "" ""
def e0 : Env := launch0.env 0 0 0
theorem w_frames : about1.frames = Frame.invoking theMethod args0 :: below0 := rfl
set_option maxRecDepth 65536 in
theorem w_args : argsFit about1.vm theMethod args0 = true := by decide +kernel
set_option maxRecDepth 65536 in
theorem w_heap : heapFits about1 = true := by decide +kernel
set_option maxRecDepth 65536 in
theorem w_runnable : about1.curStatus? = some .runnable := by decide +kernel
set_option maxRecDepth 65536 in
theorem w_alone : about1.alone = true := by decide +kernel
set_option maxRecDepth 65536 in
theorem w_named : about1.methodNamed? x = some theMethod := by decide +kernel
set_option maxRecDepth 65536 in
theorem w_hears : about1.hears theMethod below0 = true := by decide +kernel
set_option maxRecDepth 65536 in
theorem w_ripe : about1.ripe theMethod args0 below0 = true := by decide +kernel
theorem w_running : about1.status = .running := rfl
set_option maxRecDepth 65536 in
theorem w_room : about1.hasRoom e0.platform room_1 = true :=
  launch0.hasRoom_least _ room_1 (by decide +kernel) (by decide +kernel) (by decide +kernel) (by decide +kernel) (by decide +kernel) (by decide +kernel)
theorem allAtoms_all (ts : List Jvm.Cond) (a : Array Jvm.Value) (st : Jvm.State) : (allAtoms ts).before a st = ts.all (fun c => c.before a st) := by
  induction ts with
  | nil => rfl
  | cons c t ih =>
    show (Jvm.Cond.and c (allAtoms t)).before a st = _
    rw [Jvm.Cond.before_and, ih, List.all_cons]
def words1 : List Jvm.Cond := Jvm.Cond.code x code maxLocals ret :: tables_1
/-- a 'code' word, met by the world's own term for the bytes: nothing is compared byte by byte -/
theorem code_word {y : MethodName} {bytes : ByteArray} {mx : Nat} {rt : Option FieldType} {a : Array Value} {s : State} {m : MethodId} {meth : Method} {c : Code} (h1 : s.methodNamed? y = some m) (h2 : s.vm.method? m = some meth) (h3 : meth.code = some c) (h4 : c.code = bytes)
    (h5 : (c.maxLocals == mx && c.exceptionTable.isEmpty && decide (c.maxStack ≤ mostOperands) && decide (meth.sig.returnType = rt) && !meth.locks && decide (parseMethodDescriptor y.desc = some meth.sig)) = true) : (Jvm.Cond.code y bytes mx rt).before a s = true := by
  simp only [Bool.and_eq_true, beq_iff_eq, Bool.not_eq_true', decide_eq_true_eq] at h5
  obtain ⟨⟨⟨⟨⟨g1, g2⟩, g3⟩, g4⟩, g5⟩, g6⟩ := h5
  simp [Cond.before, Cond.holds, Cond.value, h1, h2, h3, h4, g1, g2, g3, g4, g5, g6]
def isCode : Jvm.Cond → Bool
  | .code _ _ _ _ => true
  | _ => false
theorem all_split {L : List Jvm.Cond} {P : Jvm.Cond → Bool} (h1 : L.all (fun c => isCode c || P c) = true) (h2 : ∀ c ∈ L.filter isCode, P c = true) : L.all P = true := by
  refine List.all_eq_true.mpr fun c hc => ?_
  have h := List.all_eq_true.mp h1 c hc
  rcases Bool.eq_false_or_eq_true (isCode c) with hi | hi
  · exact h2 c (List.mem_filter.mpr ⟨hc, hi⟩)
  · simpa [hi] using h
set_option maxRecDepth 65536 in
theorem w_c0 : (Jvm.Cond.code x code maxLocals ret).before args0 about1 = true := code_word (m := ⟨1, 1⟩) (meth := k1m1) (c := k1c1) (by decide +kernel) rfl rfl rfl (by decide +kernel)
set_option maxRecDepth 65536 in
theorem w_c1 : (Jvm.Cond.code ({ cls := "com/example/lightpath_planner/lightpathplanner/ModulationFormat", name := "<init>", desc := "(Ljava/lang/String;DD)V" } : Jvm.MethodName) prog_10_method_1_code (6 : Nat) (Option.none : Option Jvm.ClassFile.FieldType)).before args0 about1 = true := code_word (m := ⟨2, 0⟩) (meth := k2m0) (c := k2c0) (by decide +kernel) rfl rfl rfl (by decide +kernel)
set_option maxRecDepth 65536 in
theorem w_c2 : (Jvm.Cond.code ({ cls := "java/lang/Object", name := "<init>", desc := "()V" } : Jvm.MethodName) object_method_1_code (1 : Nat) (Option.none : Option Jvm.ClassFile.FieldType)).before args0 about1 = true := code_word (m := ⟨0, 0⟩) (meth := k0m0) (c := k0c0) (by decide +kernel) rfl rfl rfl (by decide +kernel)
set_option maxRecDepth 65536 in
theorem w_c3 : (Jvm.Cond.code ({ cls := "java/util/Objects", name := "requireNonNull", desc := "(Ljava/lang/Object;Ljava/lang/String;)Ljava/lang/Object;" } : Jvm.MethodName) jdk_31_method_11_code (2 : Nat) (Option.some (Jvm.ClassFile.FieldType.object "java/lang/Object"))).before args0 about1 = true := code_word (m := ⟨9, 1⟩) (meth := k9m1) (c := k9c1) (by decide +kernel) rfl rfl rfl (by decide +kernel)
set_option maxRecDepth 65536 in
theorem w_c4 : (Jvm.Cond.code ({ cls := "java/lang/String", name := "isBlank", desc := "()Z" } : Jvm.MethodName) jdk_42_method_117_code (1 : Nat) (Option.some Jvm.ClassFile.FieldType.boolean)).before args0 about1 = true := code_word (m := ⟨8, 3⟩) (meth := k8m3) (c := k8c3) (by decide +kernel) rfl rfl rfl (by decide +kernel)
set_option maxRecDepth 65536 in
theorem w_c5 : (Jvm.Cond.code ({ cls := "java/lang/String", name := "indexOfNonWhitespace", desc := "()I" } : Jvm.MethodName) jdk_42_method_120_code (1 : Nat) (Option.some Jvm.ClassFile.FieldType.int)).before args0 about1 = true := code_word (m := ⟨8, 4⟩) (meth := k8m4) (c := k8c4) (by decide +kernel) rfl rfl rfl (by decide +kernel)
set_option maxRecDepth 65536 in
theorem w_c6 : (Jvm.Cond.code ({ cls := "java/lang/String", name := "isLatin1", desc := "()Z" } : Jvm.MethodName) jdk_42_method_154_code (1 : Nat) (Option.some Jvm.ClassFile.FieldType.boolean)).before args0 about1 = true := code_word (m := ⟨8, 8⟩) (meth := k8m8) (c := k8c8) (by decide +kernel) rfl rfl rfl (by decide +kernel)
set_option maxRecDepth 65536 in
theorem w_c7 : (Jvm.Cond.code ({ cls := "java/lang/StringLatin1", name := "indexOfNonWhitespace", desc := "([B)I" } : Jvm.MethodName) jdk_43_method_37_code (4 : Nat) (Option.some Jvm.ClassFile.FieldType.int)).before args0 about1 = true := code_word (m := ⟨10, 1⟩) (meth := k10m1) (c := k10c1) (by decide +kernel) rfl rfl rfl (by decide +kernel)
set_option maxRecDepth 65536 in
theorem w_c8 : (Jvm.Cond.code ({ cls := "java/lang/StringLatin1", name := "getChar", desc := "([BI)C" } : Jvm.MethodName) jdk_43_method_44_code (2 : Nat) (Option.some Jvm.ClassFile.FieldType.char)).before args0 about1 = true := code_word (m := ⟨10, 2⟩) (meth := k10m2) (c := k10c2) (by decide +kernel) rfl rfl rfl (by decide +kernel)
set_option maxRecDepth 65536 in
theorem w_c9 : (Jvm.Cond.code ({ cls := "java/lang/CharacterDataLatin1", name := "isWhitespace", desc := "(I)Z" } : Jvm.MethodName) jdk_116_method_26_code (3 : Nat) (Option.some Jvm.ClassFile.FieldType.boolean)).before args0 about1 = true := code_word (m := ⟨12, 1⟩) (meth := k12m1) (c := k12c1) (by decide +kernel) rfl rfl rfl (by decide +kernel)
set_option maxRecDepth 65536 in
theorem w_c10 : (Jvm.Cond.code ({ cls := "java/lang/CharacterDataLatin1", name := "getProperties", desc := "(I)I" } : Jvm.MethodName) jdk_116_method_1_code (4 : Nat) (Option.some Jvm.ClassFile.FieldType.int)).before args0 about1 = true := code_word (m := ⟨12, 0⟩) (meth := k12m0) (c := k12c0) (by decide +kernel) rfl rfl rfl (by decide +kernel)
set_option maxRecDepth 65536 in
theorem w_c11 : (Jvm.Cond.code ({ cls := "java/lang/String", name := "length", desc := "()I" } : Jvm.MethodName) jdk_42_method_54_code (1 : Nat) (Option.some Jvm.ClassFile.FieldType.int)).before args0 about1 = true := code_word (m := ⟨8, 2⟩) (meth := k8m2) (c := k8c2) (by decide +kernel) rfl rfl rfl (by decide +kernel)
set_option maxRecDepth 65536 in
theorem w_c12 : (Jvm.Cond.code ({ cls := "java/lang/String", name := "coder", desc := "()B" } : Jvm.MethodName) jdk_42_method_152_code (1 : Nat) (Option.some Jvm.ClassFile.FieldType.byte)).before args0 about1 = true := code_word (m := ⟨8, 7⟩) (meth := k8m7) (c := k8c7) (by decide +kernel) rfl rfl rfl (by decide +kernel)
set_option maxRecDepth 65536 in
theorem w_c13 : (Jvm.Cond.code ({ cls := "java/lang/StringBuilder", name := "<init>", desc := "()V" } : Jvm.MethodName) jdk_67_method_1_code (1 : Nat) (Option.none : Option Jvm.ClassFile.FieldType)).before args0 about1 = true := code_word (m := ⟨15, 0⟩) (meth := k15m0) (c := k15c0) (by decide +kernel) rfl rfl rfl (by decide +kernel)
set_option maxRecDepth 65536 in
theorem w_c14 : (Jvm.Cond.code ({ cls := "java/lang/AbstractStringBuilder", name := "<init>", desc := "(I)V" } : Jvm.MethodName) jdk_68_method_2_code (2 : Nat) (Option.none : Option Jvm.ClassFile.FieldType)).before args0 about1 = true := code_word (m := ⟨14, 1⟩) (meth := k14m1) (c := k14c1) (by decide +kernel) rfl rfl rfl (by decide +kernel)
set_option maxRecDepth 65536 in
theorem w_c15 : (Jvm.Cond.code ({ cls := "java/lang/StringBuilder", name := "append", desc := "(Ljava/lang/String;)Ljava/lang/StringBuilder;" } : Jvm.MethodName) jdk_67_method_7_code (2 : Nat) (Option.some (Jvm.ClassFile.FieldType.object "java/lang/StringBuilder"))).before args0 about1 = true := code_word (m := ⟨15, 1⟩) (meth := k15m1) (c := k15c1) (by decide +kernel) rfl rfl rfl (by decide +kernel)
set_option maxRecDepth 65536 in
theorem w_c16 : (Jvm.Cond.code ({ cls := "java/lang/AbstractStringBuilder", name := "append", desc := "(Ljava/lang/String;)Ljava/lang/AbstractStringBuilder;" } : Jvm.MethodName) jdk_68_method_22_code (3 : Nat) (Option.some (Jvm.ClassFile.FieldType.object "java/lang/AbstractStringBuilder"))).before args0 about1 = true := code_word (m := ⟨14, 5⟩) (meth := k14m5) (c := k14c5) (by decide +kernel) rfl rfl rfl (by decide +kernel)
set_option maxRecDepth 65536 in
theorem w_c17 : (Jvm.Cond.code ({ cls := "java/lang/AbstractStringBuilder", name := "ensureCapacityInternal", desc := "(I)V" } : Jvm.MethodName) jdk_68_method_9_code (3 : Nat) (Option.none : Option Jvm.ClassFile.FieldType)).before args0 about1 = true := code_word (m := ⟨14, 3⟩) (meth := k14m3) (c := k14c3) (by decide +kernel) rfl rfl rfl (by decide +kernel)
set_option maxRecDepth 65536 in
theorem w_c18 : (Jvm.Cond.code ({ cls := "java/lang/AbstractStringBuilder", name := "newCapacity", desc := "(I)I" } : Jvm.MethodName) jdk_68_method_10_code (6 : Nat) (Option.some Jvm.ClassFile.FieldType.int)).before args0 about1 = true := code_word (m := ⟨14, 4⟩) (meth := k14m4) (c := k14c4) (by decide +kernel) rfl rfl rfl (by decide +kernel)
set_option maxRecDepth 65536 in
theorem w_c19 : (Jvm.Cond.code ({ cls := "jdk/internal/util/ArraysSupport", name := "newLength", desc := "(III)I" } : Jvm.MethodName) jdk_48_method_27_code (4 : Nat) (Option.some Jvm.ClassFile.FieldType.int)).before args0 about1 = true := code_word (m := ⟨16, 1⟩) (meth := k16m1) (c := k16c1) (by decide +kernel) rfl rfl rfl (by decide +kernel)
set_option maxRecDepth 65536 in
theorem w_c20 : (Jvm.Cond.code ({ cls := "java/lang/Math", name := "max", desc := "(II)I" } : Jvm.MethodName) jdk_29_method_65_code (2 : Nat) (Option.some Jvm.ClassFile.FieldType.int)).before args0 about1 = true := code_word (m := ⟨17, 2⟩) (meth := k17m2) (c := k17c2) (by decide +kernel) rfl rfl rfl (by decide +kernel)
set_option maxRecDepth 65536 in
theorem w_c21 : (Jvm.Cond.code ({ cls := "java/util/Arrays", name := "copyOf", desc := "([BI)[B" } : Jvm.MethodName) jdk_65_method_121_code (3 : Nat) (Option.some (Jvm.ClassFile.FieldType.array Jvm.ClassFile.FieldType.byte))).before args0 about1 = true := code_word (m := ⟨18, 1⟩) (meth := k18m1) (c := k18c1) (by decide +kernel) rfl rfl rfl (by decide +kernel)
set_option maxRecDepth 65536 in
theorem w_c22 : (Jvm.Cond.code ({ cls := "java/lang/Math", name := "min", desc := "(II)I" } : Jvm.MethodName) jdk_29_method_69_code (2 : Nat) (Option.some Jvm.ClassFile.FieldType.int)).before args0 about1 = true := code_word (m := ⟨17, 3⟩) (meth := k17m3) (c := k17c3) (by decide +kernel) rfl rfl rfl (by decide +kernel)
set_option maxRecDepth 65536 in
theorem w_c23 : (Jvm.Cond.code ({ cls := "java/lang/AbstractStringBuilder", name := "putStringAt", desc := "(ILjava/lang/String;)V" } : Jvm.MethodName) jdk_68_method_73_code (3 : Nat) (Option.none : Option Jvm.ClassFile.FieldType)).before args0 about1 = true := code_word (m := ⟨14, 9⟩) (meth := k14m9) (c := k14c9) (by decide +kernel) rfl rfl rfl (by decide +kernel)
set_option maxRecDepth 65536 in
theorem w_c24 : (Jvm.Cond.code ({ cls := "java/lang/AbstractStringBuilder", name := "inflateIfNeededFor", desc := "(Ljava/lang/String;)V" } : Jvm.MethodName) jdk_68_method_71_code (2 : Nat) (Option.none : Option Jvm.ClassFile.FieldType)).before args0 about1 = true := code_word (m := ⟨14, 8⟩) (meth := k14m8) (c := k14c8) (by decide +kernel) rfl rfl rfl (by decide +kernel)
set_option maxRecDepth 65536 in
theorem w_c25 : (Jvm.Cond.code ({ cls := "java/lang/String", name := "getBytes", desc := "([BIB)V" } : Jvm.MethodName) jdk_42_method_147_code (4 : Nat) (Option.none : Option Jvm.ClassFile.FieldType)).before args0 about1 = true := code_word (m := ⟨8, 5⟩) (meth := k8m5) (c := k8c5) (by decide +kernel) rfl rfl rfl (by decide +kernel)
set_option maxRecDepth 65536 in
theorem w_c26 : (Jvm.Cond.code ({ cls := "java/lang/StringBuilder", name := "toString", desc := "()Ljava/lang/String;" } : Jvm.MethodName) jdk_67_method_42_code (1 : Nat) (Option.some (Jvm.ClassFile.FieldType.object "java/lang/String"))).before args0 about1 = true := code_word (m := ⟨15, 2⟩) (meth := k15m2) (c := k15c2) (by decide +kernel) rfl rfl rfl (by decide +kernel)
set_option maxRecDepth 65536 in
theorem w_c27 : (Jvm.Cond.code ({ cls := "java/lang/String", name := "<init>", desc := "(Ljava/lang/StringBuilder;)V" } : Jvm.MethodName) jdk_42_method_53_code (2 : Nat) (Option.none : Option Jvm.ClassFile.FieldType)).before args0 about1 = true := code_word (m := ⟨8, 1⟩) (meth := k8m1) (c := k8c1) (by decide +kernel) rfl rfl rfl (by decide +kernel)
set_option maxRecDepth 65536 in
theorem w_c28 : (Jvm.Cond.code ({ cls := "java/lang/String", name := "<init>", desc := "(Ljava/lang/AbstractStringBuilder;Ljava/lang/Void;)V" } : Jvm.MethodName) jdk_42_method_150_code (5 : Nat) (Option.none : Option Jvm.ClassFile.FieldType)).before args0 about1 = true := code_word (m := ⟨8, 6⟩) (meth := k8m6) (c := k8c6) (by decide +kernel) rfl rfl rfl (by decide +kernel)
set_option maxRecDepth 65536 in
theorem w_c29 : (Jvm.Cond.code ({ cls := "java/lang/AbstractStringBuilder", name := "getValue", desc := "()[B" } : Jvm.MethodName) jdk_68_method_64_code (1 : Nat) (Option.some (Jvm.ClassFile.FieldType.array Jvm.ClassFile.FieldType.byte))).before args0 about1 = true := code_word (m := ⟨14, 6⟩) (meth := k14m6) (c := k14c6) (by decide +kernel) rfl rfl rfl (by decide +kernel)
set_option maxRecDepth 65536 in
theorem w_c30 : (Jvm.Cond.code ({ cls := "java/lang/StringBuilder", name := "length", desc := "()I" } : Jvm.MethodName) jdk_67_method_93_code (1 : Nat) (Option.some Jvm.ClassFile.FieldType.int)).before args0 about1 = true := code_word (m := ⟨15, 3⟩) (meth := k15m3) (c := k15c3) (by decide +kernel) rfl rfl rfl (by decide +kernel)
set_option maxRecDepth 65536 in
theorem w_c31 : (Jvm.Cond.code ({ cls := "java/lang/AbstractStringBuilder", name := "length", desc := "()I" } : Jvm.MethodName) jdk_68_method_6_code (1 : Nat) (Option.some Jvm.ClassFile.FieldType.int)).before args0 about1 = true := code_word (m := ⟨14, 2⟩) (meth := k14m2) (c := k14c2) (by decide +kernel) rfl rfl rfl (by decide +kernel)
set_option maxRecDepth 65536 in
theorem w_c32 : (Jvm.Cond.code ({ cls := "java/lang/AbstractStringBuilder", name := "isLatin1", desc := "()Z" } : Jvm.MethodName) jdk_68_method_68_code (1 : Nat) (Option.some Jvm.ClassFile.FieldType.boolean)).before args0 about1 = true := code_word (m := ⟨14, 7⟩) (meth := k14m7) (c := k14c7) (by decide +kernel) rfl rfl rfl (by decide +kernel)
set_option maxRecDepth 65536 in
theorem w_c33 : (Jvm.Cond.code ({ cls := "java/util/Arrays", name := "copyOfRange", desc := "([BII)[B" } : Jvm.MethodName) jdk_65_method_132_code (3 : Nat) (Option.some (Jvm.ClassFile.FieldType.array Jvm.ClassFile.FieldType.byte))).before args0 about1 = true := code_word (m := ⟨18, 3⟩) (meth := k18m3) (c := k18c3) (by decide +kernel) rfl rfl rfl (by decide +kernel)
set_option maxRecDepth 65536 in
theorem w_c34 : (Jvm.Cond.code ({ cls := "java/util/Arrays", name := "copyOfRangeByte", desc := "([BII)[B" } : Jvm.MethodName) jdk_65_method_133_code (5 : Nat) (Option.some (Jvm.ClassFile.FieldType.array Jvm.ClassFile.FieldType.byte))).before args0 about1 = true := code_word (m := ⟨18, 4⟩) (meth := k18m4) (c := k18c4) (by decide +kernel) rfl rfl rfl (by decide +kernel)
set_option maxRecDepth 65536 in
theorem w_c35 : (Jvm.Cond.code ({ cls := "java/util/Arrays", name := "checkLength", desc := "(II)V" } : Jvm.MethodName) jdk_65_method_131_code (2 : Nat) (Option.none : Option Jvm.ClassFile.FieldType)).before args0 about1 = true := code_word (m := ⟨18, 2⟩) (meth := k18m2) (c := k18c2) (by decide +kernel) rfl rfl rfl (by decide +kernel)
set_option maxRecDepth 65536 in
theorem w_c36 : (Jvm.Cond.code ({ cls := "com/example/lightpath_planner/lightpathplanner/Require", name := "positive", desc := "(DLjava/lang/String;)D" } : Jvm.MethodName) prog_14_method_2_code (3 : Nat) (Option.some Jvm.ClassFile.FieldType.double)).before args0 about1 = true := code_word (m := ⟨20, 1⟩) (meth := k20m1) (c := k20c1) (by decide +kernel) rfl rfl rfl (by decide +kernel)
set_option maxRecDepth 65536 in
theorem w_c37 : (Jvm.Cond.code ({ cls := "java/lang/Double", name := "isFinite", desc := "(D)Z" } : Jvm.MethodName) jdk_117_method_8_code (2 : Nat) (Option.some Jvm.ClassFile.FieldType.boolean)).before args0 about1 = true := code_word (m := ⟨22, 0⟩) (meth := k22m0) (c := k22c0) (by decide +kernel) rfl rfl rfl (by decide +kernel)
set_option maxRecDepth 65536 in
theorem w_c38 : (Jvm.Cond.code ({ cls := "java/lang/Math", name := "abs", desc := "(D)D" } : Jvm.MethodName) jdk_29_method_64_code (2 : Nat) (Option.some Jvm.ClassFile.FieldType.double)).before args0 about1 = true := code_word (m := ⟨17, 1⟩) (meth := k17m1) (c := k17c1) (by decide +kernel) rfl rfl rfl (by decide +kernel)
set_option maxRecDepth 65536 in
theorem w_c39 : (Jvm.Cond.code ({ cls := "com/example/lightpath_planner/lightpathplanner/ModulationFormat", name := "reaches", desc := "(D)Z" } : Jvm.MethodName) prog_10_method_5_code (3 : Nat) (Option.some Jvm.ClassFile.FieldType.boolean)).before args0 about1 = true := code_word (m := ⟨2, 1⟩) (meth := k2m1) (c := k2c1) (by decide +kernel) rfl rfl rfl (by decide +kernel)
def codes1 : List Jvm.Cond := [Jvm.Cond.code x code maxLocals ret, Jvm.Cond.code ({ cls := "com/example/lightpath_planner/lightpathplanner/ModulationFormat", name := "<init>", desc := "(Ljava/lang/String;DD)V" } : Jvm.MethodName) prog_10_method_1_code (6 : Nat) (Option.none : Option Jvm.ClassFile.FieldType), Jvm.Cond.code ({ cls := "java/lang/Object", name := "<init>", desc := "()V" } : Jvm.MethodName) object_method_1_code (1 : Nat) (Option.none : Option Jvm.ClassFile.FieldType), Jvm.Cond.code ({ cls := "java/util/Objects", name := "requireNonNull", desc := "(Ljava/lang/Object;Ljava/lang/String;)Ljava/lang/Object;" } : Jvm.MethodName) jdk_31_method_11_code (2 : Nat) (Option.some (Jvm.ClassFile.FieldType.object "java/lang/Object")), Jvm.Cond.code ({ cls := "java/lang/String", name := "isBlank", desc := "()Z" } : Jvm.MethodName) jdk_42_method_117_code (1 : Nat) (Option.some Jvm.ClassFile.FieldType.boolean), Jvm.Cond.code ({ cls := "java/lang/String", name := "indexOfNonWhitespace", desc := "()I" } : Jvm.MethodName) jdk_42_method_120_code (1 : Nat) (Option.some Jvm.ClassFile.FieldType.int), Jvm.Cond.code ({ cls := "java/lang/String", name := "isLatin1", desc := "()Z" } : Jvm.MethodName) jdk_42_method_154_code (1 : Nat) (Option.some Jvm.ClassFile.FieldType.boolean), Jvm.Cond.code ({ cls := "java/lang/StringLatin1", name := "indexOfNonWhitespace", desc := "([B)I" } : Jvm.MethodName) jdk_43_method_37_code (4 : Nat) (Option.some Jvm.ClassFile.FieldType.int), Jvm.Cond.code ({ cls := "java/lang/StringLatin1", name := "getChar", desc := "([BI)C" } : Jvm.MethodName) jdk_43_method_44_code (2 : Nat) (Option.some Jvm.ClassFile.FieldType.char), Jvm.Cond.code ({ cls := "java/lang/CharacterDataLatin1", name := "isWhitespace", desc := "(I)Z" } : Jvm.MethodName) jdk_116_method_26_code (3 : Nat) (Option.some Jvm.ClassFile.FieldType.boolean), Jvm.Cond.code ({ cls := "java/lang/CharacterDataLatin1", name := "getProperties", desc := "(I)I" } : Jvm.MethodName) jdk_116_method_1_code (4 : Nat) (Option.some Jvm.ClassFile.FieldType.int), Jvm.Cond.code ({ cls := "java/lang/String", name := "length", desc := "()I" } : Jvm.MethodName) jdk_42_method_54_code (1 : Nat) (Option.some Jvm.ClassFile.FieldType.int), Jvm.Cond.code ({ cls := "java/lang/String", name := "coder", desc := "()B" } : Jvm.MethodName) jdk_42_method_152_code (1 : Nat) (Option.some Jvm.ClassFile.FieldType.byte), Jvm.Cond.code ({ cls := "java/lang/StringBuilder", name := "<init>", desc := "()V" } : Jvm.MethodName) jdk_67_method_1_code (1 : Nat) (Option.none : Option Jvm.ClassFile.FieldType), Jvm.Cond.code ({ cls := "java/lang/AbstractStringBuilder", name := "<init>", desc := "(I)V" } : Jvm.MethodName) jdk_68_method_2_code (2 : Nat) (Option.none : Option Jvm.ClassFile.FieldType), Jvm.Cond.code ({ cls := "java/lang/StringBuilder", name := "append", desc := "(Ljava/lang/String;)Ljava/lang/StringBuilder;" } : Jvm.MethodName) jdk_67_method_7_code (2 : Nat) (Option.some (Jvm.ClassFile.FieldType.object "java/lang/StringBuilder")), Jvm.Cond.code ({ cls := "java/lang/AbstractStringBuilder", name := "append", desc := "(Ljava/lang/String;)Ljava/lang/AbstractStringBuilder;" } : Jvm.MethodName) jdk_68_method_22_code (3 : Nat) (Option.some (Jvm.ClassFile.FieldType.object "java/lang/AbstractStringBuilder")), Jvm.Cond.code ({ cls := "java/lang/AbstractStringBuilder", name := "ensureCapacityInternal", desc := "(I)V" } : Jvm.MethodName) jdk_68_method_9_code (3 : Nat) (Option.none : Option Jvm.ClassFile.FieldType), Jvm.Cond.code ({ cls := "java/lang/AbstractStringBuilder", name := "newCapacity", desc := "(I)I" } : Jvm.MethodName) jdk_68_method_10_code (6 : Nat) (Option.some Jvm.ClassFile.FieldType.int), Jvm.Cond.code ({ cls := "jdk/internal/util/ArraysSupport", name := "newLength", desc := "(III)I" } : Jvm.MethodName) jdk_48_method_27_code (4 : Nat) (Option.some Jvm.ClassFile.FieldType.int), Jvm.Cond.code ({ cls := "java/lang/Math", name := "max", desc := "(II)I" } : Jvm.MethodName) jdk_29_method_65_code (2 : Nat) (Option.some Jvm.ClassFile.FieldType.int), Jvm.Cond.code ({ cls := "java/util/Arrays", name := "copyOf", desc := "([BI)[B" } : Jvm.MethodName) jdk_65_method_121_code (3 : Nat) (Option.some (Jvm.ClassFile.FieldType.array Jvm.ClassFile.FieldType.byte)), Jvm.Cond.code ({ cls := "java/lang/Math", name := "min", desc := "(II)I" } : Jvm.MethodName) jdk_29_method_69_code (2 : Nat) (Option.some Jvm.ClassFile.FieldType.int), Jvm.Cond.code ({ cls := "java/lang/AbstractStringBuilder", name := "putStringAt", desc := "(ILjava/lang/String;)V" } : Jvm.MethodName) jdk_68_method_73_code (3 : Nat) (Option.none : Option Jvm.ClassFile.FieldType), Jvm.Cond.code ({ cls := "java/lang/AbstractStringBuilder", name := "inflateIfNeededFor", desc := "(Ljava/lang/String;)V" } : Jvm.MethodName) jdk_68_method_71_code (2 : Nat) (Option.none : Option Jvm.ClassFile.FieldType), Jvm.Cond.code ({ cls := "java/lang/String", name := "getBytes", desc := "([BIB)V" } : Jvm.MethodName) jdk_42_method_147_code (4 : Nat) (Option.none : Option Jvm.ClassFile.FieldType), Jvm.Cond.code ({ cls := "java/lang/StringBuilder", name := "toString", desc := "()Ljava/lang/String;" } : Jvm.MethodName) jdk_67_method_42_code (1 : Nat) (Option.some (Jvm.ClassFile.FieldType.object "java/lang/String")), Jvm.Cond.code ({ cls := "java/lang/String", name := "<init>", desc := "(Ljava/lang/StringBuilder;)V" } : Jvm.MethodName) jdk_42_method_53_code (2 : Nat) (Option.none : Option Jvm.ClassFile.FieldType), Jvm.Cond.code ({ cls := "java/lang/String", name := "<init>", desc := "(Ljava/lang/AbstractStringBuilder;Ljava/lang/Void;)V" } : Jvm.MethodName) jdk_42_method_150_code (5 : Nat) (Option.none : Option Jvm.ClassFile.FieldType), Jvm.Cond.code ({ cls := "java/lang/AbstractStringBuilder", name := "getValue", desc := "()[B" } : Jvm.MethodName) jdk_68_method_64_code (1 : Nat) (Option.some (Jvm.ClassFile.FieldType.array Jvm.ClassFile.FieldType.byte)), Jvm.Cond.code ({ cls := "java/lang/StringBuilder", name := "length", desc := "()I" } : Jvm.MethodName) jdk_67_method_93_code (1 : Nat) (Option.some Jvm.ClassFile.FieldType.int), Jvm.Cond.code ({ cls := "java/lang/AbstractStringBuilder", name := "length", desc := "()I" } : Jvm.MethodName) jdk_68_method_6_code (1 : Nat) (Option.some Jvm.ClassFile.FieldType.int), Jvm.Cond.code ({ cls := "java/lang/AbstractStringBuilder", name := "isLatin1", desc := "()Z" } : Jvm.MethodName) jdk_68_method_68_code (1 : Nat) (Option.some Jvm.ClassFile.FieldType.boolean), Jvm.Cond.code ({ cls := "java/util/Arrays", name := "copyOfRange", desc := "([BII)[B" } : Jvm.MethodName) jdk_65_method_132_code (3 : Nat) (Option.some (Jvm.ClassFile.FieldType.array Jvm.ClassFile.FieldType.byte)), Jvm.Cond.code ({ cls := "java/util/Arrays", name := "copyOfRangeByte", desc := "([BII)[B" } : Jvm.MethodName) jdk_65_method_133_code (5 : Nat) (Option.some (Jvm.ClassFile.FieldType.array Jvm.ClassFile.FieldType.byte)), Jvm.Cond.code ({ cls := "java/util/Arrays", name := "checkLength", desc := "(II)V" } : Jvm.MethodName) jdk_65_method_131_code (2 : Nat) (Option.none : Option Jvm.ClassFile.FieldType), Jvm.Cond.code ({ cls := "com/example/lightpath_planner/lightpathplanner/Require", name := "positive", desc := "(DLjava/lang/String;)D" } : Jvm.MethodName) prog_14_method_2_code (3 : Nat) (Option.some Jvm.ClassFile.FieldType.double), Jvm.Cond.code ({ cls := "java/lang/Double", name := "isFinite", desc := "(D)Z" } : Jvm.MethodName) jdk_117_method_8_code (2 : Nat) (Option.some Jvm.ClassFile.FieldType.boolean), Jvm.Cond.code ({ cls := "java/lang/Math", name := "abs", desc := "(D)D" } : Jvm.MethodName) jdk_29_method_64_code (2 : Nat) (Option.some Jvm.ClassFile.FieldType.double), Jvm.Cond.code ({ cls := "com/example/lightpath_planner/lightpathplanner/ModulationFormat", name := "reaches", desc := "(D)Z" } : Jvm.MethodName) prog_10_method_5_code (3 : Nat) (Option.some Jvm.ClassFile.FieldType.boolean)]
set_option maxRecDepth 65536 in
theorem codes_eq : words1.filter isCode = codes1 := rfl
theorem w_codes : ∀ c ∈ words1.filter isCode, c.before args0 about1 = true := by
  rw [codes_eq]
  intro c hc
  simp only [codes1, List.mem_cons, List.not_mem_nil, or_false] at hc
  rcases hc with rfl | rfl | rfl | rfl | rfl | rfl | rfl | rfl | rfl | rfl | rfl | rfl | rfl | rfl | rfl | rfl | rfl | rfl | rfl | rfl | rfl | rfl | rfl | rfl | rfl | rfl | rfl | rfl | rfl | rfl | rfl | rfl | rfl | rfl | rfl | rfl | rfl | rfl | rfl | rfl
  · exact w_c0
  · exact w_c1
  · exact w_c2
  · exact w_c3
  · exact w_c4
  · exact w_c5
  · exact w_c6
  · exact w_c7
  · exact w_c8
  · exact w_c9
  · exact w_c10
  · exact w_c11
  · exact w_c12
  · exact w_c13
  · exact w_c14
  · exact w_c15
  · exact w_c16
  · exact w_c17
  · exact w_c18
  · exact w_c19
  · exact w_c20
  · exact w_c21
  · exact w_c22
  · exact w_c23
  · exact w_c24
  · exact w_c25
  · exact w_c26
  · exact w_c27
  · exact w_c28
  · exact w_c29
  · exact w_c30
  · exact w_c31
  · exact w_c32
  · exact w_c33
  · exact w_c34
  · exact w_c35
  · exact w_c36
  · exact w_c37
  · exact w_c38
  · exact w_c39
set_option maxRecDepth 65536 in
theorem w_t1 : (words1.take 24).all (fun c => isCode c || c.before args0 about1) = true := by decide +kernel
set_option maxRecDepth 65536 in
theorem w_t2 : ((words1.drop 24).take 24).all (fun c => isCode c || c.before args0 about1) = true := by decide +kernel
set_option maxRecDepth 65536 in
theorem w_t3 : (((words1.drop 24).drop 24).take 24).all (fun c => isCode c || c.before args0 about1) = true := by decide +kernel
set_option maxRecDepth 65536 in
theorem w_t4 : ((((words1.drop 24).drop 24).drop 24).take 24).all (fun c => isCode c || c.before args0 about1) = true := by decide +kernel
set_option maxRecDepth 65536 in
theorem w_t5 : (((((words1.drop 24).drop 24).drop 24).drop 24).take 24).all (fun c => isCode c || c.before args0 about1) = true := by decide +kernel
set_option maxRecDepth 65536 in
theorem w_t6 : ((((((words1.drop 24).drop 24).drop 24).drop 24).drop 24).take 24).all (fun c => isCode c || c.before args0 about1) = true := by decide +kernel
set_option maxRecDepth 65536 in
theorem w_t7 : (((((((words1.drop 24).drop 24).drop 24).drop 24).drop 24).drop 24).take 24).all (fun c => isCode c || c.before args0 about1) = true := by decide +kernel
set_option maxRecDepth 65536 in
theorem w_t8 : ((((((((words1.drop 24).drop 24).drop 24).drop 24).drop 24).drop 24).drop 24).take 24).all (fun c => isCode c || c.before args0 about1) = true := by decide +kernel
set_option maxRecDepth 65536 in
theorem w_t9 : (((((((((words1.drop 24).drop 24).drop 24).drop 24).drop 24).drop 24).drop 24).drop 24).take 24).all (fun c => isCode c || c.before args0 about1) = true := by decide +kernel
set_option maxRecDepth 65536 in
theorem w_t10 : (((((((((words1.drop 24).drop 24).drop 24).drop 24).drop 24).drop 24).drop 24).drop 24).drop 24).all (fun c => isCode c || c.before args0 about1) = true := by decide +kernel
theorem w_tables : (allAtoms (Jvm.Cond.code x code maxLocals ret :: tables_1)).before args0 about1 = true := by
  rw [allAtoms_all]
  show words1.all (fun c => c.before args0 about1) = true
  refine all_split ?_ w_codes
  rw [← List.take_append_drop 24 words1, List.all_append, w_t1, ← List.take_append_drop 24 (words1.drop 24), List.all_append, w_t2, ← List.take_append_drop 24 ((words1.drop 24).drop 24), List.all_append, w_t3, ← List.take_append_drop 24 (((words1.drop 24).drop 24).drop 24), List.all_append, w_t4, ← List.take_append_drop 24 ((((words1.drop 24).drop 24).drop 24).drop 24), List.all_append, w_t5, ← List.take_append_drop 24 (((((words1.drop 24).drop 24).drop 24).drop 24).drop 24), List.all_append, w_t6, ← List.take_append_drop 24 ((((((words1.drop 24).drop 24).drop 24).drop 24).drop 24).drop 24), List.all_append, w_t7, ← List.take_append_drop 24 (((((((words1.drop 24).drop 24).drop 24).drop 24).drop 24).drop 24).drop 24), List.all_append, w_t8, ← List.take_append_drop 24 ((((((((words1.drop 24).drop 24).drop 24).drop 24).drop 24).drop 24).drop 24).drop 24), List.all_append, w_t9, w_t10]
  rfl
set_option maxRecDepth 65536 in
theorem w_rest : rest_1_c.before args0 about1 = true := by decide +kernel
set_option maxRecDepth 65536 in
theorem w_case : (Jvm.Cond.and given_1 narrow_1).before args0 about1 = true := by decide +kernel
set_option maxRecDepth 65536 in
theorem w_consts : constsHeld consts_1 about1 := Jvm.Lit.constsHeldB_iff.mp (by decide +kernel)
theorem w_applies : (headSpec (Jvm.Cond.code x code maxLocals ret :: tables_1) room_1).applies x e0.platform about1 = true :=
  (Spec.applies_iff w_frames).mpr ⟨w_running, w_runnable, w_alone, w_named, w_hears, w_ripe, w_room, w_tables⟩
theorem atStart : AtStart classFile x code maxLocals ret World_1 tables_1 room_1 Calls_1 rest_1 Pre_1 launch0 p0 e0 about1 theMethod args0 below0 :=
  ⟨lists_1, trivial, launch0.admits_env _ _ _, launch0.least_env, fairChoices_fair.cas, fairChoices_fair.clock, w_frames, w_args, w_heap, w_applies, ⟨w_consts, trivial⟩, w_rest, w_case⟩
end start1
theorem witness_1 : WitnessClaimed_1 := ⟨start1.p0, start1.e0, start1.about1, start1.theMethod, start1.args0, start1.below0, start1.atStart⟩
end Jvm.Pilot.@@N@@
