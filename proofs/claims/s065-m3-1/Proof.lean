import JvmDerived
import JvmDerived.Pilot.@@N@@Statement
import JvmDerived.Pilot.@@N@@Code
set_option linter.unusedVariables false
set_option linter.unusedSimpArgs false
namespace Jvm.Pilot.@@N@@
open Jvm Jvm.ClassFile Sem Op Lib Jvm.Free Jvm.Stand Jvm.LawKit Jvm.RoadKit Bundle Jvm.Pilot.@@N@@.Jvm.D
/-! own laws: the run from a state to the return, in continuation form -/
section OwnG
variable {p : Program} {l : Launch} {e : Env} {R : Room} {s : State} {m : MethodId} {args : Array Value} {below : List Frame} {meth : Method} {c : Code} {T : State} {locs : List Loc} {cells slots : Nat} {Z : State} {a0 : Array Value} {h : Heap} {Q : Option Value → Heap → List Loc → Prop} {ck sk : Nat}
def own_G (p : Program) (e : Env) (below : List Frame) (s : State) (Q : Option Value → Heap → List Loc → Prop) (ck sk : Nat) (U : State) : Prop :=
  ∃ s₂ o, Steps p.tables e below U s₂ ∧ s₂.status = .running ∧ Ended s₂ below o ∧ ∃ v L, o = .returned v ∧ Q v s₂.heap L ∧ FrameEnd s o s₂ L ck sk
theorem own_via {U U' : State} (k : ∀ t, Steps p.tables e below U' t → Steps p.tables e below U t) (g : own_G p e below s Q ck sk U') : own_G p e below s Q ck sk U := by
  obtain ⟨s2, o, h1, r⟩ := g
  exact ⟨s2, o, k _ h1, r⟩
theorem own_vF {U : State} (m : MethodId) (T' : State) (pc : Nat) (L : Array Slot) (S : List Value) (k : ∀ t, Steps p.tables e below (T'.setTop (mkF m pc L S)) t → Steps p.tables e below U t) (g : own_G p e below s Q ck sk (T'.setTop (mkF m pc L S))) : own_G p e below s Q ck sk U := own_via k g
theorem own_mono {Q' : Option Value → Heap → List Loc → Prop} {U : State} (k : ∀ v h L, Q v h L → Q' v h L) (g : own_G p e below s Q ck sk U) : own_G p e below s Q' ck sk U := by
  obtain ⟨s2, o, h1, h2, h3, v, L, h4, h5, h6⟩ := g
  exact ⟨s2, o, h1, h2, h3, v, L, h4, k _ _ _ h5, h6⟩
theorem own_ret (X : Stand p l e R s m args below meth c T locs cells slots) {v : Option Value} (hv : meth.sig.returnType = none → v = none) (hlk : meth.locks = false) {f : JFrame}
    (st : ∀ fs, (∀ (f : JFrame) (acts : List Action), f.method = m → f.locked = none → f.entered = [] → (doReturn e (T.setTop f) acts v).1 = T.setFrames fs) → Steps p.tables e below (T.setTop f) (T.setFrames fs))
    (hQ : Q v T.heap locs) (hc : cells ≤ ck) (hs : slots ≤ sk) : own_G p e below s Q ck sk (T.setTop f) := by
  obtain ⟨fs, hr, hrun, hended, hW, hsame⟩ := X.leave (v := v) hv hlk
  exact ⟨_, _, st fs hr, hrun, hended, _, _, rfl, hQ, ⟨_, rfl⟩, hW, hsame.mono hc hs⟩
theorem own_callS (X : Stand p l e R s m args below meth c T locs cells slots) (hx : p.tables.exec = Jvm.exec) (hZ : Z.Warmed39 s.vm) {own : String} {index : Nat} {y : MethodName} {bytes : ByteArray} {maxL : Nat} {ret : Option FieldType} {rm : Room} {as' : Array Value} {W : Nat}
    (hown : s.vm.findClass own = some m.cls) (w1 : (Jvm.Cond.methodLink own index y).before a0 Z = true) (w2 : (Jvm.Cond.static y).before a0 Z = true) (w3 : (Jvm.Cond.initialized y.cls).before a0 Z = true) (w4 : (Jvm.Cond.code y bytes maxL ret).before a0 Z = true)
    (hy : y.cls ≠ "java/lang/invoke/MethodHandle" ∧ y.cls ≠ "java/lang/invoke/VarHandle")
    (hM : MetFree l y (head1 [Jvm.Cond.code y bytes maxL ret] rm) (fun a U => a = as' ∧ Z.Warmed39 U.vm ∧ U.heap = h) (fun _ _ _ _ _ => True) (fun _ U o U' => ∃ v L, o = .returned v ∧ Q v U'.heap L ∧ FrameEnd U o U' L rm.cells rm.slots))
    (hf : rm.frames + 1 ≤ R.frames) (hl : W + (maxL + 11) + rm.locals ≤ R.locals) (eT : T.heap = h)
    {g : JFrame} (hg : g.method = m) (hsize : g.locals.size = c.maxLocals) {argsL rest : List Value} (has : argsL.toArray = as') (hlen : ∀ sig, parseMethodDescriptor y.desc = some sig → argsL.length = sig.parameters.length)
    (hstack : g.stack = argsL.reverse ++ rest) (hW : 2 * g.monitorRoom + (rest.map fun v => v.category).sum ≤ W) (hdg : decode c.code g.pc = .ok (.invokestatic index, 3))
    (hcells : cells + rm.cells ≤ R.cells) (hslots : slots + rm.slots ≤ R.slots) :
    ∃ v T' L', Stand p l e R s m args below meth c T' (locs ++ L') (cells + rm.cells) (slots + rm.slots) ∧ Q v T'.heap L' ∧ ∀ t, Steps p.tables e below (T'.setTop { g with pc := g.pc + 3, stack := v.toList ++ rest }) t → Steps p.tables e below (T.setTop g) t := by
  obtain ⟨v, vm1, ⟨T', L', k', n'⟩, -, X', ⟨Lc, hQ, q1, q2, q3⟩, st⟩ := Jvm.LawKit.callS X hx hown (mvT hZ w1) (mvT hZ w2) (mvT hZ w3) (mvT hZ w4) hy (backOf (W := W) hM hZ w4 w3 hf hl) hg hsize hlen hstack hW hdg (fun _ _ => ⟨has, eT, hcells, hslots⟩)
  dsimp only [Pt.U, Pt.locs, Pt.cells, Pt.slots] at X' q1 q2 q3 st hQ
  subst q1 q2 q3
  exact ⟨v, T', Lc, X', hQ, st⟩
theorem own_callI (X : Stand p l e R s m args below meth c T locs cells slots) (hx : p.tables.exec = Jvm.exec) (hZ : Z.Warmed39 s.vm) {own : String} {index : Nat} {y : MethodName} (hy1 : y.name = "<init>") {bytes : ByteArray} {maxL : Nat} {rm : Room} {as' : Array Value} {W : Nat}
    (hown : s.vm.findClass own = some m.cls) (w1 : (Jvm.Cond.methodLink own index y).before a0 Z = true) (w2 : (Jvm.Cond.instanceMethod y).before a0 Z = true) (w3 : (Jvm.Cond.initialized y.cls).before a0 Z = true) (w4 : (Jvm.Cond.code y bytes maxL none).before a0 Z = true)
    (hy : y.cls ≠ "java/lang/invoke/MethodHandle" ∧ y.cls ≠ "java/lang/invoke/VarHandle")
    (hM : MetFree l y (head1 [Jvm.Cond.code y bytes maxL none] rm) (fun a U => a = as' ∧ Z.Warmed39 U.vm ∧ U.heap = h) (fun _ _ _ _ _ => True) (fun _ U o U' => ∃ v L, o = .returned v ∧ Q v U'.heap L ∧ FrameEnd U o U' L rm.cells rm.slots))
    (hf : rm.frames + 1 ≤ R.frames) (hl : W + (maxL + 11) + rm.locals ≤ R.locals) (eT : T.heap = h)
    {g : JFrame} (hg : g.method = m) (hsize : g.locals.size = c.maxLocals) {a : Addr} {argsL rest : List Value} (has : (.ref a :: argsL).toArray = as') (hlen : ∀ sig, parseMethodDescriptor y.desc = some sig → argsL.length = sig.parameters.length)
    (hstack : g.stack = argsL.reverse ++ .ref a :: rest) (hW : 2 * g.monitorRoom + (rest.map fun v => v.category).sum ≤ W) (hdg : decode c.code g.pc = .ok (.invokespecial index, 3))
    (hcells : cells + rm.cells ≤ R.cells) (hslots : slots + rm.slots ≤ R.slots) :
    ∃ v T' L', Stand p l e R s m args below meth c T' (locs ++ L') (cells + rm.cells) (slots + rm.slots) ∧ Q v T'.heap L' ∧ ∀ t, Steps p.tables e below (T'.setTop { g with pc := g.pc + 3, stack := v.toList ++ rest }) t → Steps p.tables e below (T.setTop g) t := by
  obtain ⟨v, vm1, ⟨T', L', k', n'⟩, -, X', ⟨Lc, hQ, q1, q2, q3⟩, st⟩ := X.specialBack hx hy1 hown (mvT hZ w1) (mvT hZ w2) (mvT hZ w4) hy (backOf (W := W) hM hZ w4 w3 hf hl) hg hsize (Steps.refl _) hlen hstack hW hdg (fun _ _ => ⟨has, eT, hcells, hslots⟩)
  dsimp only [Pt.U, Pt.locs, Pt.cells, Pt.slots] at X' q1 q2 q3 st hQ
  subst q1 q2 q3
  exact ⟨v, T', Lc, X', hQ, fun t k => st.trans k⟩
theorem own_callV (X : Stand p l e R s m args below meth c T locs cells slots) (hx : p.tables.exec = Jvm.exec) (hZ : Z.Warmed39 s.vm) {own : String} {index : Nat} {y : MethodName} {bytes : ByteArray} {maxL : Nat} {ret : Option FieldType} {rm : Room} {as' : Array Value} {W : Nat} {C : String}
    (hown : s.vm.findClass own = some m.cls) (w1 : (Jvm.Cond.methodLink own index y).before a0 Z = true) (w2 : (Jvm.Cond.declares y).before a0 Z = true) (w5 : (Jvm.Cond.selects C y y).before a0 Z = true) (w6 : (Jvm.Cond.instanceMethod y).before a0 Z = true) (w3 : (Jvm.Cond.initialized y.cls).before a0 Z = true) (w4 : (Jvm.Cond.code y bytes maxL ret).before a0 Z = true)
    (hy : y.cls ≠ "java/lang/invoke/MethodHandle" ∧ y.cls ≠ "java/lang/invoke/VarHandle")
    (hM : MetFree l y (head1 [Jvm.Cond.code y bytes maxL ret] rm) (fun a U => a = as' ∧ Z.Warmed39 U.vm ∧ U.heap = h) (fun _ _ _ _ _ => True) (fun _ U o U' => ∃ v L, o = .returned v ∧ Q v U'.heap L ∧ FrameEnd U o U' L rm.cells rm.slots))
    (hf : rm.frames + 1 ≤ R.frames) (hl : W + (maxL + 11) + rm.locals ≤ R.locals) (eT : T.heap = h) {b : Addr} (E : Exa Z h b C)
    {g : JFrame} (hg : g.method = m) (hsize : g.locals.size = c.maxLocals) {argsL rest : List Value} (has : (.ref b :: argsL).toArray = as') (hlen : ∀ sig, parseMethodDescriptor y.desc = some sig → argsL.length = sig.parameters.length)
    (hstack : g.stack = argsL.reverse ++ .ref b :: rest) (hW : 2 * g.monitorRoom + (rest.map fun v => v.category).sum ≤ W) (hdg : decode c.code g.pc = .ok (.invokevirtual index, 3))
    (hcells : cells + rm.cells ≤ R.cells) (hslots : slots + rm.slots ≤ R.slots) :
    ∃ v T' L', Stand p l e R s m args below meth c T' (locs ++ L') (cells + rm.cells) (slots + rm.slots) ∧ Q v T'.heap L' ∧ ∀ t, Steps p.tables e below (T'.setTop { g with pc := g.pc + 3, stack := v.toList ++ rest }) t → Steps p.tables e below (T.setTop g) t := by
  obtain ⟨cq, kq, qa, qb, qc⟩ := isOf hZ eT E
  obtain ⟨v, vm1, ⟨T', L', k', n'⟩, -, X', ⟨Lc, hQ, q1, q2, q3⟩, st⟩ := X.virtualBack hx hown (mvT hZ w1) (mvT hZ w2) (notFace_of_selects (args := #[]) (mvT hZ w5)) (mvT hZ w5) (mvT hZ w6) hy (backOf (W := W) hM hZ w4 w3 hf hl) qa qc hg hsize (Steps.refl _) hlen hstack hW hdg (fun _ _ => ⟨has, eT, hcells, hslots⟩)
  dsimp only [Pt.U, Pt.locs, Pt.cells, Pt.slots] at X' q1 q2 q3 st hQ
  subst q1 q2 q3
  exact ⟨v, T', Lc, X', hQ, fun t k => st.trans k⟩
end OwnG
theorem own_jlt {x y : Int64} (h : x < y) : ifCond.holds .lt (lcmpW x y) = true ∧ ifCond.holds .ge (lcmpW x y) = false := by
  have q := (lw_lt x y).mpr h
  exact ⟨(if0 _ _).trans (tlt q).1, (if0 _ _).trans (tlt q).2.1⟩
theorem own_jnlt {x y : Int64} (h : ¬ x < y) : ifCond.holds .lt (lcmpW x y) = false ∧ ifCond.holds .ge (lcmpW x y) = true := by
  have q := fun z => h ((lw_lt x y).mp z)
  exact ⟨(if0 _ _).trans (flt q).1, (if0 _ _).trans (flt q).2.1⟩
theorem own_jgt {x y : Int64} (h : y < x) : ifCond.holds .gt (lcmpW x y) = true ∧ ifCond.holds .le (lcmpW x y) = false := by
  have q := (lw_gt x y).mpr h
  exact ⟨(if0 _ _).trans (tlt q).2.2.1, (if0 _ _).trans (tlt q).2.2.2⟩
theorem own_jngt {x y : Int64} (h : ¬ y < x) : ifCond.holds .gt (lcmpW x y) = false ∧ ifCond.holds .le (lcmpW x y) = true := by
  have q := fun z => h ((lw_gt x y).mp z)
  exact ⟨(if0 _ _).trans (flt q).2.2.1, (if0 _ _).trans (flt q).2.2.2⟩
theorem own_jeq {x y : Int64} (h : x = y) : ifCond.holds .eq (lcmpW x y) = true ∧ ifCond.holds .ne (lcmpW x y) = false := by
  have q := (lw_eq x y).mpr h
  exact ⟨(if0 _ _).trans (teq q).1, (if0 _ _).trans (teq q).2⟩
theorem own_jne {x y : Int64} (h : ¬ x = y) : ifCond.holds .eq (lcmpW x y) = false ∧ ifCond.holds .ne (lcmpW x y) = true := by
  have q := fun z => h ((lw_eq x y).mp z)
  exact ⟨(if0 _ _).trans (feq q).1, (if0 _ _).trans (feq q).2⟩
theorem own_sta_keep {Z : State} {h h' : Heap} {C n d : String} {v : Value} {ws : List Addr} (F : Sta Z h C n d v) (K : Keep h h' ws) (q : ∀ x ∈ ws, ∃ cell : Cell, h[x]? = some cell ∧ cell.vm.isStatics = false) : Sta Z h' C n d v := by
  obtain ⟨cf, i, k, f, st, cell, h1, h2, h3, h4, h5, h6, h7⟩ := F
  refine ⟨cf, i, k, f, st, cell, h1, h2, h3, h4, K.2.1 st cell h5 (fun hm => ?_), h6, h7⟩
  obtain ⟨c', e1, e2⟩ := q st hm
  cases h5.symm.trans e1
  rw [e2] at h6; cases h6
theorem own_exa_ns {Z : State} {h : Heap} {a : Addr} {C : String} (E : Exa Z h a C) : ∃ cell : Cell, h[a]? = some cell ∧ cell.vm.isStatics = false := by
  obtain ⟨cell, k, h1, -, -, h4, -⟩ := E
  exact ⟨cell, h1, h4⟩
theorem own_arv_ns {Z : State} {h : Heap} {a : Addr} {k : ClassId} {ty : FieldType} {z : Int32} {vs : List Value} {dv : Value} (F : Arv Z h a k ty z vs dv) : ∃ cell : Cell, h[a]? = some cell ∧ cell.vm.isStatics = false := by
  obtain ⟨c, A, -⟩ := F
  exact ⟨c, A.1, A.plain⟩
theorem own_seg {tb : Tables} {e : Env} {below : List Frame} {U U' t : State} (a : Steps tb e below U' t → Steps tb e below U t) (b : Steps tb e below U' t) : Steps tb e below U t := a b
theorem own_NSroot {Z : State} {a0 : Array Value} {O K : String} {n : Nat} (w : (Jvm.Cond.noSuperclass O).before a0 Z = true) (wk : (Jvm.Cond.instantiable K n).before a0 Z = true) (hn : O ≠ K) : NS Z O K := by
  obtain ⟨c, k, h1, h2, h3, -, -⟩ := Cond.noSuperclass_spec w
  obtain ⟨t, kt, g1, -⟩ := Cond.instantiable_spec wk
  refine ⟨c, t, h1, g1, fun fuel => ?_⟩
  have ne := ids_ne h1 g1 hn
  cases fuel <;> simp [Vm.isSubclassAux, ne, h2, h3]
theorem own_NSno {Z : State} {a0 : Array Value} {C S K : String} {n : Nat} (w : (Jvm.Cond.superclass C S).before a0 Z = true) (wk : (Jvm.Cond.instantiable K n).before a0 Z = true) (nn : NS Z C K) (hn : C ≠ K) : ∃ c t, Z.vm.findClass C = some c ∧ Z.vm.findClass K = some t ∧ Z.vm.assignable c t = false := by
  obtain ⟨c, t, h0, g0, n3⟩ := nn
  obtain ⟨p, k, kp, h1, h2, h3, h4, h5, -, h7⟩ := Cond.superclass_spec h0 w
  obtain ⟨t', kt, g1, g2, g3, g4, -⟩ := Cond.instantiable_spec wk
  cases g0.symm.trans g1
  have g7 : kt.isInterface = false := by cases q : kt.isInterface <;> simp [q] at g4 ⊢
  have ne := ids_ne h0 g0 hn
  refine ⟨c, t, h0, g0, ?_⟩
  show Z.vm.assignableAux (255 + 1) c t = false
  simp [Vm.assignableAux, ne, h2, g2, h5, g3, g7, Vm.isSubclass, n3]
/-! own laws: the same, for methods that may intern a literal -/
section OwnS
variable {p : Program} {l : Launch} {e : Env} {R : Room} {s : State} {m : MethodId} {args : Array Value} {below : List Frame} {meth : Method} {c : Code} {T : State} {locs : List Loc} {cells slots : Nat} {Z : State} {a0 : Array Value} {h : Heap} {Q : Option Value → Heap → List Loc → Prop} {ck sk : Nat} {EL : List (String × Nat)}
def own_GW (p : Program) (e : Env) (below : List Frame) (s : State) (Q : Option Value → Heap → List Loc → Prop) (ck sk : Nat) (U : State) : Prop :=
  ∃ s₂ o, Steps p.tables e below U s₂ ∧ s₂.status = .running ∧ Ended s₂ below o ∧ ∃ v L, o = .returned v ∧ Q v s₂.heap L ∧ ReturnedEndW s o s₂ L ck sk
theorem own_viaW {U U' : State} (k : ∀ t, Steps p.tables e below U' t → Steps p.tables e below U t) (g : own_GW p e below s Q ck sk U') : own_GW p e below s Q ck sk U := by
  obtain ⟨s2, o, h1, r⟩ := g
  exact ⟨s2, o, k _ h1, r⟩
theorem own_vFW {U : State} (m : MethodId) (T' : State) (pc : Nat) (L : Array Slot) (S : List Value) (k : ∀ t, Steps p.tables e below (T'.setTop (mkF m pc L S)) t → Steps p.tables e below U t) (g : own_GW p e below s Q ck sk (T'.setTop (mkF m pc L S))) : own_GW p e below s Q ck sk U := own_viaW k g
theorem own_retW {vm0 : Vm} {k0 : Nat} (X : Stand p l e R (s.setVm vm0) m args below meth c T locs cells slots) (hS : s.Since vm0 k0) (hk : k0 ≤ T.heap.size) {v : Option Value} (hv : meth.sig.returnType = none → v = none) (hlk : meth.locks = false) {f : JFrame}
    (st : ∀ fs, (∀ (f : JFrame) (acts : List Action), f.method = m → f.locked = none → f.entered = [] → (doReturn e (T.setTop f) acts v).1 = T.setFrames fs) → Steps p.tables e below (T.setTop f) (T.setFrames fs))
    (hQ : Q v T.heap locs) (hc : cells ≤ ck) (hs : slots ≤ sk) : own_GW p e below s Q ck sk (T.setTop f) := by
  obtain ⟨fs, hr, hrun, hended, hE1, hE2, hE3, hE4⟩ := X.leaveW hS hk (v := v) hv hlk
  exact ⟨_, _, st fs hr, hrun, hended, _, _, rfl, hQ, hE1, hE2, hE3, hE4.mono hc hs⟩
theorem own_retN (X : Stand p l e R s m args below meth c T locs cells slots) {v : Option Value} (hv : meth.sig.returnType = none → v = none) (hlk : meth.locks = false) {f : JFrame}
    (st : ∀ fs, (∀ (f : JFrame) (acts : List Action), f.method = m → f.locked = none → f.entered = [] → (doReturn e (T.setTop f) acts v).1 = T.setFrames fs) → Steps p.tables e below (T.setTop f) (T.setFrames fs))
    (hQ : Q v T.heap locs) (hc : cells ≤ ck) (hs : slots ≤ sk) : own_GW p e below s Q ck sk (T.setTop f) := by
  obtain ⟨fs, hr, hrun, hended, hW, hsame⟩ := X.leave (v := v) hv hlk
  exact ⟨_, _, st fs hr, hrun, hended, _, _, rfl, hQ, ReturnedEndW.of_narrow ⟨_, rfl⟩ hW (hsame.mono hc hs)⟩
theorem own_backS {y : MethodName} {bytes : ByteArray} {maxL : Nat} {ret : Option FieldType} {rm : Room} {len W : Nat} {as' : Array Value}
    (hM : MetFree l y (head1 [Jvm.Cond.code y bytes maxL ret] rm) (fun a U => a = as' ∧ Z.Warmed39 U.vm ∧ U.heap = h ∧ CHv Z EL U.vm Z.heap) (fun _ _ _ _ _ => True) (fun _ U o U' => ∃ v L, o = .returned v ∧ Q v U'.heap L ∧ ReturnedEndW U o U' L rm.cells rm.slots))
    (hZ : Z.Warmed39 s.vm) (wc : (Jvm.Cond.code y bytes maxL ret).before a0 Z = true) (wz : (Jvm.Cond.initialized y.cls).before a0 Z = true) (hf : rm.frames + 1 ≤ R.frames) (hl : W + (maxL + 11) + rm.locals ≤ R.locals) (hEL : EW Z a0 EL) (H : CHv Z EL s.vm Z.heap) :
    BackS l R p e below s args y len W (fun A a => a = as' ∧ A.U.heap = h ∧ A.cells + rm.cells ≤ R.cells ∧ A.slots + rm.slots ≤ R.slots)
      (fun A _ v B => ∃ L, Q v B.U.heap L ∧ B.locs = A.locs ++ L ∧ B.cells = A.cells + rm.cells ∧ B.slots = A.slots + rm.slots) :=
  BackS.of_freeW (bytes := bytes) (maxL := maxL) (ret := ret) (E := fun _ _ o t L k n => k = rm.cells ∧ n = rm.slots ∧ ∃ v, o = .returned v ∧ Q v t.heap L) hM hf hl
    (fun m meth c A a Y hp => have hU : Z.Warmed39 A.U.vm := wtrans hZ Y.warmed
      ⟨by show (Jvm.Cond.and _ .tt).before a A.U = true; rw [Cond.before_and, mv hU wc]; rfl, mv hU wc, mv hU wz, hp.2.2.1, hp.2.2.2⟩)
    (fun m meth c A a g mk Y hp => ⟨hp.1, wtrans hZ Y.warmed, hp.2.1, (CHv.at (s := s) (vm0 := s.vm) Y hZ hEL H).1⟩) (fun _ _ _ _ _ _ _ _ _ => trivial)
    (fun _ _ _ _ ⟨v, L, h1, h2, h3⟩ => ⟨L, _, _, h3, rfl, rfl, v, h1, h2⟩)
    (fun m meth c A a g mk v t L k n Y hp _ _ ⟨e1, e2, v', e3, e4⟩ => by cases e3; subst e1 e2; exact ⟨L, e4, rfl, rfl, rfl⟩)
theorem own_callSW (X : Stand p l e R s m args below meth c T locs cells slots) (hx : p.tables.exec = Jvm.exec) (hZ : Z.Warmed39 s.vm) (hEL : EW Z a0 EL) (H : CHv Z EL s.vm Z.heap) {own : String} {index : Nat} {y : MethodName} {bytes : ByteArray} {maxL : Nat} {ret : Option FieldType} {rm : Room} {as' : Array Value} {W : Nat}
    (hown : s.vm.findClass own = some m.cls) (w1 : (Jvm.Cond.methodLink own index y).before a0 Z = true) (w2 : (Jvm.Cond.static y).before a0 Z = true) (w3 : (Jvm.Cond.initialized y.cls).before a0 Z = true) (w4 : (Jvm.Cond.code y bytes maxL ret).before a0 Z = true)
    (hy : y.cls ≠ "java/lang/invoke/MethodHandle" ∧ y.cls ≠ "java/lang/invoke/VarHandle")
    (hM : MetFree l y (head1 [Jvm.Cond.code y bytes maxL ret] rm) (fun a U => a = as' ∧ Z.Warmed39 U.vm ∧ U.heap = h ∧ CHv Z EL U.vm Z.heap) (fun _ _ _ _ _ => True) (fun _ U o U' => ∃ v L, o = .returned v ∧ Q v U'.heap L ∧ ReturnedEndW U o U' L rm.cells rm.slots))
    (hf : rm.frames + 1 ≤ R.frames) (hl : W + (maxL + 11) + rm.locals ≤ R.locals) (eT : T.heap = h)
    {g : JFrame} (hg : g.method = m) (hsize : g.locals.size = c.maxLocals) {argsL rest : List Value} (has : argsL.toArray = as') (hlen : ∀ sig, parseMethodDescriptor y.desc = some sig → argsL.length = sig.parameters.length)
    (hstack : g.stack = argsL.reverse ++ rest) (hW : 2 * g.monitorRoom + (rest.map fun v => v.category).sum ≤ W) (hdg : decode c.code g.pc = .ok (.invokestatic index, 3))
    (hcells : cells + rm.cells ≤ R.cells) (hslots : slots + rm.slots ≤ R.slots) :
    ∃ v T' L', Stand p l e R (s.setVm T'.vm) m args below meth c T' (locs ++ L') (cells + rm.cells) (slots + rm.slots) ∧ s.Since T'.vm T'.heap.size ∧ Z.Warmed39 (s.setVm T'.vm).vm ∧ (s.setVm T'.vm).vm.findClass own = some m.cls ∧ Q v T'.heap L' ∧ ∀ t, Steps p.tables e below (T'.setTop { g with pc := g.pc + 3, stack := v.toList ++ rest }) t → Steps p.tables e below (T.setTop g) t := by
  obtain ⟨v, vm1, ⟨T', L', k', n'⟩, -, X', hS, -, ⟨Lc, hQ, q1, q2, q3⟩, st⟩ := callSS X hx hown (mvT hZ w1) (mvT hZ w2) (mvT hZ w3) (mvT hZ w4) hy (own_backS (W := W) hM hZ w4 w3 hf hl hEL H) hg hsize hlen hstack hW hdg (fun _ _ => ⟨has, eT, hcells, hslots⟩)
  dsimp only [Pt.U, Pt.locs, Pt.cells, Pt.slots] at X' hS q1 q2 q3 st hQ
  subst q1 q2 q3
  exact ⟨v, T', Lc, X', hS, State.Warmed39.trans (t := s) hZ hS.1, by rw [show (s.setVm T'.vm).vm = T'.vm from rfl, hS.1.alike.findClass]; exact hown, hQ, fun t k => st.trans k⟩
theorem own_callVW (X : Stand p l e R s m args below meth c T locs cells slots) (hx : p.tables.exec = Jvm.exec) (hZ : Z.Warmed39 s.vm) (hEL : EW Z a0 EL) (H : CHv Z EL s.vm Z.heap) {own : String} {index : Nat} {y : MethodName} {bytes : ByteArray} {maxL : Nat} {ret : Option FieldType} {rm : Room} {as' : Array Value} {W : Nat} {C : String}
    (hown : s.vm.findClass own = some m.cls) (w1 : (Jvm.Cond.methodLink own index y).before a0 Z = true) (w2 : (Jvm.Cond.declares y).before a0 Z = true) (w5 : (Jvm.Cond.selects C y y).before a0 Z = true) (w6 : (Jvm.Cond.instanceMethod y).before a0 Z = true) (w3 : (Jvm.Cond.initialized y.cls).before a0 Z = true) (w4 : (Jvm.Cond.code y bytes maxL ret).before a0 Z = true)
    (hy : y.cls ≠ "java/lang/invoke/MethodHandle" ∧ y.cls ≠ "java/lang/invoke/VarHandle")
    (hM : MetFree l y (head1 [Jvm.Cond.code y bytes maxL ret] rm) (fun a U => a = as' ∧ Z.Warmed39 U.vm ∧ U.heap = h ∧ CHv Z EL U.vm Z.heap) (fun _ _ _ _ _ => True) (fun _ U o U' => ∃ v L, o = .returned v ∧ Q v U'.heap L ∧ ReturnedEndW U o U' L rm.cells rm.slots))
    (hf : rm.frames + 1 ≤ R.frames) (hl : W + (maxL + 11) + rm.locals ≤ R.locals) (eT : T.heap = h) {b : Addr} (E : Exa Z h b C)
    {g : JFrame} (hg : g.method = m) (hsize : g.locals.size = c.maxLocals) {argsL rest : List Value} (has : (.ref b :: argsL).toArray = as') (hlen : ∀ sig, parseMethodDescriptor y.desc = some sig → argsL.length = sig.parameters.length)
    (hstack : g.stack = argsL.reverse ++ .ref b :: rest) (hW : 2 * g.monitorRoom + (rest.map fun v => v.category).sum ≤ W) (hdg : decode c.code g.pc = .ok (.invokevirtual index, 3))
    (hcells : cells + rm.cells ≤ R.cells) (hslots : slots + rm.slots ≤ R.slots) :
    ∃ v T' L', Stand p l e R (s.setVm T'.vm) m args below meth c T' (locs ++ L') (cells + rm.cells) (slots + rm.slots) ∧ s.Since T'.vm T'.heap.size ∧ Z.Warmed39 (s.setVm T'.vm).vm ∧ (s.setVm T'.vm).vm.findClass own = some m.cls ∧ Q v T'.heap L' ∧ ∀ t, Steps p.tables e below (T'.setTop { g with pc := g.pc + 3, stack := v.toList ++ rest }) t → Steps p.tables e below (T.setTop g) t := by
  obtain ⟨cq, kq, qa, qb, qc⟩ := isOf hZ eT E
  obtain ⟨v, vm1, ⟨T', L', k', n'⟩, -, X', hS, -, ⟨Lc, hQ, q1, q2, q3⟩, st⟩ := X.virtualBackS hx hown (mvT hZ w1) (mvT hZ w2) (notFace_of_selects (args := #[]) (mvT hZ w5)) (mvT hZ w5) (mvT hZ w6) hy (own_backS (W := W) hM hZ w4 w3 hf hl hEL H) qa qc hg hsize (Steps.refl _) hlen hstack hW hdg (fun _ _ => ⟨has, eT, hcells, hslots⟩)
  dsimp only [Pt.U, Pt.locs, Pt.cells, Pt.slots] at X' hS q1 q2 q3 st hQ
  subst q1 q2 q3
  exact ⟨v, T', Lc, X', hS, State.Warmed39.trans (t := s) hZ hS.1, by rw [show (s.setVm T'.vm).vm = T'.vm from rfl, hS.1.alike.findClass]; exact hown, hQ, fun t k => st.trans k⟩
theorem own_callIW (X : Stand p l e R s m args below meth c T locs cells slots) (hx : p.tables.exec = Jvm.exec) (hZ : Z.Warmed39 s.vm) (hEL : EW Z a0 EL) (H : CHv Z EL s.vm Z.heap) {own : String} {index : Nat} {y : MethodName} (hy1 : y.name = "<init>") {bytes : ByteArray} {maxL : Nat} {rm : Room} {as' : Array Value} {W : Nat}
    (hown : s.vm.findClass own = some m.cls) (w1 : (Jvm.Cond.methodLink own index y).before a0 Z = true) (w2 : (Jvm.Cond.instanceMethod y).before a0 Z = true) (w3 : (Jvm.Cond.initialized y.cls).before a0 Z = true) (w4 : (Jvm.Cond.code y bytes maxL none).before a0 Z = true)
    (hy : y.cls ≠ "java/lang/invoke/MethodHandle" ∧ y.cls ≠ "java/lang/invoke/VarHandle")
    (hM : MetFree l y (head1 [Jvm.Cond.code y bytes maxL none] rm) (fun a U => a = as' ∧ Z.Warmed39 U.vm ∧ U.heap = h ∧ CHv Z EL U.vm Z.heap) (fun _ _ _ _ _ => True) (fun _ U o U' => ∃ v L, o = .returned v ∧ Q v U'.heap L ∧ ReturnedEndW U o U' L rm.cells rm.slots))
    (hf : rm.frames + 1 ≤ R.frames) (hl : W + (maxL + 11) + rm.locals ≤ R.locals) (eT : T.heap = h)
    {g : JFrame} (hg : g.method = m) (hsize : g.locals.size = c.maxLocals) {a : Addr} {argsL rest : List Value} (has : (.ref a :: argsL).toArray = as') (hlen : ∀ sig, parseMethodDescriptor y.desc = some sig → argsL.length = sig.parameters.length)
    (hstack : g.stack = argsL.reverse ++ .ref a :: rest) (hW : 2 * g.monitorRoom + (rest.map fun v => v.category).sum ≤ W) (hdg : decode c.code g.pc = .ok (.invokespecial index, 3))
    (hcells : cells + rm.cells ≤ R.cells) (hslots : slots + rm.slots ≤ R.slots) :
    ∃ v T' L', Stand p l e R (s.setVm T'.vm) m args below meth c T' (locs ++ L') (cells + rm.cells) (slots + rm.slots) ∧ s.Since T'.vm T'.heap.size ∧ Z.Warmed39 (s.setVm T'.vm).vm ∧ (s.setVm T'.vm).vm.findClass own = some m.cls ∧ Q v T'.heap L' ∧ ∀ t, Steps p.tables e below (T'.setTop { g with pc := g.pc + 3, stack := v.toList ++ rest }) t → Steps p.tables e below (T.setTop g) t := by
  obtain ⟨v, vm1, ⟨T', L', k', n'⟩, -, X', hS, -, ⟨Lc, hQ, q1, q2, q3⟩, st⟩ := X.specialBackS hx hy1 hown (mvT hZ w1) (mvT hZ w2) (mvT hZ w4) hy (own_backS (W := W) hM hZ w4 w3 hf hl hEL H) hg hsize (Steps.refl _) hlen hstack hW hdg (fun _ _ => ⟨has, eT, hcells, hslots⟩)
  dsimp only [Pt.U, Pt.locs, Pt.cells, Pt.slots] at X' hS q1 q2 q3 st hQ
  subst q1 q2 q3
  exact ⟨v, T', Lc, X', hS, State.Warmed39.trans (t := s) hZ hS.1, by rw [show (s.setVm T'.vm).vm = T'.vm from rfl, hS.1.alike.findClass]; exact hown, hQ, fun t k => st.trans k⟩
theorem own_callIH (X : Stand p l e R s m args below meth c T locs cells slots) (hx : p.tables.exec = Jvm.exec) (hZ : Z.Warmed39 s.vm) {own : String} {index : Nat} {y : MethodName} (hy1 : y.name = "<init>") {bytes : ByteArray} {maxL : Nat} {hs : List (Nat × Nat × Nat × Nat)} {rm : Room} {as' : Array Value} {W : Nat}
    (hown : s.vm.findClass own = some m.cls) (w1 : (Jvm.Cond.methodLink own index y).before a0 Z = true) (w2 : (Jvm.Cond.instanceMethod y).before a0 Z = true) (w3 : (Jvm.Cond.initialized y.cls).before a0 Z = true) (w4 : (Jvm.Cond.codeWith y bytes maxL none hs).before a0 Z = true)
    (hy : y.cls ≠ "java/lang/invoke/MethodHandle" ∧ y.cls ≠ "java/lang/invoke/VarHandle")
    (hM : MetFree l y (head1 [Jvm.Cond.codeWith y bytes maxL none hs] rm) (fun a U => a = as' ∧ Z.Warmed39 U.vm ∧ U.heap = h) (fun _ _ _ _ _ => True) (fun _ U o U' => ∃ v L, o = .returned v ∧ Q v U'.heap L ∧ FrameEnd U o U' L rm.cells rm.slots))
    (hf : rm.frames + 1 ≤ R.frames) (hl : W + (maxL + 11) + rm.locals ≤ R.locals) (eT : T.heap = h)
    {g : JFrame} (hg : g.method = m) (hsize : g.locals.size = c.maxLocals) {a : Addr} {argsL rest : List Value} (has : (.ref a :: argsL).toArray = as') (hlen : ∀ sig, parseMethodDescriptor y.desc = some sig → argsL.length = sig.parameters.length)
    (hstack : g.stack = argsL.reverse ++ .ref a :: rest) (hW : 2 * g.monitorRoom + (rest.map fun v => v.category).sum ≤ W) (hdg : decode c.code g.pc = .ok (.invokespecial index, 3))
    (hcells : cells + rm.cells ≤ R.cells) (hslots : slots + rm.slots ≤ R.slots) :
    ∃ v T' L', Stand p l e R s m args below meth c T' (locs ++ L') (cells + rm.cells) (slots + rm.slots) ∧ Q v T'.heap L' ∧ ∀ t, Steps p.tables e below (T'.setTop { g with pc := g.pc + 3, stack := v.toList ++ rest }) t → Steps p.tables e below (T.setTop g) t := by
  obtain ⟨v, vm1, ⟨T', L', k', n'⟩, -, X', ⟨Lc, hQ, q1, q2, q3⟩, st⟩ := X.specialBackH hx hy1 hown (mvT hZ w1) (mvT hZ w2) (mvT hZ w4) hy (backOfWith (W := W) hM hZ w4 w3 hf hl) hg hsize (Steps.refl _) hlen hstack hW hdg (fun _ _ => ⟨has, eT, hcells, hslots⟩)
  dsimp only [Pt.U, Pt.locs, Pt.cells, Pt.slots] at X' q1 q2 q3 st hQ
  subst q1 q2 q3
  exact ⟨v, T', Lc, X', hQ, fun t k => st.trans k⟩
/-- what a walked method with an exception table that may intern gives its caller -/
theorem own_backSH {y : MethodName} {bytes : ByteArray} {maxL : Nat} {ret : Option FieldType} {hs : List (Nat × Nat × Nat × Nat)} {rm : Room} {len W : Nat} {as' : Array Value}
    (hM : MetFree l y (head1 [Jvm.Cond.codeWith y bytes maxL ret hs] rm) (fun a U => a = as' ∧ Z.Warmed39 U.vm ∧ U.heap = h ∧ CHv Z EL U.vm Z.heap) (fun _ _ _ _ _ => True) (fun _ U o U' => ∃ v L, o = .returned v ∧ Q v U'.heap L ∧ ReturnedEndW U o U' L rm.cells rm.slots))
    (hZ : Z.Warmed39 s.vm) (wc : (Jvm.Cond.codeWith y bytes maxL ret hs).before a0 Z = true) (wz : (Jvm.Cond.initialized y.cls).before a0 Z = true) (hf : rm.frames + 1 ≤ R.frames) (hl : W + (maxL + 11) + rm.locals ≤ R.locals) (hEL : EW Z a0 EL) (H : CHv Z EL s.vm Z.heap) :
    BackS l R p e below s args y len W (fun A a => a = as' ∧ A.U.heap = h ∧ A.cells + rm.cells ≤ R.cells ∧ A.slots + rm.slots ≤ R.slots)
      (fun A _ v B => ∃ L, Q v B.U.heap L ∧ B.locs = A.locs ++ L ∧ B.cells = A.cells + rm.cells ∧ B.slots = A.slots + rm.slots) := by
  intro m meth c A g ig mk aa X hg hsize hdg hW hn hp
  obtain ⟨U, Ls, c0, s0⟩ := A
  obtain ⟨rfl, hh, hc, hsl⟩ := hp
  dsimp only [Pt.U, Pt.locs, Pt.cells, Pt.slots] at X hn hh hc hsl ⊢
  subst hg
  have hU : Z.Warmed39 U.vm := wtrans hZ X.warmed
  have hwc : (Jvm.Cond.codeWith y bytes maxL ret hs).before aa U = true := mv hU wc
  have hK := (CHv.at (s := s) (vm0 := s.vm) X hZ hEL H).1
  have hcall : (head1 [Jvm.Cond.codeWith y bytes maxL ret hs] rm).appliesLoose y e.platform (U.calling g mk aa) = true := by
    obtain ⟨mk', mY, cY, hn', hmY, hcY, -, hlY, -⟩ := Cond.codeWith_spec hwc
    cases hn.symm.trans hn'
    obtain ⟨kY, hkY, -⟩ := className_of_methodNamed hn
    have hin := Cond.initialized_spec (args := aa) (findClass_of_methodNamed hn) hkY (mv hU wz)
    refine Spec.appliesLoose_calling (g := g) X.here hdg hn hkY hin (X.room_calling (g := g) (R' := rm) hsize hmY hcY hf ?_ hc hsl) ?_
    · rw [hlY]; omega
    · show (Jvm.Cond.and _ .tt).before aa U = true
      rw [Cond.before_and, hwc]; rfl
  have hfr : (U.setTop g).frames = .java g :: below := by rw [State.frames_setTop' g X.here.top, X.tail]
  obtain ⟨o, s2, st, -, hend, v, L, rfl, hQ, hE⟩ := Steps.callFree hM p X.admits X.cas X.clock (acts := []) (mid := [.java g]) (below := below) hfr hcall ⟨rfl, hU, hh, hK⟩ trivial
  rw [hfr] at hend
  obtain ⟨-, hW2, hB2, eq, r1, r2, r3, r4, r5⟩ := hE
  obtain ⟨c2, i2, n2, hc2, hd2, hf2⟩ := hend
  have hal : U.vm.Alike s2.vm := hW2.alike
  have ec : c2 = c := by
    have q : s2.code? g.method = U.code? g.method := by rw [State.code?_eq, State.code?_eq, hal.method?]
    exact Option.some.inj (hc2.symm.trans (q.trans X.here.code))
  subst ec
  have en : n2 = len := by rw [hdg] at hd2; cases hd2; rfl
  subst en
  obtain ⟨g0, hg0⟩ := Option.isSome_iff_exists.mp X.here.top
  obtain ⟨r, hr⟩ := State.topJava?_eq_some.mp hg0
  obtain ⟨t, ht, -⟩ := State.frames_cons hr
  have er : r = below := by have q := X.tail; rw [hr] at q; exact q
  subst er
  have e2 : s2 = (({ U with heap := s2.heap, slotsUsed := s2.slotsUsed } : State).setVm s2.vm).setTop { g with pc := g.pc + n2, stack := v.toList ++ g.stack } := by
    have q0 : ({ s2 with vm := (U.calling g mk aa).vm } : State) = { (U.calling g mk aa).setFrames s2.frames with heap := s2.heap, slotsUsed := s2.slotsUsed } := eq
    have q : s2 = ({ (U.calling g mk aa).setFrames s2.frames with heap := s2.heap, slotsUsed := s2.slotsUsed } : State).setVm s2.vm := by
      have q1 := congrArg (fun z : State => z.setVm s2.vm) q0
      exact q1
    rw [State.setTop_of_frames _ (show (({ U with heap := s2.heap, slotsUsed := s2.slotsUsed } : State).setVm s2.vm).frames = .java g0 :: r from hr), ← hf2]
    rw [State.calling_eq X.here.top, State.setFrames_setFrames] at q
    exact q
  have hsame : U.sameButNew ({ U with heap := s2.heap, slotsUsed := s2.slotsUsed } : State) L rm.cells rm.slots :=
    ⟨by show ({ U with heap := s2.heap, slotsUsed := s2.slotsUsed } : State) = { U.setFrames U.frames with heap := s2.heap, slotsUsed := s2.slotsUsed }; rw [State.setFrames_self ht], r1, r2, r3, r4, r5⟩
  obtain ⟨X2, hS2⟩ := X.movedW (T₂ := ({ U with heap := s2.heap, slotsUsed := s2.slotsUsed } : State).setVm s2.vm) ((X.here.setHeapUsed s2.heap s2.slotsUsed).setVm hal) X.tail rfl rfl hW2 hB2 hsame
  exact ⟨v, ⟨_, _, _, _⟩, X2, hS2, r1, ⟨L, hQ, rfl, rfl, rfl⟩, by show Steps p.tables e r _ ((({ U with heap := s2.heap, slotsUsed := s2.slotsUsed } : State).setVm s2.vm).setTop { g with pc := g.pc + n2, stack := v.toList ++ g.stack }); rw [← e2]; exact st⟩
theorem own_callIWH (X : Stand p l e R s m args below meth c T locs cells slots) (hx : p.tables.exec = Jvm.exec) (hZ : Z.Warmed39 s.vm) (hEL : EW Z a0 EL) (H : CHv Z EL s.vm Z.heap) {own : String} {index : Nat} {y : MethodName} (hy1 : y.name = "<init>") {bytes : ByteArray} {maxL : Nat} {hs : List (Nat × Nat × Nat × Nat)} {rm : Room} {as' : Array Value} {W : Nat}
    (hown : s.vm.findClass own = some m.cls) (w1 : (Jvm.Cond.methodLink own index y).before a0 Z = true) (w2 : (Jvm.Cond.instanceMethod y).before a0 Z = true) (w3 : (Jvm.Cond.initialized y.cls).before a0 Z = true) (w4 : (Jvm.Cond.codeWith y bytes maxL none hs).before a0 Z = true)
    (hy : y.cls ≠ "java/lang/invoke/MethodHandle" ∧ y.cls ≠ "java/lang/invoke/VarHandle")
    (hM : MetFree l y (head1 [Jvm.Cond.codeWith y bytes maxL none hs] rm) (fun a U => a = as' ∧ Z.Warmed39 U.vm ∧ U.heap = h ∧ CHv Z EL U.vm Z.heap) (fun _ _ _ _ _ => True) (fun _ U o U' => ∃ v L, o = .returned v ∧ Q v U'.heap L ∧ ReturnedEndW U o U' L rm.cells rm.slots))
    (hf : rm.frames + 1 ≤ R.frames) (hl : W + (maxL + 11) + rm.locals ≤ R.locals) (eT : T.heap = h)
    {g : JFrame} (hg : g.method = m) (hsize : g.locals.size = c.maxLocals) {a : Addr} {argsL rest : List Value} (has : (.ref a :: argsL).toArray = as') (hlen : ∀ sig, parseMethodDescriptor y.desc = some sig → argsL.length = sig.parameters.length)
    (hstack : g.stack = argsL.reverse ++ .ref a :: rest) (hW : 2 * g.monitorRoom + (rest.map fun v => v.category).sum ≤ W) (hdg : decode c.code g.pc = .ok (.invokespecial index, 3))
    (hcells : cells + rm.cells ≤ R.cells) (hslots : slots + rm.slots ≤ R.slots) :
    ∃ v T' L', Stand p l e R (s.setVm T'.vm) m args below meth c T' (locs ++ L') (cells + rm.cells) (slots + rm.slots) ∧ s.Since T'.vm T'.heap.size ∧ Z.Warmed39 (s.setVm T'.vm).vm ∧ (s.setVm T'.vm).vm.findClass own = some m.cls ∧ Q v T'.heap L' ∧ ∀ t, Steps p.tables e below (T'.setTop { g with pc := g.pc + 3, stack := v.toList ++ rest }) t → Steps p.tables e below (T.setTop g) t := by
  obtain ⟨mk, mY, cY, kY, vm1, hn, -, -, -, -, -, -, -, hW1, st1⟩ := Steps.initColdArgsH (e := e) (args := #[]) X.here hx X.warmed (by rw [X.admits.platform]) hown hy1 hy (mvT hZ w1) (mvT hZ w2) (mvT hZ w4) (f := g) hg hlen hstack hdg
  have X1 := X.noted hW1
  obtain ⟨v, ⟨T', L', k', n'⟩, X', hS, -, ⟨Lc, hQ, q1, q2, q3⟩, st⟩ := own_backSH (W := W) hM hZ w4 w3 hf hl hEL H m meth c ⟨T.setVm vm1, locs, cells, slots⟩ { g with stack := rest } (.invokespecial index) mk _ X1 hg hsize hdg hW (X1.named hn) ⟨has, eT, hcells, hslots⟩
  dsimp only [Pt.U, Pt.locs, Pt.cells, Pt.slots] at X' hS q1 q2 q3 st hQ
  subst q1 q2 q3
  exact ⟨v, T', Lc, X', hS, State.Warmed39.trans (t := s) hZ hS.1, by rw [show (s.setVm T'.vm).vm = T'.vm from rfl, hS.1.alike.findClass]; exact hown, hQ, fun t k => (st1 _ fun acts => by rw [doInvoke_state]; exact st).trans k⟩
end OwnS
def own_EL : List (String × Nat) := [("java/lang/String", 7), ("java/lang/StringLatin1", 151)]
abbrev vI (x : Int32) : Slot := .val (.int x)
abbrev vR (x : Addr) : Slot := .val (.ref x)
theorem own_mt {α : Type} {L : List α} (i : Nat) {a : α} (h : L[i]? = some a) : a ∈ L := List.mem_of_getElem? h
theorem own_w0 {n : Nat} : 2 * 0 + n ≤ n := Nat.le_of_eq (by omega)
abbrev own_MG (l : Launch) (Z : State) (y : MethodName) (B : ByteArray) (mL : Nat) (rt : Option FieldType) (rm : Room) (A : Array Value) (h0 : Heap) (Q : Option Value → Heap → List Loc → Prop) : Prop :=
  MetFree l y (head1 [Jvm.Cond.code y B mL rt] rm) (fun a U => a = A ∧ Z.Warmed39 U.vm ∧ U.heap = h0) (fun _ _ _ _ _ => True) (fun _ U o V => ∃ v L, o = .returned v ∧ Q v V.heap L ∧ FrameEnd U o V L rm.cells rm.slots)
abbrev own_MW (l : Launch) (Z : State) (y : MethodName) (B : ByteArray) (mL : Nat) (rt : Option FieldType) (rm : Room) (A : Array Value) (h0 : Heap) (Q : Option Value → Heap → List Loc → Prop) : Prop :=
  MetFree l y (head1 [Jvm.Cond.code y B mL rt] rm) (fun a U => a = A ∧ Z.Warmed39 U.vm ∧ U.heap = h0 ∧ CHv Z own_EL U.vm Z.heap) (fun _ _ _ _ _ => True) (fun _ U o V => ∃ v L, o = .returned v ∧ Q v V.heap L ∧ ReturnedEndW U o V L rm.cells rm.slots)
abbrev own_MGH (l : Launch) (Z : State) (y : MethodName) (B : ByteArray) (mL : Nat) (rt : Option FieldType) (rm : Room) (hs : List (Nat × Nat × Nat × Nat)) (A : Array Value) (h0 : Heap) (Q : Option Value → Heap → List Loc → Prop) : Prop :=
  MetFree l y (head1 [Jvm.Cond.codeWith y B mL rt hs] rm) (fun a U => a = A ∧ Z.Warmed39 U.vm ∧ U.heap = h0) (fun _ _ _ _ _ => True) (fun _ U o V => ∃ v L, o = .returned v ∧ Q v V.heap L ∧ FrameEnd U o V L rm.cells rm.slots)
abbrev own_MWH (l : Launch) (Z : State) (y : MethodName) (B : ByteArray) (mL : Nat) (rt : Option FieldType) (rm : Room) (hs : List (Nat × Nat × Nat × Nat)) (A : Array Value) (h0 : Heap) (Q : Option Value → Heap → List Loc → Prop) : Prop :=
  MetFree l y (head1 [Jvm.Cond.codeWith y B mL rt hs] rm) (fun a U => a = A ∧ Z.Warmed39 U.vm ∧ U.heap = h0 ∧ CHv Z own_EL U.vm Z.heap) (fun _ _ _ _ _ => True) (fun _ U o V => ∃ v L, o = .returned v ∧ Q v V.heap L ∧ ReturnedEndW U o V L rm.cells rm.slots)
theorem own_mkG {l : Launch} {Z : State} {y : MethodName} {B : ByteArray} {mL : Nat} {rt : Option FieldType} {rm : Room} {A : Array Value} {h0 : Heap} {Q : Option Value → Heap → List Loc → Prop} (hp : plainFor y = true)
    (H : ∀ (p : Program) (e : Env) (s : State) (m : MethodId) (below : List Frame) (meth : Method) (c : Code) (T : State), Stand p l e rm s m A below meth c T [] 0 0 → p.tables.exec = Jvm.exec → c.code = B → c.maxLocals = mL → s.vm.findClass y.cls = some m.cls → meth.name = y.name → meth.sig.returnType = rt → meth.locks = false → Z.Warmed39 s.vm → T.heap = h0 → own_G p e below s Q rm.cells rm.slots (T.setTop (entryFrame m A mL))) : own_MG l Z y B mL rt rm A h0 Q := by
  refine MetFree.of_bodySF hp hisR ?_
  intro p e s m args below meth c s₁ Bd hml0 hP hK
  obtain ⟨rfl, hZ, hh⟩ := hP
  exact H p e s m below meth c s₁ (Stand.of_body Bd) Bd.exec Bd.bytes hml0 (findClass_of_methodNamed Bd.named) (name_of_methodNamed Bd.named Bd.method).1 Bd.returns Bd.notSynchronized hZ (by rw [← hh, Bd.state]; rfl)
theorem own_mkW {l : Launch} {Z : State} {y : MethodName} {B : ByteArray} {mL : Nat} {rt : Option FieldType} {rm : Room} {A : Array Value} {h0 : Heap} {Q : Option Value → Heap → List Loc → Prop} (hp : plainFor y = true)
    (H : ∀ (p : Program) (e : Env) (s : State) (m : MethodId) (below : List Frame) (meth : Method) (c : Code) (T : State), Stand p l e rm s m A below meth c T [] 0 0 → p.tables.exec = Jvm.exec → c.code = B → c.maxLocals = mL → s.vm.findClass y.cls = some m.cls → meth.name = y.name → meth.sig.returnType = rt → meth.locks = false → Z.Warmed39 s.vm → T.heap = h0 → CHv Z own_EL s.vm Z.heap → own_GW p e below s Q rm.cells rm.slots (T.setTop (entryFrame m A mL))) : own_MW l Z y B mL rt rm A h0 Q := by
  refine MetFree.of_bodySF hp hisR ?_
  intro p e s m args below meth c s₁ Bd hml0 hP hK
  obtain ⟨rfl, hZ, hh, hCH⟩ := hP
  exact H p e s m below meth c s₁ (Stand.of_body Bd) Bd.exec Bd.bytes hml0 (findClass_of_methodNamed Bd.named) (name_of_methodNamed Bd.named Bd.method).1 Bd.returns Bd.notSynchronized hZ (by rw [← hh, Bd.state]; rfl) hCH
theorem own_mkGH {l : Launch} {Z : State} {y : MethodName} {B : ByteArray} {mL : Nat} {rt : Option FieldType} {rm : Room} {hs : List (Nat × Nat × Nat × Nat)} {A : Array Value} {h0 : Heap} {Q : Option Value → Heap → List Loc → Prop} (hp : plainFor y = true)
    (H : ∀ (p : Program) (e : Env) (s : State) (m : MethodId) (below : List Frame) (meth : Method) (c : Code) (T : State), Stand p l e rm s m A below meth c T [] 0 0 → p.tables.exec = Jvm.exec → c.code = B → c.maxLocals = mL → s.vm.findClass y.cls = some m.cls → meth.name = y.name → meth.sig.returnType = rt → meth.locks = false → Z.Warmed39 s.vm → T.heap = h0 → own_G p e below s Q rm.cells rm.slots (T.setTop (entryFrame m A mL))) : own_MGH l Z y B mL rt rm hs A h0 Q := by
  refine MetFree.of_bodySF hp hisWith ?_
  intro p e s m args below meth c s₁ Bd hml0 hP hK
  obtain ⟨rfl, hZ, hh⟩ := hP
  exact H p e s m below meth c s₁ (Stand.of_body Bd) Bd.exec Bd.bytes hml0 (findClass_of_methodNamed Bd.named) (name_of_methodNamed Bd.named Bd.method).1 Bd.returns Bd.notSynchronized hZ (by rw [← hh, Bd.state]; rfl)
theorem own_mkWH {l : Launch} {Z : State} {y : MethodName} {B : ByteArray} {mL : Nat} {rt : Option FieldType} {rm : Room} {hs : List (Nat × Nat × Nat × Nat)} {A : Array Value} {h0 : Heap} {Q : Option Value → Heap → List Loc → Prop} (hp : plainFor y = true)
    (H : ∀ (p : Program) (e : Env) (s : State) (m : MethodId) (below : List Frame) (meth : Method) (c : Code) (T : State), Stand p l e rm s m A below meth c T [] 0 0 → p.tables.exec = Jvm.exec → c.code = B → c.maxLocals = mL → s.vm.findClass y.cls = some m.cls → meth.name = y.name → meth.sig.returnType = rt → meth.locks = false → Z.Warmed39 s.vm → T.heap = h0 → CHv Z own_EL s.vm Z.heap → own_GW p e below s Q rm.cells rm.slots (T.setTop (entryFrame m A mL))) : own_MWH l Z y B mL rt rm hs A h0 Q := by
  refine MetFree.of_bodySF hp hisWith ?_
  intro p e s m args below meth c s₁ Bd hml0 hP hK
  obtain ⟨rfl, hZ, hh, hCH⟩ := hP
  exact H p e s m below meth c s₁ (Stand.of_body Bd) Bd.exec Bd.bytes hml0 (findClass_of_methodNamed Bd.named) (name_of_methodNamed Bd.named Bd.method).1 Bd.returns Bd.notSynchronized hZ (by rw [← hh, Bd.state]; rfl) hCH
def own_SS (Z : State) (cs : Int32) (sf : Value) (iso u8 : Addr) : Prop :=
  Sta Z Z.heap "java/lang/String" "COMPACT_STRINGS" "Z" (.int cs) ∧ ¬ cs = (0 : Int32) ∧ Sta Z Z.heap "jdk/internal/util/Preconditions" "SIOOBE_FORMATTER" "Ljava/util/function/BiFunction;" sf ∧ sf.isRef = true ∧
  Sta Z Z.heap "java/nio/charset/StandardCharsets" "ISO_8859_1" "Ljava/nio/charset/Charset;" (.ref iso) ∧ Sta Z Z.heap "sun/nio/cs/ISO_8859_1" "INSTANCE" "Lsun/nio/cs/ISO_8859_1;" (.ref iso) ∧ Exa Z Z.heap iso "sun/nio/cs/ISO_8859_1" ∧ Sta Z Z.heap "sun/nio/cs/UTF_8" "INSTANCE" "Lsun/nio/cs/UTF_8;" (.ref u8) ∧ Exa Z Z.heap u8 "sun/nio/cs/UTF_8"
theorem own_cat {v : Value} (h : v.isRef = true) : v.category = 1 := by cases v <;> simp [Value.isRef, Value.category] at h ⊢
def Ql1 (Z : State) (o ar : Addr) (cs : Int32) (sf : Value) (iso u8 : Addr) (h0 : Heap) (n0 : Nat) (v : Option Value) (h : Heap) (L : List Loc) : Prop := v = some (.int 1) ∧ Fr n0 L ∧ h = h0
theorem d1_0 : decode jdk_42_method_154_code 0 = .ok (.getstatic 38, 3) := by decide +kernel
theorem d1_3 : decode jdk_42_method_154_code 3 = .ok (.ifCond .eq 14, 3) := by decide +kernel
theorem d1_6 : decode jdk_42_method_154_code 6 = .ok (.aload_n 0, 1) := by decide +kernel
theorem d1_7 : decode jdk_42_method_154_code 7 = .ok (.getfield 15, 3) := by decide +kernel
theorem d1_10 : decode jdk_42_method_154_code 10 = .ok (.ifCond .ne 7, 3) := by decide +kernel
theorem d1_13 : decode jdk_42_method_154_code 13 = .ok (.iconst 1, 1) := by decide +kernel
theorem d1_14 : decode jdk_42_method_154_code 14 = .ok (.goto 4, 3) := by decide +kernel
theorem d1_18 : decode jdk_42_method_154_code 18 = .ok (.ireturn, 1) := by decide +kernel
theorem ef_R1 (m : MethodId) (x0 : Addr) : entryFrame m #[(.ref x0)] 1 = mkF m 0 #[vR x0] [] := by first | (simp [entryFrame, mkF, argsToLocals, Value.category]; done) | rfl
theorem pn_java_lang_String : plainName "java/lang/String" = true := by first | (simp [plainName, overriddenIn]; done) | decide +kernel
set_option maxRecDepth 65536 in
set_option maxHeartbeats 40000000 in
theorem rm_Ql1 (l : Launch) (Z : State) (a0 : Array Value) (hw : ∀ d ∈ tables_1, d.before a0 Z = true) (o ar : Addr) (cs : Int32) (sf : Value) (iso u8 : Addr) (h0 : Heap) (n0 : Nat) (Z0 : n0 ≤ h0.size) (Od : Old Z n0 h0) (SS : own_SS Z cs sf iso u8) (Es : Exa Z h0 o "java/lang/String") (Fc : Fld Z h0 o "java/lang/String" "coder" "B" (.int 0)) (Fv : Fld Z h0 o "java/lang/String" "value" "[B" (.ref ar)) :
    own_MG l Z ((⟨"java/lang/String", "isLatin1", "()Z"⟩ : MethodName)) jdk_42_method_154_code 1 (some .boolean) ({ frames := 0, cells := 0, slots := 0, locals := 0 } : Room) #[(.ref o)] h0 (Ql1 Z o ar cs sf iso u8 h0 n0) := by
  refine own_mkG (plainFor_of_name pn_java_lang_String) ?_
  intro p e s m below meth c s₁ X0 hx hby hml hown hnm hret hlk hZ e0
  have N0 := Fr.nil n0
  rw [ef_R1 m o]
  have Scs := SS.1.ext Od.2
  obtain ⟨T1, X1, e1, st1⟩ := getS2 (host := "") X0 hx hZ hown (Or.inl (hw _ (own_mt 53 rfl))) Via.refl e0 Scs (g := (mkF m 0 #[vR o] [])) rfl (hb hby d1_0)
  refine own_vF m T1 3 #[vR o] [(.int cs)] (fun t k => st1 t k) ?_
  refine own_vF m T1 6 #[vR o] [] (fun t k => XS.ifNo X1.here hx rfl (hb hby d1_3) rfl ((if0 _ _).trans (feq SS.2.1).1) k) ?_
  refine own_vF m T1 7 #[vR o] [(.ref o)] (fun t k => XS.aloadN X1.here hx rfl (hb hby d1_6) rfl rfl k) ?_
  obtain ⟨T2, X2, e2, st2⟩ := getF (host := "") X1 hx hZ hown (Or.inl (hw _ (own_mt 37 rfl))) Via.refl e1 Fc (g := (mkF m 7 #[vR o] [(.ref o)])) rfl rfl (hb hby d1_7)
  refine own_vF m T2 10 #[vR o] [(.int 0)] (fun t k => st2 t k) ?_
  refine own_vF m T2 13 #[vR o] [] (fun t k => XS.ifNo X2.here hx rfl (hb hby d1_10) rfl ((if0 _ _).trans (teq (by decide : ((0 : Int32) = (0 : Int32)))).2) k) ?_
  refine own_vF m T2 14 #[vR o] [(.int 1)] (fun t k => XS.iconst X2.here hx rfl (hb hby d1_13) k) ?_
  refine own_vF m T2 18 #[vR o] [(.int 1)] (fun t k => XS.goto X2.here hx rfl (pc0 := 14) (pc' := 18) rfl (hb hby d1_14) (by decide) (by decide) k) ?_
  exact own_ret X2 (v := some (.int 1)) (fun h => by rw [hret] at h; cases h) hlk (fun fs hr => retN X2 hx (t := .boolean) hret (by simp) (hb hby d1_18) hr) (by rw [e2]; exact ⟨rfl, N0, rfl⟩) (by decide) (by decide)
def Qcd (Z : State) (o ar : Addr) (cs : Int32) (sf : Value) (iso u8 : Addr) (h0 : Heap) (n0 : Nat) (v : Option Value) (h : Heap) (L : List Loc) : Prop := v = some (.int 0) ∧ Fr n0 L ∧ h = h0
theorem d2_0 : decode jdk_42_method_152_code 0 = .ok (.getstatic 38, 3) := by decide +kernel
theorem d2_3 : decode jdk_42_method_152_code 3 = .ok (.ifCond .eq 10, 3) := by decide +kernel
theorem d2_6 : decode jdk_42_method_152_code 6 = .ok (.aload_n 0, 1) := by decide +kernel
theorem d2_7 : decode jdk_42_method_152_code 7 = .ok (.getfield 15, 3) := by decide +kernel
theorem d2_10 : decode jdk_42_method_152_code 10 = .ok (.goto 4, 3) := by decide +kernel
theorem d2_14 : decode jdk_42_method_152_code 14 = .ok (.ireturn, 1) := by decide +kernel
set_option maxRecDepth 65536 in
set_option maxHeartbeats 40000000 in
theorem rm_Qcd (l : Launch) (Z : State) (a0 : Array Value) (hw : ∀ d ∈ tables_1, d.before a0 Z = true) (o ar : Addr) (cs : Int32) (sf : Value) (iso u8 : Addr) (h0 : Heap) (n0 : Nat) (Z0 : n0 ≤ h0.size) (Od : Old Z n0 h0) (SS : own_SS Z cs sf iso u8) (Es : Exa Z h0 o "java/lang/String") (Fc : Fld Z h0 o "java/lang/String" "coder" "B" (.int 0)) (Fv : Fld Z h0 o "java/lang/String" "value" "[B" (.ref ar)) :
    own_MG l Z ((⟨"java/lang/String", "coder", "()B"⟩ : MethodName)) jdk_42_method_152_code 1 (some .byte) ({ frames := 0, cells := 0, slots := 0, locals := 0 } : Room) #[(.ref o)] h0 (Qcd Z o ar cs sf iso u8 h0 n0) := by
  refine own_mkG (plainFor_of_name pn_java_lang_String) ?_
  intro p e s m below meth c s₁ X0 hx hby hml hown hnm hret hlk hZ e0
  have N0 := Fr.nil n0
  rw [ef_R1 m o]
  have Scs := SS.1.ext Od.2
  obtain ⟨T1, X1, e1, st1⟩ := getS2 (host := "") X0 hx hZ hown (Or.inl (hw _ (own_mt 53 rfl))) Via.refl e0 Scs (g := (mkF m 0 #[vR o] [])) rfl (hb hby d2_0)
  refine own_vF m T1 3 #[vR o] [(.int cs)] (fun t k => st1 t k) ?_
  refine own_vF m T1 6 #[vR o] [] (fun t k => XS.ifNo X1.here hx rfl (hb hby d2_3) rfl ((if0 _ _).trans (feq SS.2.1).1) k) ?_
  refine own_vF m T1 7 #[vR o] [(.ref o)] (fun t k => XS.aloadN X1.here hx rfl (hb hby d2_6) rfl rfl k) ?_
  obtain ⟨T2, X2, e2, st2⟩ := getF (host := "") X1 hx hZ hown (Or.inl (hw _ (own_mt 37 rfl))) Via.refl e1 Fc (g := (mkF m 7 #[vR o] [(.ref o)])) rfl rfl (hb hby d2_7)
  refine own_vF m T2 10 #[vR o] [(.int 0)] (fun t k => st2 t k) ?_
  refine own_vF m T2 14 #[vR o] [(.int 0)] (fun t k => XS.goto X2.here hx rfl (pc0 := 10) (pc' := 14) rfl (hb hby d2_10) (by decide) (by decide) k) ?_
  exact own_ret X2 (v := some (.int 0)) (fun h => by rw [hret] at h; cases h) hlk (fun fs hr => retN X2 hx (t := .byte) hret (by simp) (hb hby d2_14) hr) (by rw [e2]; exact ⟨rfl, N0, rfl⟩) (by decide) (by decide)
def Qln0 (Z : State) (o ar : Addr) (kk : ClassId)  (cs : Int32) (sf : Value) (iso u8 : Addr) (h0 : Heap) (n0 : Nat) (v : Option Value) (h : Heap) (L : List Loc) : Prop := v = some (.int 0) ∧ Fr n0 L ∧ h = h0
theorem d3_0 : decode jdk_42_method_54_code 0 = .ok (.aload_n 0, 1) := by decide +kernel
theorem d3_1 : decode jdk_42_method_54_code 1 = .ok (.getfield 9, 3) := by decide +kernel
theorem d3_4 : decode jdk_42_method_54_code 4 = .ok (.arraylength, 1) := by decide +kernel
theorem d3_5 : decode jdk_42_method_54_code 5 = .ok (.aload_n 0, 1) := by decide +kernel
theorem pd___B : parseMethodDescriptor "()B" = some ⟨[], some .byte⟩ := by decide +kernel
theorem d3_6 : decode jdk_42_method_54_code 6 = .ok (.invokevirtual 335, 3) := by decide +kernel
theorem d3_9 : decode jdk_42_method_54_code 9 = .ok (.ishr, 1) := by decide +kernel
theorem d3_10 : decode jdk_42_method_54_code 10 = .ok (.ireturn, 1) := by decide +kernel
set_option maxRecDepth 65536 in
set_option maxHeartbeats 40000000 in
theorem rm_Qln0 (l : Launch) (Z : State) (a0 : Array Value) (hw : ∀ d ∈ tables_1, d.before a0 Z = true) (o ar : Addr) (kk : ClassId)  (cs : Int32) (sf : Value) (iso u8 : Addr) (h0 : Heap) (n0 : Nat) (Z0 : n0 ≤ h0.size) (Od : Old Z n0 h0) (SS : own_SS Z cs sf iso u8) (Es : Exa Z h0 o "java/lang/String") (Fc : Fld Z h0 o "java/lang/String" "coder" "B" (.int 0)) (Fv : Fld Z h0 o "java/lang/String" "value" "[B" (.ref ar)) (Va : Arv Z h0 ar kk .byte (0 : Int32) [] (.int 0)) :
    own_MG l Z ((⟨"java/lang/String", "length", "()I"⟩ : MethodName)) jdk_42_method_54_code 1 (some .int) ({ frames := 1, cells := 0, slots := 0, locals := 13 } : Room) #[(.ref o)] h0 (Qln0 Z o ar kk  cs sf iso u8 h0 n0) := by
  refine own_mkG (plainFor_of_name pn_java_lang_String) ?_
  intro p e s m below meth c s₁ X0 hx hby hml hown hnm hret hlk hZ e0
  have N0 := Fr.nil n0
  rw [ef_R1 m o]
  refine own_vF m s₁ 1 #[vR o] [(.ref o)] (fun t k => XS.aloadN X0.here hx rfl (hb hby d3_0) rfl rfl k) ?_
  obtain ⟨T1, X1, e1, st1⟩ := getF (host := "") X0 hx hZ hown (Or.inl (hw _ (own_mt 36 rfl))) Via.refl e0 Fv (g := (mkF m 1 #[vR o] [(.ref o)])) rfl rfl (hb hby d3_1)
  refine own_vF m T1 4 #[vR o] [(.ref ar)] (fun t k => st1 t k) ?_
  obtain ⟨c2, Ar2, q2a, q2b, q2c, q2d, q2e⟩ := id Va
  refine own_vF m T1 5 #[vR o] [(.int 0)] (fun t k => (fun t k => X1.arraylength hx (by rw [e1]; exact Ar2.1) (State.isArrayOf_alike hZ.alike Ar2.2.1) (g := (mkF m 4 #[vR o] [(.ref ar)])) rfl rfl (hb hby d3_4) t (by rw [len_of q2b q2c]; exact k)) t k) ?_
  refine own_vF m T1 6 #[vR o] [(.ref o), (.int 0)] (fun t k => XS.aloadN X1.here hx rfl (hb hby d3_5) rfl rfl k) ?_
  obtain ⟨_, T3, L3, X3, hQ3, st3⟩ := own_callV X1 hx hZ (y := (⟨"java/lang/String", "coder", "()B"⟩ : MethodName)) (W := 1) (C := "java/lang/String") hown (hw _ (own_mt 59 rfl)) (hw _ (own_mt 60 rfl)) (hw _ (own_mt 62 rfl)) (hw _ (own_mt 61 rfl)) (hw _ (own_mt 12 rfl)) (hw _ (own_mt 63 rfl)) (by decide) (rm_Qcd l Z a0 hw o ar cs sf iso u8 h0 n0 Z0 Od SS Es Fc Fv) (by decide) (by decide) e1 Es (g := (mkF m 6 #[vR o] [(.ref o), (.int 0)])) rfl (by rw [hml]; rfl) (argsL := []) (rest := [(.int 0)]) rfl (lenOf pd___B rfl) rfl own_w0 (hb hby d3_6) (by decide) (by decide)
  obtain ⟨rfl, N3q, e3⟩ := hQ3
  have N3 := Fr.app N0 N3q
  refine own_vF m T3 9 #[vR o] [(.int 0), (.int 0)] (fun t k => st3 t k) ?_
  refine own_vF m T3 10 #[vR o] [(.int ((0 : Int32) >>> ((0 : Int32) &&& 31)))] (fun t k => XS.ishr X3.here hx rfl (hb hby d3_9) rfl k) ?_
  rw [show ((0 : Int32) >>> ((0 : Int32) &&& 31)) = (0 : Int32) from by decide]
  exact own_ret X3 (v := some (.int 0)) (fun h => by rw [hret] at h; cases h) hlk (fun fs hr => retOut X3 hx (t := .int) hret rfl (Or.inl ⟨rfl, Or.inl rfl, _, rfl⟩) (hb hby d3_10) hr) (by rw [e3]; exact ⟨rfl, N3, rfl⟩) (by decide) (by decide)
def Qln1 (Z : State) (o ar : Addr) (kk : ClassId) (v1 : Int32) (cs : Int32) (sf : Value) (iso u8 : Addr) (h0 : Heap) (n0 : Nat) (v : Option Value) (h : Heap) (L : List Loc) : Prop := v = some (.int 1) ∧ Fr n0 L ∧ h = h0
set_option maxRecDepth 65536 in
set_option maxHeartbeats 40000000 in
theorem rm_Qln1 (l : Launch) (Z : State) (a0 : Array Value) (hw : ∀ d ∈ tables_1, d.before a0 Z = true) (o ar : Addr) (kk : ClassId) (v1 : Int32) (cs : Int32) (sf : Value) (iso u8 : Addr) (h0 : Heap) (n0 : Nat) (Z0 : n0 ≤ h0.size) (Od : Old Z n0 h0) (SS : own_SS Z cs sf iso u8) (Es : Exa Z h0 o "java/lang/String") (Fc : Fld Z h0 o "java/lang/String" "coder" "B" (.int 0)) (Fv : Fld Z h0 o "java/lang/String" "value" "[B" (.ref ar)) (Va : Arv Z h0 ar kk .byte (1 : Int32) [(.int v1)] (.int 0)) :
    own_MG l Z ((⟨"java/lang/String", "length", "()I"⟩ : MethodName)) jdk_42_method_54_code 1 (some .int) ({ frames := 1, cells := 0, slots := 0, locals := 13 } : Room) #[(.ref o)] h0 (Qln1 Z o ar kk v1 cs sf iso u8 h0 n0) := by
  refine own_mkG (plainFor_of_name pn_java_lang_String) ?_
  intro p e s m below meth c s₁ X0 hx hby hml hown hnm hret hlk hZ e0
  have N0 := Fr.nil n0
  rw [ef_R1 m o]
  refine own_vF m s₁ 1 #[vR o] [(.ref o)] (fun t k => XS.aloadN X0.here hx rfl (hb hby d3_0) rfl rfl k) ?_
  obtain ⟨T1, X1, e1, st1⟩ := getF (host := "") X0 hx hZ hown (Or.inl (hw _ (own_mt 36 rfl))) Via.refl e0 Fv (g := (mkF m 1 #[vR o] [(.ref o)])) rfl rfl (hb hby d3_1)
  refine own_vF m T1 4 #[vR o] [(.ref ar)] (fun t k => st1 t k) ?_
  obtain ⟨c2, Ar2, q2a, q2b, q2c, q2d, q2e⟩ := id Va
  refine own_vF m T1 5 #[vR o] [(.int 1)] (fun t k => (fun t k => X1.arraylength hx (by rw [e1]; exact Ar2.1) (State.isArrayOf_alike hZ.alike Ar2.2.1) (g := (mkF m 4 #[vR o] [(.ref ar)])) rfl rfl (hb hby d3_4) t (by rw [len_of q2b q2c]; exact k)) t k) ?_
  refine own_vF m T1 6 #[vR o] [(.ref o), (.int 1)] (fun t k => XS.aloadN X1.here hx rfl (hb hby d3_5) rfl rfl k) ?_
  obtain ⟨_, T3, L3, X3, hQ3, st3⟩ := own_callV X1 hx hZ (y := (⟨"java/lang/String", "coder", "()B"⟩ : MethodName)) (W := 1) (C := "java/lang/String") hown (hw _ (own_mt 59 rfl)) (hw _ (own_mt 60 rfl)) (hw _ (own_mt 62 rfl)) (hw _ (own_mt 61 rfl)) (hw _ (own_mt 12 rfl)) (hw _ (own_mt 63 rfl)) (by decide) (rm_Qcd l Z a0 hw o ar cs sf iso u8 h0 n0 Z0 Od SS Es Fc Fv) (by decide) (by decide) e1 Es (g := (mkF m 6 #[vR o] [(.ref o), (.int 1)])) rfl (by rw [hml]; rfl) (argsL := []) (rest := [(.int 1)]) rfl (lenOf pd___B rfl) rfl own_w0 (hb hby d3_6) (by decide) (by decide)
  obtain ⟨rfl, N3q, e3⟩ := hQ3
  have N3 := Fr.app N0 N3q
  refine own_vF m T3 9 #[vR o] [(.int 0), (.int 1)] (fun t k => st3 t k) ?_
  refine own_vF m T3 10 #[vR o] [(.int ((1 : Int32) >>> ((0 : Int32) &&& 31)))] (fun t k => XS.ishr X3.here hx rfl (hb hby d3_9) rfl k) ?_
  rw [show ((1 : Int32) >>> ((0 : Int32) &&& 31)) = (1 : Int32) from by decide]
  exact own_ret X3 (v := some (.int 1)) (fun h => by rw [hret] at h; cases h) hlk (fun fs hr => retOut X3 hx (t := .int) hret rfl (Or.inl ⟨rfl, Or.inl rfl, _, rfl⟩) (hb hby d3_10) hr) (by rw [e3]; exact ⟨rfl, N3, rfl⟩) (by decide) (by decide)
def Qln2 (Z : State) (o ar : Addr) (kk : ClassId) (v1 v2 : Int32) (cs : Int32) (sf : Value) (iso u8 : Addr) (h0 : Heap) (n0 : Nat) (v : Option Value) (h : Heap) (L : List Loc) : Prop := v = some (.int 2) ∧ Fr n0 L ∧ h = h0
set_option maxRecDepth 65536 in
set_option maxHeartbeats 40000000 in
theorem rm_Qln2 (l : Launch) (Z : State) (a0 : Array Value) (hw : ∀ d ∈ tables_1, d.before a0 Z = true) (o ar : Addr) (kk : ClassId) (v1 v2 : Int32) (cs : Int32) (sf : Value) (iso u8 : Addr) (h0 : Heap) (n0 : Nat) (Z0 : n0 ≤ h0.size) (Od : Old Z n0 h0) (SS : own_SS Z cs sf iso u8) (Es : Exa Z h0 o "java/lang/String") (Fc : Fld Z h0 o "java/lang/String" "coder" "B" (.int 0)) (Fv : Fld Z h0 o "java/lang/String" "value" "[B" (.ref ar)) (Va : Arv Z h0 ar kk .byte (2 : Int32) [(.int v1), (.int v2)] (.int 0)) :
    own_MG l Z ((⟨"java/lang/String", "length", "()I"⟩ : MethodName)) jdk_42_method_54_code 1 (some .int) ({ frames := 1, cells := 0, slots := 0, locals := 13 } : Room) #[(.ref o)] h0 (Qln2 Z o ar kk v1 v2 cs sf iso u8 h0 n0) := by
  refine own_mkG (plainFor_of_name pn_java_lang_String) ?_
  intro p e s m below meth c s₁ X0 hx hby hml hown hnm hret hlk hZ e0
  have N0 := Fr.nil n0
  rw [ef_R1 m o]
  refine own_vF m s₁ 1 #[vR o] [(.ref o)] (fun t k => XS.aloadN X0.here hx rfl (hb hby d3_0) rfl rfl k) ?_
  obtain ⟨T1, X1, e1, st1⟩ := getF (host := "") X0 hx hZ hown (Or.inl (hw _ (own_mt 36 rfl))) Via.refl e0 Fv (g := (mkF m 1 #[vR o] [(.ref o)])) rfl rfl (hb hby d3_1)
  refine own_vF m T1 4 #[vR o] [(.ref ar)] (fun t k => st1 t k) ?_
  obtain ⟨c2, Ar2, q2a, q2b, q2c, q2d, q2e⟩ := id Va
  refine own_vF m T1 5 #[vR o] [(.int 2)] (fun t k => (fun t k => X1.arraylength hx (by rw [e1]; exact Ar2.1) (State.isArrayOf_alike hZ.alike Ar2.2.1) (g := (mkF m 4 #[vR o] [(.ref ar)])) rfl rfl (hb hby d3_4) t (by rw [len_of q2b q2c]; exact k)) t k) ?_
  refine own_vF m T1 6 #[vR o] [(.ref o), (.int 2)] (fun t k => XS.aloadN X1.here hx rfl (hb hby d3_5) rfl rfl k) ?_
  obtain ⟨_, T3, L3, X3, hQ3, st3⟩ := own_callV X1 hx hZ (y := (⟨"java/lang/String", "coder", "()B"⟩ : MethodName)) (W := 1) (C := "java/lang/String") hown (hw _ (own_mt 59 rfl)) (hw _ (own_mt 60 rfl)) (hw _ (own_mt 62 rfl)) (hw _ (own_mt 61 rfl)) (hw _ (own_mt 12 rfl)) (hw _ (own_mt 63 rfl)) (by decide) (rm_Qcd l Z a0 hw o ar cs sf iso u8 h0 n0 Z0 Od SS Es Fc Fv) (by decide) (by decide) e1 Es (g := (mkF m 6 #[vR o] [(.ref o), (.int 2)])) rfl (by rw [hml]; rfl) (argsL := []) (rest := [(.int 2)]) rfl (lenOf pd___B rfl) rfl own_w0 (hb hby d3_6) (by decide) (by decide)
  obtain ⟨rfl, N3q, e3⟩ := hQ3
  have N3 := Fr.app N0 N3q
  refine own_vF m T3 9 #[vR o] [(.int 0), (.int 2)] (fun t k => st3 t k) ?_
  refine own_vF m T3 10 #[vR o] [(.int ((2 : Int32) >>> ((0 : Int32) &&& 31)))] (fun t k => XS.ishr X3.here hx rfl (hb hby d3_9) rfl k) ?_
  rw [show ((2 : Int32) >>> ((0 : Int32) &&& 31)) = (2 : Int32) from by decide]
  exact own_ret X3 (v := some (.int 2)) (fun h => by rw [hret] at h; cases h) hlk (fun fs hr => retOut X3 hx (t := .int) hret rfl (Or.inl ⟨rfl, Or.inl rfl, _, rfl⟩) (hb hby d3_10) hr) (by rw [e3]; exact ⟨rfl, N3, rfl⟩) (by decide) (by decide)
def Qln3 (Z : State) (o ar : Addr) (kk : ClassId) (v1 v2 v3 : Int32) (cs : Int32) (sf : Value) (iso u8 : Addr) (h0 : Heap) (n0 : Nat) (v : Option Value) (h : Heap) (L : List Loc) : Prop := v = some (.int 3) ∧ Fr n0 L ∧ h = h0
set_option maxRecDepth 65536 in
set_option maxHeartbeats 40000000 in
theorem rm_Qln3 (l : Launch) (Z : State) (a0 : Array Value) (hw : ∀ d ∈ tables_1, d.before a0 Z = true) (o ar : Addr) (kk : ClassId) (v1 v2 v3 : Int32) (cs : Int32) (sf : Value) (iso u8 : Addr) (h0 : Heap) (n0 : Nat) (Z0 : n0 ≤ h0.size) (Od : Old Z n0 h0) (SS : own_SS Z cs sf iso u8) (Es : Exa Z h0 o "java/lang/String") (Fc : Fld Z h0 o "java/lang/String" "coder" "B" (.int 0)) (Fv : Fld Z h0 o "java/lang/String" "value" "[B" (.ref ar)) (Va : Arv Z h0 ar kk .byte (3 : Int32) [(.int v1), (.int v2), (.int v3)] (.int 0)) :
    own_MG l Z ((⟨"java/lang/String", "length", "()I"⟩ : MethodName)) jdk_42_method_54_code 1 (some .int) ({ frames := 1, cells := 0, slots := 0, locals := 13 } : Room) #[(.ref o)] h0 (Qln3 Z o ar kk v1 v2 v3 cs sf iso u8 h0 n0) := by
  refine own_mkG (plainFor_of_name pn_java_lang_String) ?_
  intro p e s m below meth c s₁ X0 hx hby hml hown hnm hret hlk hZ e0
  have N0 := Fr.nil n0
  rw [ef_R1 m o]
  refine own_vF m s₁ 1 #[vR o] [(.ref o)] (fun t k => XS.aloadN X0.here hx rfl (hb hby d3_0) rfl rfl k) ?_
  obtain ⟨T1, X1, e1, st1⟩ := getF (host := "") X0 hx hZ hown (Or.inl (hw _ (own_mt 36 rfl))) Via.refl e0 Fv (g := (mkF m 1 #[vR o] [(.ref o)])) rfl rfl (hb hby d3_1)
  refine own_vF m T1 4 #[vR o] [(.ref ar)] (fun t k => st1 t k) ?_
  obtain ⟨c2, Ar2, q2a, q2b, q2c, q2d, q2e⟩ := id Va
  refine own_vF m T1 5 #[vR o] [(.int 3)] (fun t k => (fun t k => X1.arraylength hx (by rw [e1]; exact Ar2.1) (State.isArrayOf_alike hZ.alike Ar2.2.1) (g := (mkF m 4 #[vR o] [(.ref ar)])) rfl rfl (hb hby d3_4) t (by rw [len_of q2b q2c]; exact k)) t k) ?_
  refine own_vF m T1 6 #[vR o] [(.ref o), (.int 3)] (fun t k => XS.aloadN X1.here hx rfl (hb hby d3_5) rfl rfl k) ?_
  obtain ⟨_, T3, L3, X3, hQ3, st3⟩ := own_callV X1 hx hZ (y := (⟨"java/lang/String", "coder", "()B"⟩ : MethodName)) (W := 1) (C := "java/lang/String") hown (hw _ (own_mt 59 rfl)) (hw _ (own_mt 60 rfl)) (hw _ (own_mt 62 rfl)) (hw _ (own_mt 61 rfl)) (hw _ (own_mt 12 rfl)) (hw _ (own_mt 63 rfl)) (by decide) (rm_Qcd l Z a0 hw o ar cs sf iso u8 h0 n0 Z0 Od SS Es Fc Fv) (by decide) (by decide) e1 Es (g := (mkF m 6 #[vR o] [(.ref o), (.int 3)])) rfl (by rw [hml]; rfl) (argsL := []) (rest := [(.int 3)]) rfl (lenOf pd___B rfl) rfl own_w0 (hb hby d3_6) (by decide) (by decide)
  obtain ⟨rfl, N3q, e3⟩ := hQ3
  have N3 := Fr.app N0 N3q
  refine own_vF m T3 9 #[vR o] [(.int 0), (.int 3)] (fun t k => st3 t k) ?_
  refine own_vF m T3 10 #[vR o] [(.int ((3 : Int32) >>> ((0 : Int32) &&& 31)))] (fun t k => XS.ishr X3.here hx rfl (hb hby d3_9) rfl k) ?_
  rw [show ((3 : Int32) >>> ((0 : Int32) &&& 31)) = (3 : Int32) from by decide]
  exact own_ret X3 (v := some (.int 3)) (fun h => by rw [hret] at h; cases h) hlk (fun fs hr => retOut X3 hx (t := .int) hret rfl (Or.inl ⟨rfl, Or.inl rfl, _, rfl⟩) (hb hby d3_10) hr) (by rw [e3]; exact ⟨rfl, N3, rfl⟩) (by decide) (by decide)
def Qln4 (Z : State) (o ar : Addr) (kk : ClassId) (v1 v2 v3 v4 : Int32) (cs : Int32) (sf : Value) (iso u8 : Addr) (h0 : Heap) (n0 : Nat) (v : Option Value) (h : Heap) (L : List Loc) : Prop := v = some (.int 4) ∧ Fr n0 L ∧ h = h0
set_option maxRecDepth 65536 in
set_option maxHeartbeats 40000000 in
theorem rm_Qln4 (l : Launch) (Z : State) (a0 : Array Value) (hw : ∀ d ∈ tables_1, d.before a0 Z = true) (o ar : Addr) (kk : ClassId) (v1 v2 v3 v4 : Int32) (cs : Int32) (sf : Value) (iso u8 : Addr) (h0 : Heap) (n0 : Nat) (Z0 : n0 ≤ h0.size) (Od : Old Z n0 h0) (SS : own_SS Z cs sf iso u8) (Es : Exa Z h0 o "java/lang/String") (Fc : Fld Z h0 o "java/lang/String" "coder" "B" (.int 0)) (Fv : Fld Z h0 o "java/lang/String" "value" "[B" (.ref ar)) (Va : Arv Z h0 ar kk .byte (4 : Int32) [(.int v1), (.int v2), (.int v3), (.int v4)] (.int 0)) :
    own_MG l Z ((⟨"java/lang/String", "length", "()I"⟩ : MethodName)) jdk_42_method_54_code 1 (some .int) ({ frames := 1, cells := 0, slots := 0, locals := 13 } : Room) #[(.ref o)] h0 (Qln4 Z o ar kk v1 v2 v3 v4 cs sf iso u8 h0 n0) := by
  refine own_mkG (plainFor_of_name pn_java_lang_String) ?_
  intro p e s m below meth c s₁ X0 hx hby hml hown hnm hret hlk hZ e0
  have N0 := Fr.nil n0
  rw [ef_R1 m o]
  refine own_vF m s₁ 1 #[vR o] [(.ref o)] (fun t k => XS.aloadN X0.here hx rfl (hb hby d3_0) rfl rfl k) ?_
  obtain ⟨T1, X1, e1, st1⟩ := getF (host := "") X0 hx hZ hown (Or.inl (hw _ (own_mt 36 rfl))) Via.refl e0 Fv (g := (mkF m 1 #[vR o] [(.ref o)])) rfl rfl (hb hby d3_1)
  refine own_vF m T1 4 #[vR o] [(.ref ar)] (fun t k => st1 t k) ?_
  obtain ⟨c2, Ar2, q2a, q2b, q2c, q2d, q2e⟩ := id Va
  refine own_vF m T1 5 #[vR o] [(.int 4)] (fun t k => (fun t k => X1.arraylength hx (by rw [e1]; exact Ar2.1) (State.isArrayOf_alike hZ.alike Ar2.2.1) (g := (mkF m 4 #[vR o] [(.ref ar)])) rfl rfl (hb hby d3_4) t (by rw [len_of q2b q2c]; exact k)) t k) ?_
  refine own_vF m T1 6 #[vR o] [(.ref o), (.int 4)] (fun t k => XS.aloadN X1.here hx rfl (hb hby d3_5) rfl rfl k) ?_
  obtain ⟨_, T3, L3, X3, hQ3, st3⟩ := own_callV X1 hx hZ (y := (⟨"java/lang/String", "coder", "()B"⟩ : MethodName)) (W := 1) (C := "java/lang/String") hown (hw _ (own_mt 59 rfl)) (hw _ (own_mt 60 rfl)) (hw _ (own_mt 62 rfl)) (hw _ (own_mt 61 rfl)) (hw _ (own_mt 12 rfl)) (hw _ (own_mt 63 rfl)) (by decide) (rm_Qcd l Z a0 hw o ar cs sf iso u8 h0 n0 Z0 Od SS Es Fc Fv) (by decide) (by decide) e1 Es (g := (mkF m 6 #[vR o] [(.ref o), (.int 4)])) rfl (by rw [hml]; rfl) (argsL := []) (rest := [(.int 4)]) rfl (lenOf pd___B rfl) rfl own_w0 (hb hby d3_6) (by decide) (by decide)
  obtain ⟨rfl, N3q, e3⟩ := hQ3
  have N3 := Fr.app N0 N3q
  refine own_vF m T3 9 #[vR o] [(.int 0), (.int 4)] (fun t k => st3 t k) ?_
  refine own_vF m T3 10 #[vR o] [(.int ((4 : Int32) >>> ((0 : Int32) &&& 31)))] (fun t k => XS.ishr X3.here hx rfl (hb hby d3_9) rfl k) ?_
  rw [show ((4 : Int32) >>> ((0 : Int32) &&& 31)) = (4 : Int32) from by decide]
  exact own_ret X3 (v := some (.int 4)) (fun h => by rw [hret] at h; cases h) hlk (fun fs hr => retOut X3 hx (t := .int) hret rfl (Or.inl ⟨rfl, Or.inl rfl, _, rfl⟩) (hb hby d3_10) hr) (by rw [e3]; exact ⟨rfl, N3, rfl⟩) (by decide) (by decide)
def Qmax (Z : State) (x1 x2 : Int32) (h0 : Heap) (n0 : Nat) (v : Option Value) (h : Heap) (L : List Loc) : Prop := v = some (.int (if x1 < x2 then x2 else x1)) ∧ Fr n0 L ∧ h = h0
theorem d4_0 : decode jdk_29_method_65_code 0 = .ok (.iload_n 0, 1) := by decide +kernel
theorem d4_1 : decode jdk_29_method_65_code 1 = .ok (.iload_n 1, 1) := by decide +kernel
theorem d4_2 : decode jdk_29_method_65_code 2 = .ok (.if_icmp .lt 7, 3) := by decide +kernel
theorem d4_9 : decode jdk_29_method_65_code 9 = .ok (.iload_n 1, 1) := by decide +kernel
theorem d4_10 : decode jdk_29_method_65_code 10 = .ok (.ireturn, 1) := by decide +kernel
theorem d4_5 : decode jdk_29_method_65_code 5 = .ok (.iload_n 0, 1) := by decide +kernel
theorem d4_6 : decode jdk_29_method_65_code 6 = .ok (.goto 4, 3) := by decide +kernel
theorem ef_II2 (m : MethodId) (x0 : Int32) (x1 : Int32) : entryFrame m #[(.int x0), (.int x1)] 2 = mkF m 0 #[vI x0, vI x1] [] := by first | (simp [entryFrame, mkF, argsToLocals, Value.category]; done) | rfl
set_option maxRecDepth 65536 in
set_option maxHeartbeats 40000000 in
theorem rm_Qmax (l : Launch) (Z : State) (a0 : Array Value) (hw : ∀ d ∈ tables_1, d.before a0 Z = true) (x1 x2 : Int32) (h0 : Heap) (n0 : Nat) (Z0 : n0 ≤ h0.size) :
    own_MG l Z ((⟨"java/lang/Math", "max", "(II)I"⟩ : MethodName)) jdk_29_method_65_code 2 (some .int) ({ frames := 0, cells := 0, slots := 0, locals := 0 } : Room) #[(.int x1), (.int x2)] h0 (Qmax Z x1 x2 h0 n0) := by
  refine own_mkG (Jvm.Free.JP.mathPlain rfl (by decide +kernel)) ?_
  intro p e s m below meth c s₁ X0 hx hby hml hown hnm hret hlk hZ e0
  have N0 := Fr.nil n0
  rw [ef_II2 m x1 x2]
  refine own_vF m s₁ 1 #[vI x1, vI x2] [(.int x1)] (fun t k => XS.iloadN X0.here hx rfl (hb hby d4_0) rfl k) ?_
  refine own_vF m s₁ 2 #[vI x1, vI x2] [(.int x2), (.int x1)] (fun t k => XS.iloadN X0.here hx rfl (hb hby d4_1) rfl k) ?_
  by_cases hc1 : x1 < x2
  case pos =>
    refine own_vF m s₁ 9 #[vI x1, vI x2] [] (fun t k => XS.icmpYes X0.here hx rfl (pc0 := 2) (pc' := 9) rfl (hb hby d4_2) rfl (tlt hc1).1 (by decide) (by decide) k) ?_
    refine own_vF m s₁ 10 #[vI x1, vI x2] [(.int x2)] (fun t k => XS.iloadN X0.here hx rfl (hb hby d4_9) rfl k) ?_
    exact own_ret X0 (v := some (.int x2)) (fun h => by rw [hret] at h; cases h) hlk (fun fs hr => retOut X0 hx (t := .int) hret rfl (Or.inl ⟨rfl, Or.inl rfl, _, rfl⟩) (hb hby d4_10) hr) (by rw [e0]; exact ⟨by first | rfl | (simp only [if_pos hc1]), N0, rfl⟩) (by decide) (by decide)
  case neg =>
    refine own_vF m s₁ 5 #[vI x1, vI x2] [] (fun t k => XS.icmpNo X0.here hx rfl (hb hby d4_2) rfl (flt hc1).1 k) ?_
    refine own_vF m s₁ 6 #[vI x1, vI x2] [(.int x1)] (fun t k => XS.iloadN X0.here hx rfl (hb hby d4_5) rfl k) ?_
    refine own_vF m s₁ 10 #[vI x1, vI x2] [(.int x1)] (fun t k => XS.goto X0.here hx rfl (pc0 := 6) (pc' := 10) rfl (hb hby d4_6) (by decide) (by decide) k) ?_
    exact own_ret X0 (v := some (.int x1)) (fun h => by rw [hret] at h; cases h) hlk (fun fs hr => retOut X0 hx (t := .int) hret rfl (Or.inl ⟨rfl, Or.inl rfl, _, rfl⟩) (hb hby d4_10) hr) (by rw [e0]; exact ⟨by first | rfl | (simp only [if_neg hc1]), N0, rfl⟩) (by decide) (by decide)
def Qmin (Z : State) (x1 x2 : Int32) (h0 : Heap) (n0 : Nat) (v : Option Value) (h : Heap) (L : List Loc) : Prop := v = some (.int (if x2 < x1 then x2 else x1)) ∧ Fr n0 L ∧ h = h0
theorem d5_0 : decode jdk_29_method_69_code 0 = .ok (.iload_n 0, 1) := by decide +kernel
theorem d5_1 : decode jdk_29_method_69_code 1 = .ok (.iload_n 1, 1) := by decide +kernel
theorem d5_2 : decode jdk_29_method_69_code 2 = .ok (.if_icmp .gt 7, 3) := by decide +kernel
theorem d5_9 : decode jdk_29_method_69_code 9 = .ok (.iload_n 1, 1) := by decide +kernel
theorem d5_10 : decode jdk_29_method_69_code 10 = .ok (.ireturn, 1) := by decide +kernel
theorem d5_5 : decode jdk_29_method_69_code 5 = .ok (.iload_n 0, 1) := by decide +kernel
theorem d5_6 : decode jdk_29_method_69_code 6 = .ok (.goto 4, 3) := by decide +kernel
set_option maxRecDepth 65536 in
set_option maxHeartbeats 40000000 in
theorem rm_Qmin (l : Launch) (Z : State) (a0 : Array Value) (hw : ∀ d ∈ tables_1, d.before a0 Z = true) (x1 x2 : Int32) (h0 : Heap) (n0 : Nat) (Z0 : n0 ≤ h0.size) :
    own_MG l Z ((⟨"java/lang/Math", "min", "(II)I"⟩ : MethodName)) jdk_29_method_69_code 2 (some .int) ({ frames := 0, cells := 0, slots := 0, locals := 0 } : Room) #[(.int x1), (.int x2)] h0 (Qmin Z x1 x2 h0 n0) := by
  refine own_mkG (Jvm.Free.JP.mathPlain rfl (by decide +kernel)) ?_
  intro p e s m below meth c s₁ X0 hx hby hml hown hnm hret hlk hZ e0
  have N0 := Fr.nil n0
  rw [ef_II2 m x1 x2]
  refine own_vF m s₁ 1 #[vI x1, vI x2] [(.int x1)] (fun t k => XS.iloadN X0.here hx rfl (hb hby d5_0) rfl k) ?_
  refine own_vF m s₁ 2 #[vI x1, vI x2] [(.int x2), (.int x1)] (fun t k => XS.iloadN X0.here hx rfl (hb hby d5_1) rfl k) ?_
  by_cases hc1 : x2 < x1
  case pos =>
    refine own_vF m s₁ 9 #[vI x1, vI x2] [] (fun t k => XS.icmpYes X0.here hx rfl (pc0 := 2) (pc' := 9) rfl (hb hby d5_2) rfl (tlt hc1).2.2.1 (by decide) (by decide) k) ?_
    refine own_vF m s₁ 10 #[vI x1, vI x2] [(.int x2)] (fun t k => XS.iloadN X0.here hx rfl (hb hby d5_9) rfl k) ?_
    exact own_ret X0 (v := some (.int x2)) (fun h => by rw [hret] at h; cases h) hlk (fun fs hr => retOut X0 hx (t := .int) hret rfl (Or.inl ⟨rfl, Or.inl rfl, _, rfl⟩) (hb hby d5_10) hr) (by rw [e0]; exact ⟨by first | rfl | (simp only [if_pos hc1]), N0, rfl⟩) (by decide) (by decide)
  case neg =>
    refine own_vF m s₁ 5 #[vI x1, vI x2] [] (fun t k => XS.icmpNo X0.here hx rfl (hb hby d5_2) rfl (flt hc1).2.2.1 k) ?_
    refine own_vF m s₁ 6 #[vI x1, vI x2] [(.int x1)] (fun t k => XS.iloadN X0.here hx rfl (hb hby d5_5) rfl k) ?_
    refine own_vF m s₁ 10 #[vI x1, vI x2] [(.int x1)] (fun t k => XS.goto X0.here hx rfl (pc0 := 6) (pc' := 10) rfl (hb hby d5_6) (by decide) (by decide) k) ?_
    exact own_ret X0 (v := some (.int x1)) (fun h => by rw [hret] at h; cases h) hlk (fun fs hr => retOut X0 hx (t := .int) hret rfl (Or.inl ⟨rfl, Or.inl rfl, _, rfl⟩) (hb hby d5_10) hr) (by rw [e0]; exact ⟨by first | rfl | (simp only [if_neg hc1]), N0, rfl⟩) (by decide) (by decide)
def Qce (Z : State)  (h0 : Heap) (n0 : Nat) (v : Option Value) (h : Heap) (L : List Loc) : Prop := v = some (.int 1) ∧ Fr n0 L ∧ h = h0
theorem d6_0 : decode jdk_43_method_4_code 0 = .ok (.iload_n 0, 1) := by decide +kernel
theorem d6_1 : decode jdk_43_method_4_code 1 = .ok (.ifCond .lt 14, 3) := by decide +kernel
theorem d6_4 : decode jdk_43_method_4_code 4 = .ok (.iload_n 0, 1) := by decide +kernel
theorem d6_5 : decode jdk_43_method_4_code 5 = .ok (.sipush 255, 3) := by decide +kernel
theorem d6_8 : decode jdk_43_method_4_code 8 = .ok (.if_icmp .gt 7, 3) := by decide +kernel
theorem d6_11 : decode jdk_43_method_4_code 11 = .ok (.iconst 1, 1) := by decide +kernel
theorem d6_12 : decode jdk_43_method_4_code 12 = .ok (.goto 4, 3) := by decide +kernel
theorem d6_16 : decode jdk_43_method_4_code 16 = .ok (.ireturn, 1) := by decide +kernel
theorem ef_I1 (m : MethodId) (x0 : Int32) : entryFrame m #[(.int x0)] 1 = mkF m 0 #[vI x0] [] := by first | (simp [entryFrame, mkF, argsToLocals, Value.category]; done) | rfl
theorem pn_java_lang_StringLatin1 : plainName "java/lang/StringLatin1" = true := by first | (simp [plainName, overriddenIn]; done) | decide +kernel
set_option maxRecDepth 65536 in
set_option maxHeartbeats 40000000 in
theorem rm_Qce (l : Launch) (Z : State) (a0 : Array Value) (hw : ∀ d ∈ tables_1, d.before a0 Z = true)  (h0 : Heap) (n0 : Nat) (Z0 : n0 ≤ h0.size) :
    own_MG l Z ((⟨"java/lang/StringLatin1", "canEncode", "(I)Z"⟩ : MethodName)) jdk_43_method_4_code 1 (some .boolean) ({ frames := 0, cells := 0, slots := 0, locals := 0 } : Room) #[(.int 61)] h0 (Qce Z  h0 n0) := by
  refine own_mkG (plainFor_of_name pn_java_lang_StringLatin1) ?_
  intro p e s m below meth c s₁ X0 hx hby hml hown hnm hret hlk hZ e0
  have N0 := Fr.nil n0
  rw [ef_I1 m (61 : Int32)]
  refine own_vF m s₁ 1 #[vI (61 : Int32)] [(.int 61)] (fun t k => XS.iloadN X0.here hx rfl (hb hby d6_0) rfl k) ?_
  refine own_vF m s₁ 4 #[vI (61 : Int32)] [] (fun t k => XS.ifNo X0.here hx rfl (hb hby d6_1) rfl ((if0 _ _).trans (flt (by decide : ¬ ((61 : Int32) < (0 : Int32)))).1) k) ?_
  refine own_vF m s₁ 5 #[vI (61 : Int32)] [(.int 61)] (fun t k => XS.iloadN X0.here hx rfl (hb hby d6_4) rfl k) ?_
  refine own_vF m s₁ 8 #[vI (61 : Int32)] [(.int 255), (.int 61)] (fun t k => XS.sipush X0.here hx rfl (hb hby d6_5) k) ?_
  refine own_vF m s₁ 11 #[vI (61 : Int32)] [] (fun t k => XS.icmpNo X0.here hx rfl (hb hby d6_8) rfl (flt (by decide : ¬ ((255 : Int32) < (61 : Int32)))).2.2.1 k) ?_
  refine own_vF m s₁ 12 #[vI (61 : Int32)] [(.int 1)] (fun t k => XS.iconst X0.here hx rfl (hb hby d6_11) k) ?_
  refine own_vF m s₁ 16 #[vI (61 : Int32)] [(.int 1)] (fun t k => XS.goto X0.here hx rfl (pc0 := 12) (pc' := 16) rfl (hb hby d6_12) (by decide) (by decide) k) ?_
  exact own_ret X0 (v := some (.int 1)) (fun h => by rw [hret] at h; cases h) hlk (fun fs hr => retN X0 hx (t := .boolean) hret (by simp) (hb hby d6_16) hr) (by rw [e0]; exact ⟨rfl, N0, rfl⟩) (by decide) (by decide)
theorem own_hEL {Z : State} {a0 : Array Value} (hw : ∀ d ∈ tables_1, d.before a0 Z = true) : EW Z a0 own_EL := EW.cons (hw _ (own_mt 31 rfl)) (fun c hc => by simp at hc) (EW.cons (hw _ (own_mt 146 rfl)) (fun c hc => by simp at hc) EW.nil)
theorem own_wS {Z : State} {a0 : Array Value} (hw : ∀ d ∈ tables_1, d.before a0 Z = true) : ∀ d ∈ Bundle.stringAtoms, d.before a0 Z = true := fun d hd => by
  simp only [Bundle.stringAtoms, Bundle.sN, List.mem_cons, List.not_mem_nil, or_false] at hd
  rcases hd with rfl | rfl | rfl | rfl | rfl | rfl | rfl
  · exact (hw _ (own_mt 12 rfl))
  · exact (hw _ (own_mt 11 rfl))
  · exact (hw _ (own_mt 5 rfl))
  · exact (hw _ (own_mt 32 rfl))
  · exact (hw _ (own_mt 33 rfl))
  · exact (hw _ (own_mt 34 rfl))
  · exact (hw _ (own_mt 35 rfl))
def Qpk (Z : State) (x1 x2 x3 : Int32) (h0 : Heap) (n0 : Nat) (v : Option Value) (h : Heap) (L : List Loc) : Prop := ∃ r : Int32, v = some (.int r) ∧ r.toInt8.toInt32 = r ∧ Fr n0 L ∧ h = h0
theorem own_b8 (x : Int32) : (nar .byte x.toInt8.toInt32).toInt8.toInt32 = nar .byte x.toInt8.toInt32 := by simp [nar]
theorem d7_0 : decode method_2_code 0 = .ok (.iload_n 1, 1) := by decide +kernel
theorem d7_1 : decode method_2_code 1 = .ok (.iload_n 2, 1) := by decide +kernel
theorem d7_2 : decode method_2_code 2 = .ok (.ishr, 1) := by decide +kernel
theorem d7_3 : decode method_2_code 3 = .ok (.iconst 1, 1) := by decide +kernel
theorem d7_4 : decode method_2_code 4 = .ok (.iand, 1) := by decide +kernel
theorem d7_5 : decode method_2_code 5 = .ok (.ifCond .eq 6, 3) := by decide +kernel
theorem d7_11 : decode method_2_code 11 = .ok (.iload_n 0, 1) := by decide +kernel
theorem d7_12 : decode method_2_code 12 = .ok (.i2b, 1) := by decide +kernel
theorem d7_13 : decode method_2_code 13 = .ok (.ireturn, 1) := by decide +kernel
theorem d7_8 : decode method_2_code 8 = .ok (.bipush 61, 2) := by decide +kernel
theorem d7_10 : decode method_2_code 10 = .ok (.ireturn, 1) := by decide +kernel
theorem ef_III3 (m : MethodId) (x0 : Int32) (x1 : Int32) (x2 : Int32) : entryFrame m #[(.int x0), (.int x1), (.int x2)] 3 = mkF m 0 #[vI x0, vI x1, vI x2] [] := by first | (simp [entryFrame, mkF, argsToLocals, Value.category]; done) | rfl
theorem pn_com_example_bdelloid_bdelloid_os_EnvironmentNamePinLaw : plainName "com/example/bdelloid/bdelloid/os/EnvironmentNamePinLaw" = true := by first | (simp [plainName, overriddenIn]; done) | decide +kernel
set_option maxRecDepth 65536 in
set_option maxHeartbeats 40000000 in
theorem rm_Qpk (l : Launch) (Z : State) (a0 : Array Value) (hw : ∀ d ∈ tables_1, d.before a0 Z = true) (x1 x2 x3 : Int32) (h0 : Heap) (n0 : Nat) (Z0 : n0 ≤ h0.size) :
    own_MG l Z ((⟨"com/example/bdelloid/bdelloid/os/EnvironmentNamePinLaw", "pick", "(III)B"⟩ : MethodName)) method_2_code 3 (some .byte) ({ frames := 0, cells := 0, slots := 0, locals := 0 } : Room) #[(.int x1), (.int x2), (.int x3)] h0 (Qpk Z x1 x2 x3 h0 n0) := by
  refine own_mkG (plainFor_of_name pn_com_example_bdelloid_bdelloid_os_EnvironmentNamePinLaw) ?_
  intro p e s m below meth c s₁ X0 hx hby hml hown hnm hret hlk hZ e0
  have N0 := Fr.nil n0
  rw [ef_III3 m x1 x2 x3]
  refine own_vF m s₁ 1 #[vI x1, vI x2, vI x3] [(.int x2)] (fun t k => XS.iloadN X0.here hx rfl (hb hby d7_0) rfl k) ?_
  refine own_vF m s₁ 2 #[vI x1, vI x2, vI x3] [(.int x3), (.int x2)] (fun t k => XS.iloadN X0.here hx rfl (hb hby d7_1) rfl k) ?_
  refine own_vF m s₁ 3 #[vI x1, vI x2, vI x3] [(.int (x2 >>> (x3 &&& 31)))] (fun t k => XS.ishr X0.here hx rfl (hb hby d7_2) rfl k) ?_
  refine own_vF m s₁ 4 #[vI x1, vI x2, vI x3] [(.int 1), (.int (x2 >>> (x3 &&& 31)))] (fun t k => XS.iconst X0.here hx rfl (hb hby d7_3) k) ?_
  refine own_vF m s₁ 5 #[vI x1, vI x2, vI x3] [(.int ((x2 >>> (x3 &&& 31)) &&& (1 : Int32)))] (fun t k => XS.iand X0.here hx rfl (hb hby d7_4) rfl k) ?_
  by_cases hc1 : ((x2 >>> (x3 &&& 31)) &&& (1 : Int32)) = (0 : Int32)
  case pos =>
    refine own_vF m s₁ 11 #[vI x1, vI x2, vI x3] [] (fun t k => XS.ifYes X0.here hx rfl (pc0 := 5) (pc' := 11) rfl (hb hby d7_5) rfl ((if0 _ _).trans (teq hc1).1) (by decide) (by decide) k) ?_
    refine own_vF m s₁ 12 #[vI x1, vI x2, vI x3] [(.int x1)] (fun t k => XS.iloadN X0.here hx rfl (hb hby d7_11) rfl k) ?_
    refine own_vF m s₁ 13 #[vI x1, vI x2, vI x3] [(.int (x1.toInt8.toInt32))] (fun t k => XS.i2b X0.here hx rfl (hb hby d7_12) rfl k) ?_
    exact own_ret X0 (v := some (.int (nar .byte (x1.toInt8.toInt32)))) (fun h => by rw [hret] at h; cases h) hlk (fun fs hr => retN X0 hx (t := .byte) hret (by simp) (hb hby d7_13) hr) (by rw [e0]; exact ⟨_, rfl, own_b8 _, N0, rfl⟩) (by decide) (by decide)
  case neg =>
    refine own_vF m s₁ 8 #[vI x1, vI x2, vI x3] [] (fun t k => XS.ifNo X0.here hx rfl (hb hby d7_5) rfl ((if0 _ _).trans (feq hc1).1) k) ?_
    refine own_vF m s₁ 10 #[vI x1, vI x2, vI x3] [(.int 61)] (fun t k => XS.bipush X0.here hx rfl (hb hby d7_8) k) ?_
    exact own_ret X0 (v := some (.int 61)) (fun h => by rw [hret] at h; cases h) hlk (fun fs hr => retN X0 hx (t := .byte) hret (by simp) (hb hby d7_10) hr) (by rw [e0]; exact ⟨61, rfl, by decide, N0, rfl⟩) (by decide) (by decide)
def Qlx0 (Z : State) (ar : Addr) (kk : ClassId)  (h0 : Heap) (n0 : Nat) (v : Option Value) (h : Heap) (L : List Loc) : Prop := v = some (.int (-1)) ∧ Fr n0 L ∧ h = h0
theorem d8_0 : decode jdk_43_method_22_code 0 = .ok (.iload_n 1, 1) := by decide +kernel
theorem pd_I__Z : parseMethodDescriptor "(I)Z" = some ⟨[.int], some .boolean⟩ := by decide +kernel
theorem d8_1 : decode jdk_43_method_22_code 1 = .ok (.invokestatic 88, 3) := by decide +kernel
theorem d8_4 : decode jdk_43_method_22_code 4 = .ok (.ifCond .ne 5, 3) := by decide +kernel
theorem d8_9 : decode jdk_43_method_22_code 9 = .ok (.iload_n 2, 1) := by decide +kernel
theorem d8_10 : decode jdk_43_method_22_code 10 = .ok (.iconst 0, 1) := by decide +kernel
theorem pd_II__I : parseMethodDescriptor "(II)I" = some ⟨[.int, .int], some .int⟩ := by decide +kernel
theorem d8_11 : decode jdk_43_method_22_code 11 = .ok (.invokestatic 92, 3) := by decide +kernel
theorem d8_14 : decode jdk_43_method_22_code 14 = .ok (.istore_n 2, 1) := by decide +kernel
theorem d8_15 : decode jdk_43_method_22_code 15 = .ok (.iload_n 3, 1) := by decide +kernel
theorem d8_16 : decode jdk_43_method_22_code 16 = .ok (.aload_n 0, 1) := by decide +kernel
theorem d8_17 : decode jdk_43_method_22_code 17 = .ok (.arraylength, 1) := by decide +kernel
theorem d8_18 : decode jdk_43_method_22_code 18 = .ok (.invokestatic 38, 3) := by decide +kernel
theorem d8_21 : decode jdk_43_method_22_code 21 = .ok (.istore_n 3, 1) := by decide +kernel
theorem d8_22 : decode jdk_43_method_22_code 22 = .ok (.iload_n 2, 1) := by decide +kernel
theorem d8_23 : decode jdk_43_method_22_code 23 = .ok (.iload_n 3, 1) := by decide +kernel
theorem d8_24 : decode jdk_43_method_22_code 24 = .ok (.if_icmp .lt 5, 3) := by decide +kernel
theorem d8_27 : decode jdk_43_method_22_code 27 = .ok (.iconst (-1), 1) := by decide +kernel
theorem d8_28 : decode jdk_43_method_22_code 28 = .ok (.ireturn, 1) := by decide +kernel
theorem ef_RIII4 (m : MethodId) (x0 : Addr) (x1 : Int32) (x2 : Int32) (x3 : Int32) : entryFrame m #[(.ref x0), (.int x1), (.int x2), (.int x3)] 4 = mkF m 0 #[vR x0, vI x1, vI x2, vI x3] [] := by first | (simp [entryFrame, mkF, argsToLocals, Value.category]; done) | rfl
set_option maxRecDepth 65536 in
set_option maxHeartbeats 40000000 in
theorem rm_Qlx0 (l : Launch) (Z : State) (a0 : Array Value) (hw : ∀ d ∈ tables_1, d.before a0 Z = true) (ar : Addr) (kk : ClassId)  (h0 : Heap) (n0 : Nat) (Z0 : n0 ≤ h0.size) (Va : Arv Z h0 ar kk .byte (0 : Int32) [] (.int 0)) :
    own_MG l Z ((⟨"java/lang/StringLatin1", "indexOf", "([BIII)I"⟩ : MethodName)) jdk_43_method_22_code 4 (some .int) ({ frames := 1, cells := 0, slots := 0, locals := 13 } : Room) #[(.ref ar), (.int 61), (.int 0), (.int 0)] h0 (Qlx0 Z ar kk  h0 n0) := by
  refine own_mkG (plainFor_of_name pn_java_lang_StringLatin1) ?_
  intro p e s m below meth c s₁ X0 hx hby hml hown hnm hret hlk hZ e0
  have N0 := Fr.nil n0
  rw [ef_RIII4 m ar (61 : Int32) (0 : Int32) (0 : Int32)]
  refine own_vF m s₁ 1 #[vR ar, vI (61 : Int32), vI (0 : Int32), vI (0 : Int32)] [(.int 61)] (fun t k => XS.iloadN X0.here hx rfl (hb hby d8_0) rfl k) ?_
  obtain ⟨_, T1, L1, X1, hQ1, st1⟩ := own_callS X0 hx hZ (y := (⟨"java/lang/StringLatin1", "canEncode", "(I)Z"⟩ : MethodName)) (W := 0) hown (hw _ (own_mt 68 rfl)) (hw _ (own_mt 69 rfl)) (hw _ (own_mt 66 rfl)) (hw _ (own_mt 70 rfl)) (by decide) (rm_Qce l Z a0 hw  h0 n0 Z0) (by decide) (by decide) e0 (g := (mkF m 1 #[vR ar, vI (61 : Int32), vI (0 : Int32), vI (0 : Int32)] [(.int 61)])) rfl (by rw [hml]; rfl) (argsL := [(.int 61)]) (rest := []) rfl (lenOf pd_I__Z rfl) rfl own_w0 (hb hby d8_1) (by decide) (by decide)
  obtain ⟨rfl, N1q, e1⟩ := hQ1
  have N1 := Fr.app N0 N1q
  refine own_vF m T1 4 #[vR ar, vI (61 : Int32), vI (0 : Int32), vI (0 : Int32)] [(.int 1)] (fun t k => st1 t k) ?_
  refine own_vF m T1 9 #[vR ar, vI (61 : Int32), vI (0 : Int32), vI (0 : Int32)] [] (fun t k => XS.ifYes X1.here hx rfl (pc0 := 4) (pc' := 9) rfl (hb hby d8_4) rfl ((if0 _ _).trans (feq (by decide : ¬ ((1 : Int32) = (0 : Int32)))).2) (by decide) (by decide) k) ?_
  refine own_vF m T1 10 #[vR ar, vI (61 : Int32), vI (0 : Int32), vI (0 : Int32)] [(.int 0)] (fun t k => XS.iloadN X1.here hx rfl (hb hby d8_9) rfl k) ?_
  refine own_vF m T1 11 #[vR ar, vI (61 : Int32), vI (0 : Int32), vI (0 : Int32)] [(.int 0), (.int 0)] (fun t k => XS.iconst X1.here hx rfl (hb hby d8_10) k) ?_
  obtain ⟨_, T2, L2, X2, hQ2, st2⟩ := own_callS X1 hx hZ (y := (⟨"java/lang/Math", "max", "(II)I"⟩ : MethodName)) (W := 0) hown (hw _ (own_mt 71 rfl)) (hw _ (own_mt 72 rfl)) (hw _ (own_mt 73 rfl)) (hw _ (own_mt 74 rfl)) (by decide) (rm_Qmax l Z a0 hw (0 : Int32) (0 : Int32) h0 n0 Z0) (by decide) (by decide) e1 (g := (mkF m 11 #[vR ar, vI (61 : Int32), vI (0 : Int32), vI (0 : Int32)] [(.int 0), (.int 0)])) rfl (by rw [hml]; rfl) (argsL := [(.int 0), (.int 0)]) (rest := []) rfl (lenOf pd_II__I rfl) rfl own_w0 (hb hby d8_11) (by decide) (by decide)
  obtain ⟨rfl, N2q, e2⟩ := hQ2
  have N2 := Fr.app N1 N2q
  refine own_vF m T2 14 #[vR ar, vI (61 : Int32), vI (0 : Int32), vI (0 : Int32)] [(.int (if (0 : Int32) < (0 : Int32) then (0 : Int32) else (0 : Int32)))] (fun t k => st2 t k) ?_
  rw [show (if (0 : Int32) < (0 : Int32) then (0 : Int32) else (0 : Int32)) = (0 : Int32) from by decide]
  refine own_vF m T2 15 #[vR ar, vI (61 : Int32), vI (0 : Int32), vI (0 : Int32)] [] (fun t k => XS.istoreN X2.here hx rfl (hb hby d8_14) rfl (l' := #[vR ar, vI (61 : Int32), vI (0 : Int32), vI (0 : Int32)]) rfl k) ?_
  refine own_vF m T2 16 #[vR ar, vI (61 : Int32), vI (0 : Int32), vI (0 : Int32)] [(.int 0)] (fun t k => XS.iloadN X2.here hx rfl (hb hby d8_15) rfl k) ?_
  refine own_vF m T2 17 #[vR ar, vI (61 : Int32), vI (0 : Int32), vI (0 : Int32)] [(.ref ar), (.int 0)] (fun t k => XS.aloadN X2.here hx rfl (hb hby d8_16) rfl rfl k) ?_
  obtain ⟨c3, Ar3, q3a, q3b, q3c, q3d, q3e⟩ := id Va
  refine own_vF m T2 18 #[vR ar, vI (61 : Int32), vI (0 : Int32), vI (0 : Int32)] [(.int 0), (.int 0)] (fun t k => (fun t k => X2.arraylength hx (by rw [e2]; exact Ar3.1) (State.isArrayOf_alike hZ.alike Ar3.2.1) (g := (mkF m 17 #[vR ar, vI (61 : Int32), vI (0 : Int32), vI (0 : Int32)] [(.ref ar), (.int 0)])) rfl rfl (hb hby d8_17) t (by rw [len_of q3b q3c]; exact k)) t k) ?_
  obtain ⟨_, T4, L4, X4, hQ4, st4⟩ := own_callS X2 hx hZ (y := (⟨"java/lang/Math", "min", "(II)I"⟩ : MethodName)) (W := 0) hown (hw _ (own_mt 75 rfl)) (hw _ (own_mt 76 rfl)) (hw _ (own_mt 73 rfl)) (hw _ (own_mt 77 rfl)) (by decide) (rm_Qmin l Z a0 hw (0 : Int32) (0 : Int32) h0 n0 Z0) (by decide) (by decide) e2 (g := (mkF m 18 #[vR ar, vI (61 : Int32), vI (0 : Int32), vI (0 : Int32)] [(.int 0), (.int 0)])) rfl (by rw [hml]; rfl) (argsL := [(.int 0), (.int 0)]) (rest := []) rfl (lenOf pd_II__I rfl) rfl own_w0 (hb hby d8_18) (by decide) (by decide)
  obtain ⟨rfl, N4q, e4⟩ := hQ4
  have N4 := Fr.app N2 N4q
  refine own_vF m T4 21 #[vR ar, vI (61 : Int32), vI (0 : Int32), vI (0 : Int32)] [(.int (if (0 : Int32) < (0 : Int32) then (0 : Int32) else (0 : Int32)))] (fun t k => st4 t k) ?_
  rw [show (if (0 : Int32) < (0 : Int32) then (0 : Int32) else (0 : Int32)) = (0 : Int32) from by decide]
  refine own_vF m T4 22 #[vR ar, vI (61 : Int32), vI (0 : Int32), vI (0 : Int32)] [] (fun t k => XS.istoreN X4.here hx rfl (hb hby d8_21) rfl (l' := #[vR ar, vI (61 : Int32), vI (0 : Int32), vI (0 : Int32)]) rfl k) ?_
  refine own_vF m T4 23 #[vR ar, vI (61 : Int32), vI (0 : Int32), vI (0 : Int32)] [(.int 0)] (fun t k => XS.iloadN X4.here hx rfl (hb hby d8_22) rfl k) ?_
  refine own_vF m T4 24 #[vR ar, vI (61 : Int32), vI (0 : Int32), vI (0 : Int32)] [(.int 0), (.int 0)] (fun t k => XS.iloadN X4.here hx rfl (hb hby d8_23) rfl k) ?_
  refine own_vF m T4 27 #[vR ar, vI (61 : Int32), vI (0 : Int32), vI (0 : Int32)] [] (fun t k => XS.icmpNo X4.here hx rfl (hb hby d8_24) rfl (flt (by decide : ¬ ((0 : Int32) < (0 : Int32)))).1 k) ?_
  refine own_vF m T4 28 #[vR ar, vI (61 : Int32), vI (0 : Int32), vI (0 : Int32)] [(.int (-1))] (fun t k => XS.iconst X4.here hx rfl (hb hby d8_27) k) ?_
  exact own_ret X4 (v := some (.int (-1))) (fun h => by rw [hret] at h; cases h) hlk (fun fs hr => retOut X4 hx (t := .int) hret rfl (Or.inl ⟨rfl, Or.inl rfl, _, rfl⟩) (hb hby d8_28) hr) (by rw [e4]; exact ⟨rfl, N4, rfl⟩) (by decide) (by decide)
def Qx20 (Z : State) (o ar : Addr) (kk : ClassId)  (cs : Int32) (sf : Value) (iso u8 : Addr) (h0 : Heap) (n0 : Nat) (v : Option Value) (h : Heap) (L : List Loc) : Prop := v = some (.int (-1)) ∧ Fr n0 L ∧ h = h0
theorem d9_0 : decode jdk_42_method_80_code 0 = .ok (.aload_n 0, 1) := by decide +kernel
theorem pd___Z : parseMethodDescriptor "()Z" = some ⟨[], some .boolean⟩ := by decide +kernel
theorem d9_1 : decode jdk_42_method_80_code 1 = .ok (.invokevirtual 492, 3) := by decide +kernel
theorem d9_4 : decode jdk_42_method_80_code 4 = .ok (.ifCond .eq 19, 3) := by decide +kernel
theorem d9_7 : decode jdk_42_method_80_code 7 = .ok (.aload_n 0, 1) := by decide +kernel
theorem d9_8 : decode jdk_42_method_80_code 8 = .ok (.getfield 9, 3) := by decide +kernel
theorem d9_11 : decode jdk_42_method_80_code 11 = .ok (.iload_n 1, 1) := by decide +kernel
theorem d9_12 : decode jdk_42_method_80_code 12 = .ok (.iload_n 2, 1) := by decide +kernel
theorem d9_13 : decode jdk_42_method_80_code 13 = .ok (.aload_n 0, 1) := by decide +kernel
theorem pd___I : parseMethodDescriptor "()I" = some ⟨[], some .int⟩ := by decide +kernel
theorem d9_14 : decode jdk_42_method_80_code 14 = .ok (.invokevirtual 505, 3) := by decide +kernel
theorem pd_ABIII__I : parseMethodDescriptor "([BIII)I" = some ⟨[(.array .byte), .int, .int, .int], some .int⟩ := by decide +kernel
theorem d9_17 : decode jdk_42_method_80_code 17 = .ok (.invokestatic 637, 3) := by decide +kernel
theorem d9_20 : decode jdk_42_method_80_code 20 = .ok (.goto 16, 3) := by decide +kernel
theorem d9_36 : decode jdk_42_method_80_code 36 = .ok (.ireturn, 1) := by decide +kernel
theorem ef_RII3 (m : MethodId) (x0 : Addr) (x1 : Int32) (x2 : Int32) : entryFrame m #[(.ref x0), (.int x1), (.int x2)] 3 = mkF m 0 #[vR x0, vI x1, vI x2] [] := by first | (simp [entryFrame, mkF, argsToLocals, Value.category]; done) | rfl
set_option maxRecDepth 65536 in
set_option maxHeartbeats 40000000 in
theorem rm_Qx20 (l : Launch) (Z : State) (a0 : Array Value) (hw : ∀ d ∈ tables_1, d.before a0 Z = true) (o ar : Addr) (kk : ClassId)  (cs : Int32) (sf : Value) (iso u8 : Addr) (h0 : Heap) (n0 : Nat) (Z0 : n0 ≤ h0.size) (Od : Old Z n0 h0) (SS : own_SS Z cs sf iso u8) (Es : Exa Z h0 o "java/lang/String") (Fc : Fld Z h0 o "java/lang/String" "coder" "B" (.int 0)) (Fv : Fld Z h0 o "java/lang/String" "value" "[B" (.ref ar)) (Va : Arv Z h0 ar kk .byte (0 : Int32) [] (.int 0)) :
    own_MG l Z ((⟨"java/lang/String", "indexOf", "(II)I"⟩ : MethodName)) jdk_42_method_80_code 3 (some .int) ({ frames := 2, cells := 0, slots := 0, locals := 28 } : Room) #[(.ref o), (.int 61), (.int 0)] h0 (Qx20 Z o ar kk  cs sf iso u8 h0 n0) := by
  refine own_mkG (plainFor_of_name pn_java_lang_String) ?_
  intro p e s m below meth c s₁ X0 hx hby hml hown hnm hret hlk hZ e0
  have N0 := Fr.nil n0
  rw [ef_RII3 m o (61 : Int32) (0 : Int32)]
  refine own_vF m s₁ 1 #[vR o, vI (61 : Int32), vI (0 : Int32)] [(.ref o)] (fun t k => XS.aloadN X0.here hx rfl (hb hby d9_0) rfl rfl k) ?_
  obtain ⟨_, T1, L1, X1, hQ1, st1⟩ := own_callV X0 hx hZ (y := (⟨"java/lang/String", "isLatin1", "()Z"⟩ : MethodName)) (W := 0) (C := "java/lang/String") hown (hw _ (own_mt 48 rfl)) (hw _ (own_mt 49 rfl)) (hw _ (own_mt 51 rfl)) (hw _ (own_mt 50 rfl)) (hw _ (own_mt 12 rfl)) (hw _ (own_mt 52 rfl)) (by decide) (rm_Ql1 l Z a0 hw o ar cs sf iso u8 h0 n0 Z0 Od SS Es Fc Fv) (by decide) (by decide) e0 Es (g := (mkF m 1 #[vR o, vI (61 : Int32), vI (0 : Int32)] [(.ref o)])) rfl (by rw [hml]; rfl) (argsL := []) (rest := []) rfl (lenOf pd___Z rfl) rfl own_w0 (hb hby d9_1) (by decide) (by decide)
  obtain ⟨rfl, N1q, e1⟩ := hQ1
  have N1 := Fr.app N0 N1q
  refine own_vF m T1 4 #[vR o, vI (61 : Int32), vI (0 : Int32)] [(.int 1)] (fun t k => st1 t k) ?_
  refine own_vF m T1 7 #[vR o, vI (61 : Int32), vI (0 : Int32)] [] (fun t k => XS.ifNo X1.here hx rfl (hb hby d9_4) rfl ((if0 _ _).trans (feq (by decide : ¬ ((1 : Int32) = (0 : Int32)))).1) k) ?_
  refine own_vF m T1 8 #[vR o, vI (61 : Int32), vI (0 : Int32)] [(.ref o)] (fun t k => XS.aloadN X1.here hx rfl (hb hby d9_7) rfl rfl k) ?_
  obtain ⟨T2, X2, e2, st2⟩ := getF (host := "") X1 hx hZ hown (Or.inl (hw _ (own_mt 36 rfl))) Via.refl e1 Fv (g := (mkF m 8 #[vR o, vI (61 : Int32), vI (0 : Int32)] [(.ref o)])) rfl rfl (hb hby d9_8)
  refine own_vF m T2 11 #[vR o, vI (61 : Int32), vI (0 : Int32)] [(.ref ar)] (fun t k => st2 t k) ?_
  refine own_vF m T2 12 #[vR o, vI (61 : Int32), vI (0 : Int32)] [(.int 61), (.ref ar)] (fun t k => XS.iloadN X2.here hx rfl (hb hby d9_11) rfl k) ?_
  refine own_vF m T2 13 #[vR o, vI (61 : Int32), vI (0 : Int32)] [(.int 0), (.int 61), (.ref ar)] (fun t k => XS.iloadN X2.here hx rfl (hb hby d9_12) rfl k) ?_
  refine own_vF m T2 14 #[vR o, vI (61 : Int32), vI (0 : Int32)] [(.ref o), (.int 0), (.int 61), (.ref ar)] (fun t k => XS.aloadN X2.here hx rfl (hb hby d9_13) rfl rfl k) ?_
  obtain ⟨_, T3, L3, X3, hQ3, st3⟩ := own_callV X2 hx hZ (y := (⟨"java/lang/String", "length", "()I"⟩ : MethodName)) (W := 3) (C := "java/lang/String") hown (hw _ (own_mt 54 rfl)) (hw _ (own_mt 55 rfl)) (hw _ (own_mt 57 rfl)) (hw _ (own_mt 56 rfl)) (hw _ (own_mt 12 rfl)) (hw _ (own_mt 58 rfl)) (by decide) (rm_Qln0 l Z a0 hw o ar kk  cs sf iso u8 h0 n0 Z0 Od SS Es Fc Fv Va) (by decide) (by decide) e2 Es (g := (mkF m 14 #[vR o, vI (61 : Int32), vI (0 : Int32)] [(.ref o), (.int 0), (.int 61), (.ref ar)])) rfl (by rw [hml]; rfl) (argsL := []) (rest := [(.int 0), (.int 61), (.ref ar)]) rfl (lenOf pd___I rfl) rfl own_w0 (hb hby d9_14) (by decide) (by decide)
  obtain ⟨rfl, N3q, e3⟩ := hQ3
  have N3 := Fr.app N1 N3q
  refine own_vF m T3 17 #[vR o, vI (61 : Int32), vI (0 : Int32)] [(.int 0), (.int 0), (.int 61), (.ref ar)] (fun t k => st3 t k) ?_
  obtain ⟨_, T4, L4, X4, hQ4, st4⟩ := own_callS X3 hx hZ (y := (⟨"java/lang/StringLatin1", "indexOf", "([BIII)I"⟩ : MethodName)) (W := 0) hown (hw _ (own_mt 64 rfl)) (hw _ (own_mt 65 rfl)) (hw _ (own_mt 66 rfl)) (hw _ (own_mt 67 rfl)) (by decide) (rm_Qlx0 l Z a0 hw ar kk  h0 n0 Z0 Va) (by decide) (by decide) e3 (g := (mkF m 17 #[vR o, vI (61 : Int32), vI (0 : Int32)] [(.int 0), (.int 0), (.int 61), (.ref ar)])) rfl (by rw [hml]; rfl) (argsL := [(.ref ar), (.int 61), (.int 0), (.int 0)]) (rest := []) rfl (lenOf pd_ABIII__I rfl) rfl own_w0 (hb hby d9_17) (by decide) (by decide)
  obtain ⟨rfl, N4q, e4⟩ := hQ4
  have N4 := Fr.app N3 N4q
  refine own_vF m T4 20 #[vR o, vI (61 : Int32), vI (0 : Int32)] [(.int (-1))] (fun t k => st4 t k) ?_
  refine own_vF m T4 36 #[vR o, vI (61 : Int32), vI (0 : Int32)] [(.int (-1))] (fun t k => XS.goto X4.here hx rfl (pc0 := 20) (pc' := 36) rfl (hb hby d9_20) (by decide) (by decide) k) ?_
  exact own_ret X4 (v := some (.int (-1))) (fun h => by rw [hret] at h; cases h) hlk (fun fs hr => retOut X4 hx (t := .int) hret rfl (Or.inl ⟨rfl, Or.inl rfl, _, rfl⟩) (hb hby d9_36) hr) (by rw [e4]; exact ⟨rfl, N4, rfl⟩) (by decide) (by decide)
def Qx10 (Z : State) (o ar : Addr) (kk : ClassId)  (cs : Int32) (sf : Value) (iso u8 : Addr) (h0 : Heap) (n0 : Nat) (v : Option Value) (h : Heap) (L : List Loc) : Prop := v = some (.int (-1)) ∧ Fr n0 L ∧ h = h0
theorem d10_0 : decode jdk_42_method_79_code 0 = .ok (.aload_n 0, 1) := by decide +kernel
theorem d10_1 : decode jdk_42_method_79_code 1 = .ok (.iload_n 1, 1) := by decide +kernel
theorem d10_2 : decode jdk_42_method_79_code 2 = .ok (.iconst 0, 1) := by decide +kernel
theorem d10_3 : decode jdk_42_method_79_code 3 = .ok (.invokevirtual 633, 3) := by decide +kernel
theorem d10_6 : decode jdk_42_method_79_code 6 = .ok (.ireturn, 1) := by decide +kernel
theorem ef_RI2 (m : MethodId) (x0 : Addr) (x1 : Int32) : entryFrame m #[(.ref x0), (.int x1)] 2 = mkF m 0 #[vR x0, vI x1] [] := by first | (simp [entryFrame, mkF, argsToLocals, Value.category]; done) | rfl
set_option maxRecDepth 65536 in
set_option maxHeartbeats 40000000 in
theorem rm_Qx10 (l : Launch) (Z : State) (a0 : Array Value) (hw : ∀ d ∈ tables_1, d.before a0 Z = true) (o ar : Addr) (kk : ClassId)  (cs : Int32) (sf : Value) (iso u8 : Addr) (h0 : Heap) (n0 : Nat) (Z0 : n0 ≤ h0.size) (Od : Old Z n0 h0) (SS : own_SS Z cs sf iso u8) (Es : Exa Z h0 o "java/lang/String") (Fc : Fld Z h0 o "java/lang/String" "coder" "B" (.int 0)) (Fv : Fld Z h0 o "java/lang/String" "value" "[B" (.ref ar)) (Va : Arv Z h0 ar kk .byte (0 : Int32) [] (.int 0)) :
    own_MG l Z ((⟨"java/lang/String", "indexOf", "(I)I"⟩ : MethodName)) jdk_42_method_79_code 2 (some .int) ({ frames := 3, cells := 0, slots := 0, locals := 42 } : Room) #[(.ref o), (.int 61)] h0 (Qx10 Z o ar kk  cs sf iso u8 h0 n0) := by
  refine own_mkG (plainFor_of_name pn_java_lang_String) ?_
  intro p e s m below meth c s₁ X0 hx hby hml hown hnm hret hlk hZ e0
  have N0 := Fr.nil n0
  rw [ef_RI2 m o (61 : Int32)]
  refine own_vF m s₁ 1 #[vR o, vI (61 : Int32)] [(.ref o)] (fun t k => XS.aloadN X0.here hx rfl (hb hby d10_0) rfl rfl k) ?_
  refine own_vF m s₁ 2 #[vR o, vI (61 : Int32)] [(.int 61), (.ref o)] (fun t k => XS.iloadN X0.here hx rfl (hb hby d10_1) rfl k) ?_
  refine own_vF m s₁ 3 #[vR o, vI (61 : Int32)] [(.int 0), (.int 61), (.ref o)] (fun t k => XS.iconst X0.here hx rfl (hb hby d10_2) k) ?_
  obtain ⟨_, T1, L1, X1, hQ1, st1⟩ := own_callV X0 hx hZ (y := (⟨"java/lang/String", "indexOf", "(II)I"⟩ : MethodName)) (W := 0) (C := "java/lang/String") hown (hw _ (own_mt 43 rfl)) (hw _ (own_mt 44 rfl)) (hw _ (own_mt 46 rfl)) (hw _ (own_mt 45 rfl)) (hw _ (own_mt 12 rfl)) (hw _ (own_mt 47 rfl)) (by decide) (rm_Qx20 l Z a0 hw o ar kk  cs sf iso u8 h0 n0 Z0 Od SS Es Fc Fv Va) (by decide) (by decide) e0 Es (g := (mkF m 3 #[vR o, vI (61 : Int32)] [(.int 0), (.int 61), (.ref o)])) rfl (by rw [hml]; rfl) (argsL := [(.int 61), (.int 0)]) (rest := []) rfl (lenOf pd_II__I rfl) rfl own_w0 (hb hby d10_3) (by decide) (by decide)
  obtain ⟨rfl, N1q, e1⟩ := hQ1
  have N1 := Fr.app N0 N1q
  refine own_vF m T1 6 #[vR o, vI (61 : Int32)] [(.int (-1))] (fun t k => st1 t k) ?_
  exact own_ret X1 (v := some (.int (-1))) (fun h => by rw [hret] at h; cases h) hlk (fun fs hr => retOut X1 hx (t := .int) hret rfl (Or.inl ⟨rfl, Or.inl rfl, _, rfl⟩) (hb hby d10_6) hr) (by rw [e1]; exact ⟨rfl, N1, rfl⟩) (by decide) (by decide)
def Qic1 (Z : State) (ar : Addr) (kk : ClassId) (v1 : Int32) (h0 : Heap) (n0 : Nat) (v : Option Value) (h : Heap) (L : List Loc) : Prop := v = some (.int (if v1 = (61 : Int32) then (0 : Int32) else (-1 : Int32))) ∧ Fr n0 L ∧ h = h0
theorem d11_0 : decode jdk_43_method_23_code 0 = .ok (.iload_n 1, 1) := by decide +kernel
theorem d11_1 : decode jdk_43_method_23_code 1 = .ok (.i2b, 1) := by decide +kernel
theorem d11_2 : decode jdk_43_method_23_code 2 = .ok (.istore 4, 2) := by decide +kernel
theorem d11_4 : decode jdk_43_method_23_code 4 = .ok (.iload_n 2, 1) := by decide +kernel
theorem d11_5 : decode jdk_43_method_23_code 5 = .ok (.istore 5, 2) := by decide +kernel
theorem d11_7 : decode jdk_43_method_23_code 7 = .ok (.iload 5, 2) := by decide +kernel
theorem d11_9 : decode jdk_43_method_23_code 9 = .ok (.iload_n 3, 1) := by decide +kernel
theorem d11_10 : decode jdk_43_method_23_code 10 = .ok (.if_icmp .ge 21, 3) := by decide +kernel
theorem d11_13 : decode jdk_43_method_23_code 13 = .ok (.aload_n 0, 1) := by decide +kernel
theorem d11_14 : decode jdk_43_method_23_code 14 = .ok (.iload 5, 2) := by decide +kernel
theorem d11_16 : decode jdk_43_method_23_code 16 = .ok (.baload, 1) := by decide +kernel
theorem d11_17 : decode jdk_43_method_23_code 17 = .ok (.iload 4, 2) := by decide +kernel
theorem d11_19 : decode jdk_43_method_23_code 19 = .ok (.if_icmp .ne 6, 3) := by decide +kernel
theorem d11_22 : decode jdk_43_method_23_code 22 = .ok (.iload 5, 2) := by decide +kernel
theorem d11_24 : decode jdk_43_method_23_code 24 = .ok (.ireturn, 1) := by decide +kernel
theorem d11_25 : decode jdk_43_method_23_code 25 = .ok (.iinc 5 1, 3) := by decide +kernel
theorem d11_28 : decode jdk_43_method_23_code 28 = .ok (.goto (-21), 3) := by decide +kernel
theorem d11_31 : decode jdk_43_method_23_code 31 = .ok (.iconst (-1), 1) := by decide +kernel
theorem d11_32 : decode jdk_43_method_23_code 32 = .ok (.ireturn, 1) := by decide +kernel
theorem ef_RIII6 (m : MethodId) (x0 : Addr) (x1 : Int32) (x2 : Int32) (x3 : Int32) : entryFrame m #[(.ref x0), (.int x1), (.int x2), (.int x3)] 6 = mkF m 0 #[vR x0, vI x1, vI x2, vI x3, .unset, .unset] [] := by first | (simp [entryFrame, mkF, argsToLocals, Value.category]; done) | rfl
set_option maxRecDepth 65536 in
set_option maxHeartbeats 40000000 in
theorem rm_Qic1 (l : Launch) (Z : State) (a0 : Array Value) (hw : ∀ d ∈ tables_1, d.before a0 Z = true) (ar : Addr) (kk : ClassId) (v1 : Int32) (h0 : Heap) (n0 : Nat) (Z0 : n0 ≤ h0.size) (Va : Arv Z h0 ar kk .byte (1 : Int32) [(.int v1)] (.int 0)) :
    own_MG l Z ((⟨"java/lang/StringLatin1", "indexOfChar", "([BIII)I"⟩ : MethodName)) jdk_43_method_23_code 6 (some .int) ({ frames := 0, cells := 0, slots := 0, locals := 0 } : Room) #[(.ref ar), (.int 61), (.int 0), (.int 1)] h0 (Qic1 Z ar kk v1 h0 n0) := by
  refine own_mkG (plainFor_of_name pn_java_lang_StringLatin1) ?_
  intro p e s m below meth c s₁ X0 hx hby hml hown hnm hret hlk hZ e0
  have N0 := Fr.nil n0
  rw [ef_RIII6 m ar (61 : Int32) (0 : Int32) (1 : Int32)]
  refine own_vF m s₁ 1 #[vR ar, vI (61 : Int32), vI (0 : Int32), vI (1 : Int32), .unset, .unset] [(.int 61)] (fun t k => XS.iloadN X0.here hx rfl (hb hby d11_0) rfl k) ?_
  refine own_vF m s₁ 2 #[vR ar, vI (61 : Int32), vI (0 : Int32), vI (1 : Int32), .unset, .unset] [(.int ((61 : Int32).toInt8.toInt32))] (fun t k => XS.i2b X0.here hx rfl (hb hby d11_1) rfl k) ?_
  rw [show ((61 : Int32).toInt8.toInt32) = (61 : Int32) from by decide]
  refine own_vF m s₁ 4 #[vR ar, vI (61 : Int32), vI (0 : Int32), vI (1 : Int32), vI (61 : Int32), .unset] [] (fun t k => XS.istore X0.here hx rfl (hb hby d11_2) rfl (l' := #[vR ar, vI (61 : Int32), vI (0 : Int32), vI (1 : Int32), vI (61 : Int32), .unset]) rfl k) ?_
  refine own_vF m s₁ 5 #[vR ar, vI (61 : Int32), vI (0 : Int32), vI (1 : Int32), vI (61 : Int32), .unset] [(.int 0)] (fun t k => XS.iloadN X0.here hx rfl (hb hby d11_4) rfl k) ?_
  refine own_vF m s₁ 7 #[vR ar, vI (61 : Int32), vI (0 : Int32), vI (1 : Int32), vI (61 : Int32), vI (0 : Int32)] [] (fun t k => XS.istore X0.here hx rfl (hb hby d11_5) rfl (l' := #[vR ar, vI (61 : Int32), vI (0 : Int32), vI (1 : Int32), vI (61 : Int32), vI (0 : Int32)]) rfl k) ?_
  refine own_vF m s₁ 9 #[vR ar, vI (61 : Int32), vI (0 : Int32), vI (1 : Int32), vI (61 : Int32), vI (0 : Int32)] [(.int 0)] (fun t k => XS.iload X0.here hx rfl (hb hby d11_7) rfl k) ?_
  refine own_vF m s₁ 10 #[vR ar, vI (61 : Int32), vI (0 : Int32), vI (1 : Int32), vI (61 : Int32), vI (0 : Int32)] [(.int 1), (.int 0)] (fun t k => XS.iloadN X0.here hx rfl (hb hby d11_9) rfl k) ?_
  refine own_vF m s₁ 13 #[vR ar, vI (61 : Int32), vI (0 : Int32), vI (1 : Int32), vI (61 : Int32), vI (0 : Int32)] [] (fun t k => XS.icmpNo X0.here hx rfl (hb hby d11_10) rfl (tlt (by decide : ((0 : Int32) < (1 : Int32)))).2.1 k) ?_
  refine own_vF m s₁ 14 #[vR ar, vI (61 : Int32), vI (0 : Int32), vI (1 : Int32), vI (61 : Int32), vI (0 : Int32)] [(.ref ar)] (fun t k => XS.aloadN X0.here hx rfl (hb hby d11_13) rfl rfl k) ?_
  refine own_vF m s₁ 16 #[vR ar, vI (61 : Int32), vI (0 : Int32), vI (1 : Int32), vI (61 : Int32), vI (0 : Int32)] [(.int 0), (.ref ar)] (fun t k => XS.iload X0.here hx rfl (hb hby d11_14) rfl k) ?_
  obtain ⟨c1, Ar1, q1a, q1b, q1c, q1d, q1e⟩ := id Va
  refine own_vF m s₁ 17 #[vR ar, vI (61 : Int32), vI (0 : Int32), vI (1 : Int32), vI (61 : Int32), vI (0 : Int32)] [(.int v1)] (fun t k => X0.baloadBytes hx (j := (0 : Int32)) (v := (.int v1)) (by rw [e0]; exact Ar1.1) (State.isArrayOf_alike hZ.alike Ar1.2.1) Ar1.2.2 (inb_of q1b (by decide)) (q1d.at (inb_of q1b (by decide)) rfl) (g := (mkF m 16 #[vR ar, vI (61 : Int32), vI (0 : Int32), vI (1 : Int32), vI (61 : Int32), vI (0 : Int32)] [(.int 0), (.ref ar)])) rfl rfl (hb hby d11_16) _ k) ?_
  refine own_vF m s₁ 19 #[vR ar, vI (61 : Int32), vI (0 : Int32), vI (1 : Int32), vI (61 : Int32), vI (0 : Int32)] [(.int 61), (.int v1)] (fun t k => XS.iload X0.here hx rfl (hb hby d11_17) rfl k) ?_
  by_cases hc2 : v1 = (61 : Int32)
  case pos =>
    refine own_vF m s₁ 22 #[vR ar, vI (61 : Int32), vI (0 : Int32), vI (1 : Int32), vI (61 : Int32), vI (0 : Int32)] [] (fun t k => XS.icmpNo X0.here hx rfl (hb hby d11_19) rfl (teq hc2).2 k) ?_
    refine own_vF m s₁ 24 #[vR ar, vI (61 : Int32), vI (0 : Int32), vI (1 : Int32), vI (61 : Int32), vI (0 : Int32)] [(.int 0)] (fun t k => XS.iload X0.here hx rfl (hb hby d11_22) rfl k) ?_
    exact own_ret X0 (v := some (.int 0)) (fun h => by rw [hret] at h; cases h) hlk (fun fs hr => retOut X0 hx (t := .int) hret rfl (Or.inl ⟨rfl, Or.inl rfl, _, rfl⟩) (hb hby d11_24) hr) (by rw [e0]; exact ⟨by first | rfl | (simp only [if_pos hc2]), N0, rfl⟩) (by decide) (by decide)
  case neg =>
    refine own_vF m s₁ 25 #[vR ar, vI (61 : Int32), vI (0 : Int32), vI (1 : Int32), vI (61 : Int32), vI (0 : Int32)] [] (fun t k => XS.icmpYes X0.here hx rfl (pc0 := 19) (pc' := 25) rfl (hb hby d11_19) rfl (feq hc2).2 (by decide) (by decide) k) ?_
    refine own_vF m s₁ 28 #[vR ar, vI (61 : Int32), vI (0 : Int32), vI (1 : Int32), vI (61 : Int32), .val (.int ((0 : Int32) + (1 : Int32)))] [] (fun t k => XS.iinc X0.here hx rfl (hb hby d11_25) rfl (l' := #[vR ar, vI (61 : Int32), vI (0 : Int32), vI (1 : Int32), vI (61 : Int32), .val (.int ((0 : Int32) + (1 : Int32)))]) rfl k) ?_
    rw [show ((0 : Int32) + (1 : Int32)) = (1 : Int32) from by decide]
    refine own_vF m s₁ 7 #[vR ar, vI (61 : Int32), vI (0 : Int32), vI (1 : Int32), vI (61 : Int32), vI (1 : Int32)] [] (fun t k => XS.goto X0.here hx rfl (pc0 := 28) (pc' := 7) rfl (hb hby d11_28) (by decide) (by decide) k) ?_
    refine own_vF m s₁ 9 #[vR ar, vI (61 : Int32), vI (0 : Int32), vI (1 : Int32), vI (61 : Int32), vI (1 : Int32)] [(.int 1)] (fun t k => XS.iload X0.here hx rfl (hb hby d11_7) rfl k) ?_
    refine own_vF m s₁ 10 #[vR ar, vI (61 : Int32), vI (0 : Int32), vI (1 : Int32), vI (61 : Int32), vI (1 : Int32)] [(.int 1), (.int 1)] (fun t k => XS.iloadN X0.here hx rfl (hb hby d11_9) rfl k) ?_
    refine own_vF m s₁ 31 #[vR ar, vI (61 : Int32), vI (0 : Int32), vI (1 : Int32), vI (61 : Int32), vI (1 : Int32)] [] (fun t k => XS.icmpYes X0.here hx rfl (pc0 := 10) (pc' := 31) rfl (hb hby d11_10) rfl (flt (by decide : ¬ ((1 : Int32) < (1 : Int32)))).2.1 (by decide) (by decide) k) ?_
    refine own_vF m s₁ 32 #[vR ar, vI (61 : Int32), vI (0 : Int32), vI (1 : Int32), vI (61 : Int32), vI (1 : Int32)] [(.int (-1))] (fun t k => XS.iconst X0.here hx rfl (hb hby d11_31) k) ?_
    exact own_ret X0 (v := some (.int (-1))) (fun h => by rw [hret] at h; cases h) hlk (fun fs hr => retOut X0 hx (t := .int) hret rfl (Or.inl ⟨rfl, Or.inl rfl, _, rfl⟩) (hb hby d11_32) hr) (by rw [e0]; exact ⟨by first | rfl | (simp only [if_neg hc2]), N0, rfl⟩) (by decide) (by decide)
def Qlx1 (Z : State) (ar : Addr) (kk : ClassId) (v1 : Int32) (h0 : Heap) (n0 : Nat) (v : Option Value) (h : Heap) (L : List Loc) : Prop := v = some (.int (if v1 = (61 : Int32) then (0 : Int32) else (-1 : Int32))) ∧ Fr n0 L ∧ h = h0
theorem d8_29 : decode jdk_43_method_22_code 29 = .ok (.aload_n 0, 1) := by decide +kernel
theorem d8_30 : decode jdk_43_method_22_code 30 = .ok (.iload_n 1, 1) := by decide +kernel
theorem d8_31 : decode jdk_43_method_22_code 31 = .ok (.iload_n 2, 1) := by decide +kernel
theorem d8_32 : decode jdk_43_method_22_code 32 = .ok (.iload_n 3, 1) := by decide +kernel
theorem d8_33 : decode jdk_43_method_22_code 33 = .ok (.invokestatic 95, 3) := by decide +kernel
theorem d8_36 : decode jdk_43_method_22_code 36 = .ok (.ireturn, 1) := by decide +kernel
set_option maxRecDepth 65536 in
set_option maxHeartbeats 40000000 in
theorem rm_Qlx1 (l : Launch) (Z : State) (a0 : Array Value) (hw : ∀ d ∈ tables_1, d.before a0 Z = true) (ar : Addr) (kk : ClassId) (v1 : Int32) (h0 : Heap) (n0 : Nat) (Z0 : n0 ≤ h0.size) (Va : Arv Z h0 ar kk .byte (1 : Int32) [(.int v1)] (.int 0)) :
    own_MG l Z ((⟨"java/lang/StringLatin1", "indexOf", "([BIII)I"⟩ : MethodName)) jdk_43_method_22_code 4 (some .int) ({ frames := 1, cells := 0, slots := 0, locals := 17 } : Room) #[(.ref ar), (.int 61), (.int 0), (.int 1)] h0 (Qlx1 Z ar kk v1 h0 n0) := by
  refine own_mkG (plainFor_of_name pn_java_lang_StringLatin1) ?_
  intro p e s m below meth c s₁ X0 hx hby hml hown hnm hret hlk hZ e0
  have N0 := Fr.nil n0
  rw [ef_RIII4 m ar (61 : Int32) (0 : Int32) (1 : Int32)]
  refine own_vF m s₁ 1 #[vR ar, vI (61 : Int32), vI (0 : Int32), vI (1 : Int32)] [(.int 61)] (fun t k => XS.iloadN X0.here hx rfl (hb hby d8_0) rfl k) ?_
  obtain ⟨_, T1, L1, X1, hQ1, st1⟩ := own_callS X0 hx hZ (y := (⟨"java/lang/StringLatin1", "canEncode", "(I)Z"⟩ : MethodName)) (W := 0) hown (hw _ (own_mt 68 rfl)) (hw _ (own_mt 69 rfl)) (hw _ (own_mt 66 rfl)) (hw _ (own_mt 70 rfl)) (by decide) (rm_Qce l Z a0 hw  h0 n0 Z0) (by decide) (by decide) e0 (g := (mkF m 1 #[vR ar, vI (61 : Int32), vI (0 : Int32), vI (1 : Int32)] [(.int 61)])) rfl (by rw [hml]; rfl) (argsL := [(.int 61)]) (rest := []) rfl (lenOf pd_I__Z rfl) rfl own_w0 (hb hby d8_1) (by decide) (by decide)
  obtain ⟨rfl, N1q, e1⟩ := hQ1
  have N1 := Fr.app N0 N1q
  refine own_vF m T1 4 #[vR ar, vI (61 : Int32), vI (0 : Int32), vI (1 : Int32)] [(.int 1)] (fun t k => st1 t k) ?_
  refine own_vF m T1 9 #[vR ar, vI (61 : Int32), vI (0 : Int32), vI (1 : Int32)] [] (fun t k => XS.ifYes X1.here hx rfl (pc0 := 4) (pc' := 9) rfl (hb hby d8_4) rfl ((if0 _ _).trans (feq (by decide : ¬ ((1 : Int32) = (0 : Int32)))).2) (by decide) (by decide) k) ?_
  refine own_vF m T1 10 #[vR ar, vI (61 : Int32), vI (0 : Int32), vI (1 : Int32)] [(.int 0)] (fun t k => XS.iloadN X1.here hx rfl (hb hby d8_9) rfl k) ?_
  refine own_vF m T1 11 #[vR ar, vI (61 : Int32), vI (0 : Int32), vI (1 : Int32)] [(.int 0), (.int 0)] (fun t k => XS.iconst X1.here hx rfl (hb hby d8_10) k) ?_
  obtain ⟨_, T2, L2, X2, hQ2, st2⟩ := own_callS X1 hx hZ (y := (⟨"java/lang/Math", "max", "(II)I"⟩ : MethodName)) (W := 0) hown (hw _ (own_mt 71 rfl)) (hw _ (own_mt 72 rfl)) (hw _ (own_mt 73 rfl)) (hw _ (own_mt 74 rfl)) (by decide) (rm_Qmax l Z a0 hw (0 : Int32) (0 : Int32) h0 n0 Z0) (by decide) (by decide) e1 (g := (mkF m 11 #[vR ar, vI (61 : Int32), vI (0 : Int32), vI (1 : Int32)] [(.int 0), (.int 0)])) rfl (by rw [hml]; rfl) (argsL := [(.int 0), (.int 0)]) (rest := []) rfl (lenOf pd_II__I rfl) rfl own_w0 (hb hby d8_11) (by decide) (by decide)
  obtain ⟨rfl, N2q, e2⟩ := hQ2
  have N2 := Fr.app N1 N2q
  refine own_vF m T2 14 #[vR ar, vI (61 : Int32), vI (0 : Int32), vI (1 : Int32)] [(.int (if (0 : Int32) < (0 : Int32) then (0 : Int32) else (0 : Int32)))] (fun t k => st2 t k) ?_
  rw [show (if (0 : Int32) < (0 : Int32) then (0 : Int32) else (0 : Int32)) = (0 : Int32) from by decide]
  refine own_vF m T2 15 #[vR ar, vI (61 : Int32), vI (0 : Int32), vI (1 : Int32)] [] (fun t k => XS.istoreN X2.here hx rfl (hb hby d8_14) rfl (l' := #[vR ar, vI (61 : Int32), vI (0 : Int32), vI (1 : Int32)]) rfl k) ?_
  refine own_vF m T2 16 #[vR ar, vI (61 : Int32), vI (0 : Int32), vI (1 : Int32)] [(.int 1)] (fun t k => XS.iloadN X2.here hx rfl (hb hby d8_15) rfl k) ?_
  refine own_vF m T2 17 #[vR ar, vI (61 : Int32), vI (0 : Int32), vI (1 : Int32)] [(.ref ar), (.int 1)] (fun t k => XS.aloadN X2.here hx rfl (hb hby d8_16) rfl rfl k) ?_
  obtain ⟨c3, Ar3, q3a, q3b, q3c, q3d, q3e⟩ := id Va
  refine own_vF m T2 18 #[vR ar, vI (61 : Int32), vI (0 : Int32), vI (1 : Int32)] [(.int 1), (.int 1)] (fun t k => (fun t k => X2.arraylength hx (by rw [e2]; exact Ar3.1) (State.isArrayOf_alike hZ.alike Ar3.2.1) (g := (mkF m 17 #[vR ar, vI (61 : Int32), vI (0 : Int32), vI (1 : Int32)] [(.ref ar), (.int 1)])) rfl rfl (hb hby d8_17) t (by rw [len_of q3b q3c]; exact k)) t k) ?_
  obtain ⟨_, T4, L4, X4, hQ4, st4⟩ := own_callS X2 hx hZ (y := (⟨"java/lang/Math", "min", "(II)I"⟩ : MethodName)) (W := 0) hown (hw _ (own_mt 75 rfl)) (hw _ (own_mt 76 rfl)) (hw _ (own_mt 73 rfl)) (hw _ (own_mt 77 rfl)) (by decide) (rm_Qmin l Z a0 hw (1 : Int32) (1 : Int32) h0 n0 Z0) (by decide) (by decide) e2 (g := (mkF m 18 #[vR ar, vI (61 : Int32), vI (0 : Int32), vI (1 : Int32)] [(.int 1), (.int 1)])) rfl (by rw [hml]; rfl) (argsL := [(.int 1), (.int 1)]) (rest := []) rfl (lenOf pd_II__I rfl) rfl own_w0 (hb hby d8_18) (by decide) (by decide)
  obtain ⟨rfl, N4q, e4⟩ := hQ4
  have N4 := Fr.app N2 N4q
  refine own_vF m T4 21 #[vR ar, vI (61 : Int32), vI (0 : Int32), vI (1 : Int32)] [(.int (if (1 : Int32) < (1 : Int32) then (1 : Int32) else (1 : Int32)))] (fun t k => st4 t k) ?_
  rw [show (if (1 : Int32) < (1 : Int32) then (1 : Int32) else (1 : Int32)) = (1 : Int32) from by decide]
  refine own_vF m T4 22 #[vR ar, vI (61 : Int32), vI (0 : Int32), vI (1 : Int32)] [] (fun t k => XS.istoreN X4.here hx rfl (hb hby d8_21) rfl (l' := #[vR ar, vI (61 : Int32), vI (0 : Int32), vI (1 : Int32)]) rfl k) ?_
  refine own_vF m T4 23 #[vR ar, vI (61 : Int32), vI (0 : Int32), vI (1 : Int32)] [(.int 0)] (fun t k => XS.iloadN X4.here hx rfl (hb hby d8_22) rfl k) ?_
  refine own_vF m T4 24 #[vR ar, vI (61 : Int32), vI (0 : Int32), vI (1 : Int32)] [(.int 1), (.int 0)] (fun t k => XS.iloadN X4.here hx rfl (hb hby d8_23) rfl k) ?_
  refine own_vF m T4 29 #[vR ar, vI (61 : Int32), vI (0 : Int32), vI (1 : Int32)] [] (fun t k => XS.icmpYes X4.here hx rfl (pc0 := 24) (pc' := 29) rfl (hb hby d8_24) rfl (tlt (by decide : ((0 : Int32) < (1 : Int32)))).1 (by decide) (by decide) k) ?_
  refine own_vF m T4 30 #[vR ar, vI (61 : Int32), vI (0 : Int32), vI (1 : Int32)] [(.ref ar)] (fun t k => XS.aloadN X4.here hx rfl (hb hby d8_29) rfl rfl k) ?_
  refine own_vF m T4 31 #[vR ar, vI (61 : Int32), vI (0 : Int32), vI (1 : Int32)] [(.int 61), (.ref ar)] (fun t k => XS.iloadN X4.here hx rfl (hb hby d8_30) rfl k) ?_
  refine own_vF m T4 32 #[vR ar, vI (61 : Int32), vI (0 : Int32), vI (1 : Int32)] [(.int 0), (.int 61), (.ref ar)] (fun t k => XS.iloadN X4.here hx rfl (hb hby d8_31) rfl k) ?_
  refine own_vF m T4 33 #[vR ar, vI (61 : Int32), vI (0 : Int32), vI (1 : Int32)] [(.int 1), (.int 0), (.int 61), (.ref ar)] (fun t k => XS.iloadN X4.here hx rfl (hb hby d8_32) rfl k) ?_
  obtain ⟨_, T5, L5, X5, hQ5, st5⟩ := own_callS X4 hx hZ (y := (⟨"java/lang/StringLatin1", "indexOfChar", "([BIII)I"⟩ : MethodName)) (W := 0) hown (hw _ (own_mt 110 rfl)) (hw _ (own_mt 111 rfl)) (hw _ (own_mt 66 rfl)) (hw _ (own_mt 112 rfl)) (by decide) (rm_Qic1 l Z a0 hw ar kk v1 h0 n0 Z0 Va) (by decide) (by decide) e4 (g := (mkF m 33 #[vR ar, vI (61 : Int32), vI (0 : Int32), vI (1 : Int32)] [(.int 1), (.int 0), (.int 61), (.ref ar)])) rfl (by rw [hml]; rfl) (argsL := [(.ref ar), (.int 61), (.int 0), (.int 1)]) (rest := []) rfl (lenOf pd_ABIII__I rfl) rfl own_w0 (hb hby d8_33) (by decide) (by decide)
  obtain ⟨rfl, N5q, e5⟩ := hQ5
  have N5 := Fr.app N4 N5q
  refine own_vF m T5 36 #[vR ar, vI (61 : Int32), vI (0 : Int32), vI (1 : Int32)] [(.int (if v1 = (61 : Int32) then (0 : Int32) else (-1 : Int32)))] (fun t k => st5 t k) ?_
  exact own_ret X5 (v := some (.int (if v1 = (61 : Int32) then (0 : Int32) else (-1 : Int32)))) (fun h => by rw [hret] at h; cases h) hlk (fun fs hr => retOut X5 hx (t := .int) hret rfl (Or.inl ⟨rfl, Or.inl rfl, _, rfl⟩) (hb hby d8_36) hr) (by rw [e5]; exact ⟨rfl, N5, rfl⟩) (by decide) (by decide)
def Qx21 (Z : State) (o ar : Addr) (kk : ClassId) (v1 : Int32) (cs : Int32) (sf : Value) (iso u8 : Addr) (h0 : Heap) (n0 : Nat) (v : Option Value) (h : Heap) (L : List Loc) : Prop := v = some (.int (if v1 = (61 : Int32) then (0 : Int32) else (-1 : Int32))) ∧ Fr n0 L ∧ h = h0
set_option maxRecDepth 65536 in
set_option maxHeartbeats 40000000 in
theorem rm_Qx21 (l : Launch) (Z : State) (a0 : Array Value) (hw : ∀ d ∈ tables_1, d.before a0 Z = true) (o ar : Addr) (kk : ClassId) (v1 : Int32) (cs : Int32) (sf : Value) (iso u8 : Addr) (h0 : Heap) (n0 : Nat) (Z0 : n0 ≤ h0.size) (Od : Old Z n0 h0) (SS : own_SS Z cs sf iso u8) (Es : Exa Z h0 o "java/lang/String") (Fc : Fld Z h0 o "java/lang/String" "coder" "B" (.int 0)) (Fv : Fld Z h0 o "java/lang/String" "value" "[B" (.ref ar)) (Va : Arv Z h0 ar kk .byte (1 : Int32) [(.int v1)] (.int 0)) :
    own_MG l Z ((⟨"java/lang/String", "indexOf", "(II)I"⟩ : MethodName)) jdk_42_method_80_code 3 (some .int) ({ frames := 2, cells := 0, slots := 0, locals := 32 } : Room) #[(.ref o), (.int 61), (.int 0)] h0 (Qx21 Z o ar kk v1 cs sf iso u8 h0 n0) := by
  refine own_mkG (plainFor_of_name pn_java_lang_String) ?_
  intro p e s m below meth c s₁ X0 hx hby hml hown hnm hret hlk hZ e0
  have N0 := Fr.nil n0
  rw [ef_RII3 m o (61 : Int32) (0 : Int32)]
  refine own_vF m s₁ 1 #[vR o, vI (61 : Int32), vI (0 : Int32)] [(.ref o)] (fun t k => XS.aloadN X0.here hx rfl (hb hby d9_0) rfl rfl k) ?_
  obtain ⟨_, T1, L1, X1, hQ1, st1⟩ := own_callV X0 hx hZ (y := (⟨"java/lang/String", "isLatin1", "()Z"⟩ : MethodName)) (W := 0) (C := "java/lang/String") hown (hw _ (own_mt 48 rfl)) (hw _ (own_mt 49 rfl)) (hw _ (own_mt 51 rfl)) (hw _ (own_mt 50 rfl)) (hw _ (own_mt 12 rfl)) (hw _ (own_mt 52 rfl)) (by decide) (rm_Ql1 l Z a0 hw o ar cs sf iso u8 h0 n0 Z0 Od SS Es Fc Fv) (by decide) (by decide) e0 Es (g := (mkF m 1 #[vR o, vI (61 : Int32), vI (0 : Int32)] [(.ref o)])) rfl (by rw [hml]; rfl) (argsL := []) (rest := []) rfl (lenOf pd___Z rfl) rfl own_w0 (hb hby d9_1) (by decide) (by decide)
  obtain ⟨rfl, N1q, e1⟩ := hQ1
  have N1 := Fr.app N0 N1q
  refine own_vF m T1 4 #[vR o, vI (61 : Int32), vI (0 : Int32)] [(.int 1)] (fun t k => st1 t k) ?_
  refine own_vF m T1 7 #[vR o, vI (61 : Int32), vI (0 : Int32)] [] (fun t k => XS.ifNo X1.here hx rfl (hb hby d9_4) rfl ((if0 _ _).trans (feq (by decide : ¬ ((1 : Int32) = (0 : Int32)))).1) k) ?_
  refine own_vF m T1 8 #[vR o, vI (61 : Int32), vI (0 : Int32)] [(.ref o)] (fun t k => XS.aloadN X1.here hx rfl (hb hby d9_7) rfl rfl k) ?_
  obtain ⟨T2, X2, e2, st2⟩ := getF (host := "") X1 hx hZ hown (Or.inl (hw _ (own_mt 36 rfl))) Via.refl e1 Fv (g := (mkF m 8 #[vR o, vI (61 : Int32), vI (0 : Int32)] [(.ref o)])) rfl rfl (hb hby d9_8)
  refine own_vF m T2 11 #[vR o, vI (61 : Int32), vI (0 : Int32)] [(.ref ar)] (fun t k => st2 t k) ?_
  refine own_vF m T2 12 #[vR o, vI (61 : Int32), vI (0 : Int32)] [(.int 61), (.ref ar)] (fun t k => XS.iloadN X2.here hx rfl (hb hby d9_11) rfl k) ?_
  refine own_vF m T2 13 #[vR o, vI (61 : Int32), vI (0 : Int32)] [(.int 0), (.int 61), (.ref ar)] (fun t k => XS.iloadN X2.here hx rfl (hb hby d9_12) rfl k) ?_
  refine own_vF m T2 14 #[vR o, vI (61 : Int32), vI (0 : Int32)] [(.ref o), (.int 0), (.int 61), (.ref ar)] (fun t k => XS.aloadN X2.here hx rfl (hb hby d9_13) rfl rfl k) ?_
  obtain ⟨_, T3, L3, X3, hQ3, st3⟩ := own_callV X2 hx hZ (y := (⟨"java/lang/String", "length", "()I"⟩ : MethodName)) (W := 3) (C := "java/lang/String") hown (hw _ (own_mt 54 rfl)) (hw _ (own_mt 55 rfl)) (hw _ (own_mt 57 rfl)) (hw _ (own_mt 56 rfl)) (hw _ (own_mt 12 rfl)) (hw _ (own_mt 58 rfl)) (by decide) (rm_Qln1 l Z a0 hw o ar kk v1 cs sf iso u8 h0 n0 Z0 Od SS Es Fc Fv Va) (by decide) (by decide) e2 Es (g := (mkF m 14 #[vR o, vI (61 : Int32), vI (0 : Int32)] [(.ref o), (.int 0), (.int 61), (.ref ar)])) rfl (by rw [hml]; rfl) (argsL := []) (rest := [(.int 0), (.int 61), (.ref ar)]) rfl (lenOf pd___I rfl) rfl own_w0 (hb hby d9_14) (by decide) (by decide)
  obtain ⟨rfl, N3q, e3⟩ := hQ3
  have N3 := Fr.app N1 N3q
  refine own_vF m T3 17 #[vR o, vI (61 : Int32), vI (0 : Int32)] [(.int 1), (.int 0), (.int 61), (.ref ar)] (fun t k => st3 t k) ?_
  obtain ⟨_, T4, L4, X4, hQ4, st4⟩ := own_callS X3 hx hZ (y := (⟨"java/lang/StringLatin1", "indexOf", "([BIII)I"⟩ : MethodName)) (W := 0) hown (hw _ (own_mt 64 rfl)) (hw _ (own_mt 65 rfl)) (hw _ (own_mt 66 rfl)) (hw _ (own_mt 67 rfl)) (by decide) (rm_Qlx1 l Z a0 hw ar kk v1 h0 n0 Z0 Va) (by decide) (by decide) e3 (g := (mkF m 17 #[vR o, vI (61 : Int32), vI (0 : Int32)] [(.int 1), (.int 0), (.int 61), (.ref ar)])) rfl (by rw [hml]; rfl) (argsL := [(.ref ar), (.int 61), (.int 0), (.int 1)]) (rest := []) rfl (lenOf pd_ABIII__I rfl) rfl own_w0 (hb hby d9_17) (by decide) (by decide)
  obtain ⟨rfl, N4q, e4⟩ := hQ4
  have N4 := Fr.app N3 N4q
  refine own_vF m T4 20 #[vR o, vI (61 : Int32), vI (0 : Int32)] [(.int (if v1 = (61 : Int32) then (0 : Int32) else (-1 : Int32)))] (fun t k => st4 t k) ?_
  refine own_vF m T4 36 #[vR o, vI (61 : Int32), vI (0 : Int32)] [(.int (if v1 = (61 : Int32) then (0 : Int32) else (-1 : Int32)))] (fun t k => XS.goto X4.here hx rfl (pc0 := 20) (pc' := 36) rfl (hb hby d9_20) (by decide) (by decide) k) ?_
  exact own_ret X4 (v := some (.int (if v1 = (61 : Int32) then (0 : Int32) else (-1 : Int32)))) (fun h => by rw [hret] at h; cases h) hlk (fun fs hr => retOut X4 hx (t := .int) hret rfl (Or.inl ⟨rfl, Or.inl rfl, _, rfl⟩) (hb hby d9_36) hr) (by rw [e4]; exact ⟨rfl, N4, rfl⟩) (by decide) (by decide)
def Qx11 (Z : State) (o ar : Addr) (kk : ClassId) (v1 : Int32) (cs : Int32) (sf : Value) (iso u8 : Addr) (h0 : Heap) (n0 : Nat) (v : Option Value) (h : Heap) (L : List Loc) : Prop := v = some (.int (if v1 = (61 : Int32) then (0 : Int32) else (-1 : Int32))) ∧ Fr n0 L ∧ h = h0
set_option maxRecDepth 65536 in
set_option maxHeartbeats 40000000 in
theorem rm_Qx11 (l : Launch) (Z : State) (a0 : Array Value) (hw : ∀ d ∈ tables_1, d.before a0 Z = true) (o ar : Addr) (kk : ClassId) (v1 : Int32) (cs : Int32) (sf : Value) (iso u8 : Addr) (h0 : Heap) (n0 : Nat) (Z0 : n0 ≤ h0.size) (Od : Old Z n0 h0) (SS : own_SS Z cs sf iso u8) (Es : Exa Z h0 o "java/lang/String") (Fc : Fld Z h0 o "java/lang/String" "coder" "B" (.int 0)) (Fv : Fld Z h0 o "java/lang/String" "value" "[B" (.ref ar)) (Va : Arv Z h0 ar kk .byte (1 : Int32) [(.int v1)] (.int 0)) :
    own_MG l Z ((⟨"java/lang/String", "indexOf", "(I)I"⟩ : MethodName)) jdk_42_method_79_code 2 (some .int) ({ frames := 3, cells := 0, slots := 0, locals := 46 } : Room) #[(.ref o), (.int 61)] h0 (Qx11 Z o ar kk v1 cs sf iso u8 h0 n0) := by
  refine own_mkG (plainFor_of_name pn_java_lang_String) ?_
  intro p e s m below meth c s₁ X0 hx hby hml hown hnm hret hlk hZ e0
  have N0 := Fr.nil n0
  rw [ef_RI2 m o (61 : Int32)]
  refine own_vF m s₁ 1 #[vR o, vI (61 : Int32)] [(.ref o)] (fun t k => XS.aloadN X0.here hx rfl (hb hby d10_0) rfl rfl k) ?_
  refine own_vF m s₁ 2 #[vR o, vI (61 : Int32)] [(.int 61), (.ref o)] (fun t k => XS.iloadN X0.here hx rfl (hb hby d10_1) rfl k) ?_
  refine own_vF m s₁ 3 #[vR o, vI (61 : Int32)] [(.int 0), (.int 61), (.ref o)] (fun t k => XS.iconst X0.here hx rfl (hb hby d10_2) k) ?_
  obtain ⟨_, T1, L1, X1, hQ1, st1⟩ := own_callV X0 hx hZ (y := (⟨"java/lang/String", "indexOf", "(II)I"⟩ : MethodName)) (W := 0) (C := "java/lang/String") hown (hw _ (own_mt 43 rfl)) (hw _ (own_mt 44 rfl)) (hw _ (own_mt 46 rfl)) (hw _ (own_mt 45 rfl)) (hw _ (own_mt 12 rfl)) (hw _ (own_mt 47 rfl)) (by decide) (rm_Qx21 l Z a0 hw o ar kk v1 cs sf iso u8 h0 n0 Z0 Od SS Es Fc Fv Va) (by decide) (by decide) e0 Es (g := (mkF m 3 #[vR o, vI (61 : Int32)] [(.int 0), (.int 61), (.ref o)])) rfl (by rw [hml]; rfl) (argsL := [(.int 61), (.int 0)]) (rest := []) rfl (lenOf pd_II__I rfl) rfl own_w0 (hb hby d10_3) (by decide) (by decide)
  obtain ⟨rfl, N1q, e1⟩ := hQ1
  have N1 := Fr.app N0 N1q
  refine own_vF m T1 6 #[vR o, vI (61 : Int32)] [(.int (if v1 = (61 : Int32) then (0 : Int32) else (-1 : Int32)))] (fun t k => st1 t k) ?_
  exact own_ret X1 (v := some (.int (if v1 = (61 : Int32) then (0 : Int32) else (-1 : Int32)))) (fun h => by rw [hret] at h; cases h) hlk (fun fs hr => retOut X1 hx (t := .int) hret rfl (Or.inl ⟨rfl, Or.inl rfl, _, rfl⟩) (hb hby d10_6) hr) (by rw [e1]; exact ⟨rfl, N1, rfl⟩) (by decide) (by decide)
def Qic2 (Z : State) (ar : Addr) (kk : ClassId) (v1 v2 : Int32) (h0 : Heap) (n0 : Nat) (v : Option Value) (h : Heap) (L : List Loc) : Prop := v = some (.int (if v1 = (61 : Int32) then (0 : Int32) else (if v2 = (61 : Int32) then (1 : Int32) else (-1 : Int32)))) ∧ Fr n0 L ∧ h = h0
set_option maxRecDepth 65536 in
set_option maxHeartbeats 40000000 in
theorem rm_Qic2 (l : Launch) (Z : State) (a0 : Array Value) (hw : ∀ d ∈ tables_1, d.before a0 Z = true) (ar : Addr) (kk : ClassId) (v1 v2 : Int32) (h0 : Heap) (n0 : Nat) (Z0 : n0 ≤ h0.size) (Va : Arv Z h0 ar kk .byte (2 : Int32) [(.int v1), (.int v2)] (.int 0)) :
    own_MG l Z ((⟨"java/lang/StringLatin1", "indexOfChar", "([BIII)I"⟩ : MethodName)) jdk_43_method_23_code 6 (some .int) ({ frames := 0, cells := 0, slots := 0, locals := 0 } : Room) #[(.ref ar), (.int 61), (.int 0), (.int 2)] h0 (Qic2 Z ar kk v1 v2 h0 n0) := by
  refine own_mkG (plainFor_of_name pn_java_lang_StringLatin1) ?_
  intro p e s m below meth c s₁ X0 hx hby hml hown hnm hret hlk hZ e0
  have N0 := Fr.nil n0
  rw [ef_RIII6 m ar (61 : Int32) (0 : Int32) (2 : Int32)]
  refine own_vF m s₁ 1 #[vR ar, vI (61 : Int32), vI (0 : Int32), vI (2 : Int32), .unset, .unset] [(.int 61)] (fun t k => XS.iloadN X0.here hx rfl (hb hby d11_0) rfl k) ?_
  refine own_vF m s₁ 2 #[vR ar, vI (61 : Int32), vI (0 : Int32), vI (2 : Int32), .unset, .unset] [(.int ((61 : Int32).toInt8.toInt32))] (fun t k => XS.i2b X0.here hx rfl (hb hby d11_1) rfl k) ?_
  rw [show ((61 : Int32).toInt8.toInt32) = (61 : Int32) from by decide]
  refine own_vF m s₁ 4 #[vR ar, vI (61 : Int32), vI (0 : Int32), vI (2 : Int32), vI (61 : Int32), .unset] [] (fun t k => XS.istore X0.here hx rfl (hb hby d11_2) rfl (l' := #[vR ar, vI (61 : Int32), vI (0 : Int32), vI (2 : Int32), vI (61 : Int32), .unset]) rfl k) ?_
  refine own_vF m s₁ 5 #[vR ar, vI (61 : Int32), vI (0 : Int32), vI (2 : Int32), vI (61 : Int32), .unset] [(.int 0)] (fun t k => XS.iloadN X0.here hx rfl (hb hby d11_4) rfl k) ?_
  refine own_vF m s₁ 7 #[vR ar, vI (61 : Int32), vI (0 : Int32), vI (2 : Int32), vI (61 : Int32), vI (0 : Int32)] [] (fun t k => XS.istore X0.here hx rfl (hb hby d11_5) rfl (l' := #[vR ar, vI (61 : Int32), vI (0 : Int32), vI (2 : Int32), vI (61 : Int32), vI (0 : Int32)]) rfl k) ?_
  refine own_vF m s₁ 9 #[vR ar, vI (61 : Int32), vI (0 : Int32), vI (2 : Int32), vI (61 : Int32), vI (0 : Int32)] [(.int 0)] (fun t k => XS.iload X0.here hx rfl (hb hby d11_7) rfl k) ?_
  refine own_vF m s₁ 10 #[vR ar, vI (61 : Int32), vI (0 : Int32), vI (2 : Int32), vI (61 : Int32), vI (0 : Int32)] [(.int 2), (.int 0)] (fun t k => XS.iloadN X0.here hx rfl (hb hby d11_9) rfl k) ?_
  refine own_vF m s₁ 13 #[vR ar, vI (61 : Int32), vI (0 : Int32), vI (2 : Int32), vI (61 : Int32), vI (0 : Int32)] [] (fun t k => XS.icmpNo X0.here hx rfl (hb hby d11_10) rfl (tlt (by decide : ((0 : Int32) < (2 : Int32)))).2.1 k) ?_
  refine own_vF m s₁ 14 #[vR ar, vI (61 : Int32), vI (0 : Int32), vI (2 : Int32), vI (61 : Int32), vI (0 : Int32)] [(.ref ar)] (fun t k => XS.aloadN X0.here hx rfl (hb hby d11_13) rfl rfl k) ?_
  refine own_vF m s₁ 16 #[vR ar, vI (61 : Int32), vI (0 : Int32), vI (2 : Int32), vI (61 : Int32), vI (0 : Int32)] [(.int 0), (.ref ar)] (fun t k => XS.iload X0.here hx rfl (hb hby d11_14) rfl k) ?_
  obtain ⟨c1, Ar1, q1a, q1b, q1c, q1d, q1e⟩ := id Va
  refine own_vF m s₁ 17 #[vR ar, vI (61 : Int32), vI (0 : Int32), vI (2 : Int32), vI (61 : Int32), vI (0 : Int32)] [(.int v1)] (fun t k => X0.baloadBytes hx (j := (0 : Int32)) (v := (.int v1)) (by rw [e0]; exact Ar1.1) (State.isArrayOf_alike hZ.alike Ar1.2.1) Ar1.2.2 (inb_of q1b (by decide)) (q1d.at (inb_of q1b (by decide)) rfl) (g := (mkF m 16 #[vR ar, vI (61 : Int32), vI (0 : Int32), vI (2 : Int32), vI (61 : Int32), vI (0 : Int32)] [(.int 0), (.ref ar)])) rfl rfl (hb hby d11_16) _ k) ?_
  refine own_vF m s₁ 19 #[vR ar, vI (61 : Int32), vI (0 : Int32), vI (2 : Int32), vI (61 : Int32), vI (0 : Int32)] [(.int 61), (.int v1)] (fun t k => XS.iload X0.here hx rfl (hb hby d11_17) rfl k) ?_
  by_cases hc2 : v1 = (61 : Int32)
  case pos =>
    refine own_vF m s₁ 22 #[vR ar, vI (61 : Int32), vI (0 : Int32), vI (2 : Int32), vI (61 : Int32), vI (0 : Int32)] [] (fun t k => XS.icmpNo X0.here hx rfl (hb hby d11_19) rfl (teq hc2).2 k) ?_
    refine own_vF m s₁ 24 #[vR ar, vI (61 : Int32), vI (0 : Int32), vI (2 : Int32), vI (61 : Int32), vI (0 : Int32)] [(.int 0)] (fun t k => XS.iload X0.here hx rfl (hb hby d11_22) rfl k) ?_
    exact own_ret X0 (v := some (.int 0)) (fun h => by rw [hret] at h; cases h) hlk (fun fs hr => retOut X0 hx (t := .int) hret rfl (Or.inl ⟨rfl, Or.inl rfl, _, rfl⟩) (hb hby d11_24) hr) (by rw [e0]; exact ⟨by first | rfl | (simp only [if_pos hc2]), N0, rfl⟩) (by decide) (by decide)
  case neg =>
    refine own_vF m s₁ 25 #[vR ar, vI (61 : Int32), vI (0 : Int32), vI (2 : Int32), vI (61 : Int32), vI (0 : Int32)] [] (fun t k => XS.icmpYes X0.here hx rfl (pc0 := 19) (pc' := 25) rfl (hb hby d11_19) rfl (feq hc2).2 (by decide) (by decide) k) ?_
    refine own_vF m s₁ 28 #[vR ar, vI (61 : Int32), vI (0 : Int32), vI (2 : Int32), vI (61 : Int32), .val (.int ((0 : Int32) + (1 : Int32)))] [] (fun t k => XS.iinc X0.here hx rfl (hb hby d11_25) rfl (l' := #[vR ar, vI (61 : Int32), vI (0 : Int32), vI (2 : Int32), vI (61 : Int32), .val (.int ((0 : Int32) + (1 : Int32)))]) rfl k) ?_
    rw [show ((0 : Int32) + (1 : Int32)) = (1 : Int32) from by decide]
    refine own_vF m s₁ 7 #[vR ar, vI (61 : Int32), vI (0 : Int32), vI (2 : Int32), vI (61 : Int32), vI (1 : Int32)] [] (fun t k => XS.goto X0.here hx rfl (pc0 := 28) (pc' := 7) rfl (hb hby d11_28) (by decide) (by decide) k) ?_
    refine own_vF m s₁ 9 #[vR ar, vI (61 : Int32), vI (0 : Int32), vI (2 : Int32), vI (61 : Int32), vI (1 : Int32)] [(.int 1)] (fun t k => XS.iload X0.here hx rfl (hb hby d11_7) rfl k) ?_
    refine own_vF m s₁ 10 #[vR ar, vI (61 : Int32), vI (0 : Int32), vI (2 : Int32), vI (61 : Int32), vI (1 : Int32)] [(.int 2), (.int 1)] (fun t k => XS.iloadN X0.here hx rfl (hb hby d11_9) rfl k) ?_
    refine own_vF m s₁ 13 #[vR ar, vI (61 : Int32), vI (0 : Int32), vI (2 : Int32), vI (61 : Int32), vI (1 : Int32)] [] (fun t k => XS.icmpNo X0.here hx rfl (hb hby d11_10) rfl (tlt (by decide : ((1 : Int32) < (2 : Int32)))).2.1 k) ?_
    refine own_vF m s₁ 14 #[vR ar, vI (61 : Int32), vI (0 : Int32), vI (2 : Int32), vI (61 : Int32), vI (1 : Int32)] [(.ref ar)] (fun t k => XS.aloadN X0.here hx rfl (hb hby d11_13) rfl rfl k) ?_
    refine own_vF m s₁ 16 #[vR ar, vI (61 : Int32), vI (0 : Int32), vI (2 : Int32), vI (61 : Int32), vI (1 : Int32)] [(.int 1), (.ref ar)] (fun t k => XS.iload X0.here hx rfl (hb hby d11_14) rfl k) ?_
    obtain ⟨c3, Ar3, q3a, q3b, q3c, q3d, q3e⟩ := id Va
    refine own_vF m s₁ 17 #[vR ar, vI (61 : Int32), vI (0 : Int32), vI (2 : Int32), vI (61 : Int32), vI (1 : Int32)] [(.int v2)] (fun t k => X0.baloadBytes hx (j := (1 : Int32)) (v := (.int v2)) (by rw [e0]; exact Ar3.1) (State.isArrayOf_alike hZ.alike Ar3.2.1) Ar3.2.2 (inb_of q3b (by decide)) (q3d.at (inb_of q3b (by decide)) rfl) (g := (mkF m 16 #[vR ar, vI (61 : Int32), vI (0 : Int32), vI (2 : Int32), vI (61 : Int32), vI (1 : Int32)] [(.int 1), (.ref ar)])) rfl rfl (hb hby d11_16) _ k) ?_
    refine own_vF m s₁ 19 #[vR ar, vI (61 : Int32), vI (0 : Int32), vI (2 : Int32), vI (61 : Int32), vI (1 : Int32)] [(.int 61), (.int v2)] (fun t k => XS.iload X0.here hx rfl (hb hby d11_17) rfl k) ?_
    by_cases hc4 : v2 = (61 : Int32)
    case pos =>
      refine own_vF m s₁ 22 #[vR ar, vI (61 : Int32), vI (0 : Int32), vI (2 : Int32), vI (61 : Int32), vI (1 : Int32)] [] (fun t k => XS.icmpNo X0.here hx rfl (hb hby d11_19) rfl (teq hc4).2 k) ?_
      refine own_vF m s₁ 24 #[vR ar, vI (61 : Int32), vI (0 : Int32), vI (2 : Int32), vI (61 : Int32), vI (1 : Int32)] [(.int 1)] (fun t k => XS.iload X0.here hx rfl (hb hby d11_22) rfl k) ?_
      exact own_ret X0 (v := some (.int 1)) (fun h => by rw [hret] at h; cases h) hlk (fun fs hr => retOut X0 hx (t := .int) hret rfl (Or.inl ⟨rfl, Or.inl rfl, _, rfl⟩) (hb hby d11_24) hr) (by rw [e0]; exact ⟨by first | rfl | (simp only [if_neg hc2, if_pos hc4]), N0, rfl⟩) (by decide) (by decide)
    case neg =>
      refine own_vF m s₁ 25 #[vR ar, vI (61 : Int32), vI (0 : Int32), vI (2 : Int32), vI (61 : Int32), vI (1 : Int32)] [] (fun t k => XS.icmpYes X0.here hx rfl (pc0 := 19) (pc' := 25) rfl (hb hby d11_19) rfl (feq hc4).2 (by decide) (by decide) k) ?_
      refine own_vF m s₁ 28 #[vR ar, vI (61 : Int32), vI (0 : Int32), vI (2 : Int32), vI (61 : Int32), .val (.int ((1 : Int32) + (1 : Int32)))] [] (fun t k => XS.iinc X0.here hx rfl (hb hby d11_25) rfl (l' := #[vR ar, vI (61 : Int32), vI (0 : Int32), vI (2 : Int32), vI (61 : Int32), .val (.int ((1 : Int32) + (1 : Int32)))]) rfl k) ?_
      rw [show ((1 : Int32) + (1 : Int32)) = (2 : Int32) from by decide]
      refine own_vF m s₁ 7 #[vR ar, vI (61 : Int32), vI (0 : Int32), vI (2 : Int32), vI (61 : Int32), vI (2 : Int32)] [] (fun t k => XS.goto X0.here hx rfl (pc0 := 28) (pc' := 7) rfl (hb hby d11_28) (by decide) (by decide) k) ?_
      refine own_vF m s₁ 9 #[vR ar, vI (61 : Int32), vI (0 : Int32), vI (2 : Int32), vI (61 : Int32), vI (2 : Int32)] [(.int 2)] (fun t k => XS.iload X0.here hx rfl (hb hby d11_7) rfl k) ?_
      refine own_vF m s₁ 10 #[vR ar, vI (61 : Int32), vI (0 : Int32), vI (2 : Int32), vI (61 : Int32), vI (2 : Int32)] [(.int 2), (.int 2)] (fun t k => XS.iloadN X0.here hx rfl (hb hby d11_9) rfl k) ?_
      refine own_vF m s₁ 31 #[vR ar, vI (61 : Int32), vI (0 : Int32), vI (2 : Int32), vI (61 : Int32), vI (2 : Int32)] [] (fun t k => XS.icmpYes X0.here hx rfl (pc0 := 10) (pc' := 31) rfl (hb hby d11_10) rfl (flt (by decide : ¬ ((2 : Int32) < (2 : Int32)))).2.1 (by decide) (by decide) k) ?_
      refine own_vF m s₁ 32 #[vR ar, vI (61 : Int32), vI (0 : Int32), vI (2 : Int32), vI (61 : Int32), vI (2 : Int32)] [(.int (-1))] (fun t k => XS.iconst X0.here hx rfl (hb hby d11_31) k) ?_
      exact own_ret X0 (v := some (.int (-1))) (fun h => by rw [hret] at h; cases h) hlk (fun fs hr => retOut X0 hx (t := .int) hret rfl (Or.inl ⟨rfl, Or.inl rfl, _, rfl⟩) (hb hby d11_32) hr) (by rw [e0]; exact ⟨by first | rfl | (simp only [if_neg hc2, if_neg hc4]), N0, rfl⟩) (by decide) (by decide)
def Qlx2 (Z : State) (ar : Addr) (kk : ClassId) (v1 v2 : Int32) (h0 : Heap) (n0 : Nat) (v : Option Value) (h : Heap) (L : List Loc) : Prop := v = some (.int (if v1 = (61 : Int32) then (0 : Int32) else (if v2 = (61 : Int32) then (1 : Int32) else (-1 : Int32)))) ∧ Fr n0 L ∧ h = h0
set_option maxRecDepth 65536 in
set_option maxHeartbeats 40000000 in
theorem rm_Qlx2 (l : Launch) (Z : State) (a0 : Array Value) (hw : ∀ d ∈ tables_1, d.before a0 Z = true) (ar : Addr) (kk : ClassId) (v1 v2 : Int32) (h0 : Heap) (n0 : Nat) (Z0 : n0 ≤ h0.size) (Va : Arv Z h0 ar kk .byte (2 : Int32) [(.int v1), (.int v2)] (.int 0)) :
    own_MG l Z ((⟨"java/lang/StringLatin1", "indexOf", "([BIII)I"⟩ : MethodName)) jdk_43_method_22_code 4 (some .int) ({ frames := 1, cells := 0, slots := 0, locals := 17 } : Room) #[(.ref ar), (.int 61), (.int 0), (.int 2)] h0 (Qlx2 Z ar kk v1 v2 h0 n0) := by
  refine own_mkG (plainFor_of_name pn_java_lang_StringLatin1) ?_
  intro p e s m below meth c s₁ X0 hx hby hml hown hnm hret hlk hZ e0
  have N0 := Fr.nil n0
  rw [ef_RIII4 m ar (61 : Int32) (0 : Int32) (2 : Int32)]
  refine own_vF m s₁ 1 #[vR ar, vI (61 : Int32), vI (0 : Int32), vI (2 : Int32)] [(.int 61)] (fun t k => XS.iloadN X0.here hx rfl (hb hby d8_0) rfl k) ?_
  obtain ⟨_, T1, L1, X1, hQ1, st1⟩ := own_callS X0 hx hZ (y := (⟨"java/lang/StringLatin1", "canEncode", "(I)Z"⟩ : MethodName)) (W := 0) hown (hw _ (own_mt 68 rfl)) (hw _ (own_mt 69 rfl)) (hw _ (own_mt 66 rfl)) (hw _ (own_mt 70 rfl)) (by decide) (rm_Qce l Z a0 hw  h0 n0 Z0) (by decide) (by decide) e0 (g := (mkF m 1 #[vR ar, vI (61 : Int32), vI (0 : Int32), vI (2 : Int32)] [(.int 61)])) rfl (by rw [hml]; rfl) (argsL := [(.int 61)]) (rest := []) rfl (lenOf pd_I__Z rfl) rfl own_w0 (hb hby d8_1) (by decide) (by decide)
  obtain ⟨rfl, N1q, e1⟩ := hQ1
  have N1 := Fr.app N0 N1q
  refine own_vF m T1 4 #[vR ar, vI (61 : Int32), vI (0 : Int32), vI (2 : Int32)] [(.int 1)] (fun t k => st1 t k) ?_
  refine own_vF m T1 9 #[vR ar, vI (61 : Int32), vI (0 : Int32), vI (2 : Int32)] [] (fun t k => XS.ifYes X1.here hx rfl (pc0 := 4) (pc' := 9) rfl (hb hby d8_4) rfl ((if0 _ _).trans (feq (by decide : ¬ ((1 : Int32) = (0 : Int32)))).2) (by decide) (by decide) k) ?_
  refine own_vF m T1 10 #[vR ar, vI (61 : Int32), vI (0 : Int32), vI (2 : Int32)] [(.int 0)] (fun t k => XS.iloadN X1.here hx rfl (hb hby d8_9) rfl k) ?_
  refine own_vF m T1 11 #[vR ar, vI (61 : Int32), vI (0 : Int32), vI (2 : Int32)] [(.int 0), (.int 0)] (fun t k => XS.iconst X1.here hx rfl (hb hby d8_10) k) ?_
  obtain ⟨_, T2, L2, X2, hQ2, st2⟩ := own_callS X1 hx hZ (y := (⟨"java/lang/Math", "max", "(II)I"⟩ : MethodName)) (W := 0) hown (hw _ (own_mt 71 rfl)) (hw _ (own_mt 72 rfl)) (hw _ (own_mt 73 rfl)) (hw _ (own_mt 74 rfl)) (by decide) (rm_Qmax l Z a0 hw (0 : Int32) (0 : Int32) h0 n0 Z0) (by decide) (by decide) e1 (g := (mkF m 11 #[vR ar, vI (61 : Int32), vI (0 : Int32), vI (2 : Int32)] [(.int 0), (.int 0)])) rfl (by rw [hml]; rfl) (argsL := [(.int 0), (.int 0)]) (rest := []) rfl (lenOf pd_II__I rfl) rfl own_w0 (hb hby d8_11) (by decide) (by decide)
  obtain ⟨rfl, N2q, e2⟩ := hQ2
  have N2 := Fr.app N1 N2q
  refine own_vF m T2 14 #[vR ar, vI (61 : Int32), vI (0 : Int32), vI (2 : Int32)] [(.int (if (0 : Int32) < (0 : Int32) then (0 : Int32) else (0 : Int32)))] (fun t k => st2 t k) ?_
  rw [show (if (0 : Int32) < (0 : Int32) then (0 : Int32) else (0 : Int32)) = (0 : Int32) from by decide]
  refine own_vF m T2 15 #[vR ar, vI (61 : Int32), vI (0 : Int32), vI (2 : Int32)] [] (fun t k => XS.istoreN X2.here hx rfl (hb hby d8_14) rfl (l' := #[vR ar, vI (61 : Int32), vI (0 : Int32), vI (2 : Int32)]) rfl k) ?_
  refine own_vF m T2 16 #[vR ar, vI (61 : Int32), vI (0 : Int32), vI (2 : Int32)] [(.int 2)] (fun t k => XS.iloadN X2.here hx rfl (hb hby d8_15) rfl k) ?_
  refine own_vF m T2 17 #[vR ar, vI (61 : Int32), vI (0 : Int32), vI (2 : Int32)] [(.ref ar), (.int 2)] (fun t k => XS.aloadN X2.here hx rfl (hb hby d8_16) rfl rfl k) ?_
  obtain ⟨c3, Ar3, q3a, q3b, q3c, q3d, q3e⟩ := id Va
  refine own_vF m T2 18 #[vR ar, vI (61 : Int32), vI (0 : Int32), vI (2 : Int32)] [(.int 2), (.int 2)] (fun t k => (fun t k => X2.arraylength hx (by rw [e2]; exact Ar3.1) (State.isArrayOf_alike hZ.alike Ar3.2.1) (g := (mkF m 17 #[vR ar, vI (61 : Int32), vI (0 : Int32), vI (2 : Int32)] [(.ref ar), (.int 2)])) rfl rfl (hb hby d8_17) t (by rw [len_of q3b q3c]; exact k)) t k) ?_
  obtain ⟨_, T4, L4, X4, hQ4, st4⟩ := own_callS X2 hx hZ (y := (⟨"java/lang/Math", "min", "(II)I"⟩ : MethodName)) (W := 0) hown (hw _ (own_mt 75 rfl)) (hw _ (own_mt 76 rfl)) (hw _ (own_mt 73 rfl)) (hw _ (own_mt 77 rfl)) (by decide) (rm_Qmin l Z a0 hw (2 : Int32) (2 : Int32) h0 n0 Z0) (by decide) (by decide) e2 (g := (mkF m 18 #[vR ar, vI (61 : Int32), vI (0 : Int32), vI (2 : Int32)] [(.int 2), (.int 2)])) rfl (by rw [hml]; rfl) (argsL := [(.int 2), (.int 2)]) (rest := []) rfl (lenOf pd_II__I rfl) rfl own_w0 (hb hby d8_18) (by decide) (by decide)
  obtain ⟨rfl, N4q, e4⟩ := hQ4
  have N4 := Fr.app N2 N4q
  refine own_vF m T4 21 #[vR ar, vI (61 : Int32), vI (0 : Int32), vI (2 : Int32)] [(.int (if (2 : Int32) < (2 : Int32) then (2 : Int32) else (2 : Int32)))] (fun t k => st4 t k) ?_
  rw [show (if (2 : Int32) < (2 : Int32) then (2 : Int32) else (2 : Int32)) = (2 : Int32) from by decide]
  refine own_vF m T4 22 #[vR ar, vI (61 : Int32), vI (0 : Int32), vI (2 : Int32)] [] (fun t k => XS.istoreN X4.here hx rfl (hb hby d8_21) rfl (l' := #[vR ar, vI (61 : Int32), vI (0 : Int32), vI (2 : Int32)]) rfl k) ?_
  refine own_vF m T4 23 #[vR ar, vI (61 : Int32), vI (0 : Int32), vI (2 : Int32)] [(.int 0)] (fun t k => XS.iloadN X4.here hx rfl (hb hby d8_22) rfl k) ?_
  refine own_vF m T4 24 #[vR ar, vI (61 : Int32), vI (0 : Int32), vI (2 : Int32)] [(.int 2), (.int 0)] (fun t k => XS.iloadN X4.here hx rfl (hb hby d8_23) rfl k) ?_
  refine own_vF m T4 29 #[vR ar, vI (61 : Int32), vI (0 : Int32), vI (2 : Int32)] [] (fun t k => XS.icmpYes X4.here hx rfl (pc0 := 24) (pc' := 29) rfl (hb hby d8_24) rfl (tlt (by decide : ((0 : Int32) < (2 : Int32)))).1 (by decide) (by decide) k) ?_
  refine own_vF m T4 30 #[vR ar, vI (61 : Int32), vI (0 : Int32), vI (2 : Int32)] [(.ref ar)] (fun t k => XS.aloadN X4.here hx rfl (hb hby d8_29) rfl rfl k) ?_
  refine own_vF m T4 31 #[vR ar, vI (61 : Int32), vI (0 : Int32), vI (2 : Int32)] [(.int 61), (.ref ar)] (fun t k => XS.iloadN X4.here hx rfl (hb hby d8_30) rfl k) ?_
  refine own_vF m T4 32 #[vR ar, vI (61 : Int32), vI (0 : Int32), vI (2 : Int32)] [(.int 0), (.int 61), (.ref ar)] (fun t k => XS.iloadN X4.here hx rfl (hb hby d8_31) rfl k) ?_
  refine own_vF m T4 33 #[vR ar, vI (61 : Int32), vI (0 : Int32), vI (2 : Int32)] [(.int 2), (.int 0), (.int 61), (.ref ar)] (fun t k => XS.iloadN X4.here hx rfl (hb hby d8_32) rfl k) ?_
  obtain ⟨_, T5, L5, X5, hQ5, st5⟩ := own_callS X4 hx hZ (y := (⟨"java/lang/StringLatin1", "indexOfChar", "([BIII)I"⟩ : MethodName)) (W := 0) hown (hw _ (own_mt 110 rfl)) (hw _ (own_mt 111 rfl)) (hw _ (own_mt 66 rfl)) (hw _ (own_mt 112 rfl)) (by decide) (rm_Qic2 l Z a0 hw ar kk v1 v2 h0 n0 Z0 Va) (by decide) (by decide) e4 (g := (mkF m 33 #[vR ar, vI (61 : Int32), vI (0 : Int32), vI (2 : Int32)] [(.int 2), (.int 0), (.int 61), (.ref ar)])) rfl (by rw [hml]; rfl) (argsL := [(.ref ar), (.int 61), (.int 0), (.int 2)]) (rest := []) rfl (lenOf pd_ABIII__I rfl) rfl own_w0 (hb hby d8_33) (by decide) (by decide)
  obtain ⟨rfl, N5q, e5⟩ := hQ5
  have N5 := Fr.app N4 N5q
  refine own_vF m T5 36 #[vR ar, vI (61 : Int32), vI (0 : Int32), vI (2 : Int32)] [(.int (if v1 = (61 : Int32) then (0 : Int32) else (if v2 = (61 : Int32) then (1 : Int32) else (-1 : Int32))))] (fun t k => st5 t k) ?_
  exact own_ret X5 (v := some (.int (if v1 = (61 : Int32) then (0 : Int32) else (if v2 = (61 : Int32) then (1 : Int32) else (-1 : Int32))))) (fun h => by rw [hret] at h; cases h) hlk (fun fs hr => retOut X5 hx (t := .int) hret rfl (Or.inl ⟨rfl, Or.inl rfl, _, rfl⟩) (hb hby d8_36) hr) (by rw [e5]; exact ⟨rfl, N5, rfl⟩) (by decide) (by decide)
def Qx22 (Z : State) (o ar : Addr) (kk : ClassId) (v1 v2 : Int32) (cs : Int32) (sf : Value) (iso u8 : Addr) (h0 : Heap) (n0 : Nat) (v : Option Value) (h : Heap) (L : List Loc) : Prop := v = some (.int (if v1 = (61 : Int32) then (0 : Int32) else (if v2 = (61 : Int32) then (1 : Int32) else (-1 : Int32)))) ∧ Fr n0 L ∧ h = h0
set_option maxRecDepth 65536 in
set_option maxHeartbeats 40000000 in
theorem rm_Qx22 (l : Launch) (Z : State) (a0 : Array Value) (hw : ∀ d ∈ tables_1, d.before a0 Z = true) (o ar : Addr) (kk : ClassId) (v1 v2 : Int32) (cs : Int32) (sf : Value) (iso u8 : Addr) (h0 : Heap) (n0 : Nat) (Z0 : n0 ≤ h0.size) (Od : Old Z n0 h0) (SS : own_SS Z cs sf iso u8) (Es : Exa Z h0 o "java/lang/String") (Fc : Fld Z h0 o "java/lang/String" "coder" "B" (.int 0)) (Fv : Fld Z h0 o "java/lang/String" "value" "[B" (.ref ar)) (Va : Arv Z h0 ar kk .byte (2 : Int32) [(.int v1), (.int v2)] (.int 0)) :
    own_MG l Z ((⟨"java/lang/String", "indexOf", "(II)I"⟩ : MethodName)) jdk_42_method_80_code 3 (some .int) ({ frames := 2, cells := 0, slots := 0, locals := 32 } : Room) #[(.ref o), (.int 61), (.int 0)] h0 (Qx22 Z o ar kk v1 v2 cs sf iso u8 h0 n0) := by
  refine own_mkG (plainFor_of_name pn_java_lang_String) ?_
  intro p e s m below meth c s₁ X0 hx hby hml hown hnm hret hlk hZ e0
  have N0 := Fr.nil n0
  rw [ef_RII3 m o (61 : Int32) (0 : Int32)]
  refine own_vF m s₁ 1 #[vR o, vI (61 : Int32), vI (0 : Int32)] [(.ref o)] (fun t k => XS.aloadN X0.here hx rfl (hb hby d9_0) rfl rfl k) ?_
  obtain ⟨_, T1, L1, X1, hQ1, st1⟩ := own_callV X0 hx hZ (y := (⟨"java/lang/String", "isLatin1", "()Z"⟩ : MethodName)) (W := 0) (C := "java/lang/String") hown (hw _ (own_mt 48 rfl)) (hw _ (own_mt 49 rfl)) (hw _ (own_mt 51 rfl)) (hw _ (own_mt 50 rfl)) (hw _ (own_mt 12 rfl)) (hw _ (own_mt 52 rfl)) (by decide) (rm_Ql1 l Z a0 hw o ar cs sf iso u8 h0 n0 Z0 Od SS Es Fc Fv) (by decide) (by decide) e0 Es (g := (mkF m 1 #[vR o, vI (61 : Int32), vI (0 : Int32)] [(.ref o)])) rfl (by rw [hml]; rfl) (argsL := []) (rest := []) rfl (lenOf pd___Z rfl) rfl own_w0 (hb hby d9_1) (by decide) (by decide)
  obtain ⟨rfl, N1q, e1⟩ := hQ1
  have N1 := Fr.app N0 N1q
  refine own_vF m T1 4 #[vR o, vI (61 : Int32), vI (0 : Int32)] [(.int 1)] (fun t k => st1 t k) ?_
  refine own_vF m T1 7 #[vR o, vI (61 : Int32), vI (0 : Int32)] [] (fun t k => XS.ifNo X1.here hx rfl (hb hby d9_4) rfl ((if0 _ _).trans (feq (by decide : ¬ ((1 : Int32) = (0 : Int32)))).1) k) ?_
  refine own_vF m T1 8 #[vR o, vI (61 : Int32), vI (0 : Int32)] [(.ref o)] (fun t k => XS.aloadN X1.here hx rfl (hb hby d9_7) rfl rfl k) ?_
  obtain ⟨T2, X2, e2, st2⟩ := getF (host := "") X1 hx hZ hown (Or.inl (hw _ (own_mt 36 rfl))) Via.refl e1 Fv (g := (mkF m 8 #[vR o, vI (61 : Int32), vI (0 : Int32)] [(.ref o)])) rfl rfl (hb hby d9_8)
  refine own_vF m T2 11 #[vR o, vI (61 : Int32), vI (0 : Int32)] [(.ref ar)] (fun t k => st2 t k) ?_
  refine own_vF m T2 12 #[vR o, vI (61 : Int32), vI (0 : Int32)] [(.int 61), (.ref ar)] (fun t k => XS.iloadN X2.here hx rfl (hb hby d9_11) rfl k) ?_
  refine own_vF m T2 13 #[vR o, vI (61 : Int32), vI (0 : Int32)] [(.int 0), (.int 61), (.ref ar)] (fun t k => XS.iloadN X2.here hx rfl (hb hby d9_12) rfl k) ?_
  refine own_vF m T2 14 #[vR o, vI (61 : Int32), vI (0 : Int32)] [(.ref o), (.int 0), (.int 61), (.ref ar)] (fun t k => XS.aloadN X2.here hx rfl (hb hby d9_13) rfl rfl k) ?_
  obtain ⟨_, T3, L3, X3, hQ3, st3⟩ := own_callV X2 hx hZ (y := (⟨"java/lang/String", "length", "()I"⟩ : MethodName)) (W := 3) (C := "java/lang/String") hown (hw _ (own_mt 54 rfl)) (hw _ (own_mt 55 rfl)) (hw _ (own_mt 57 rfl)) (hw _ (own_mt 56 rfl)) (hw _ (own_mt 12 rfl)) (hw _ (own_mt 58 rfl)) (by decide) (rm_Qln2 l Z a0 hw o ar kk v1 v2 cs sf iso u8 h0 n0 Z0 Od SS Es Fc Fv Va) (by decide) (by decide) e2 Es (g := (mkF m 14 #[vR o, vI (61 : Int32), vI (0 : Int32)] [(.ref o), (.int 0), (.int 61), (.ref ar)])) rfl (by rw [hml]; rfl) (argsL := []) (rest := [(.int 0), (.int 61), (.ref ar)]) rfl (lenOf pd___I rfl) rfl own_w0 (hb hby d9_14) (by decide) (by decide)
  obtain ⟨rfl, N3q, e3⟩ := hQ3
  have N3 := Fr.app N1 N3q
  refine own_vF m T3 17 #[vR o, vI (61 : Int32), vI (0 : Int32)] [(.int 2), (.int 0), (.int 61), (.ref ar)] (fun t k => st3 t k) ?_
  obtain ⟨_, T4, L4, X4, hQ4, st4⟩ := own_callS X3 hx hZ (y := (⟨"java/lang/StringLatin1", "indexOf", "([BIII)I"⟩ : MethodName)) (W := 0) hown (hw _ (own_mt 64 rfl)) (hw _ (own_mt 65 rfl)) (hw _ (own_mt 66 rfl)) (hw _ (own_mt 67 rfl)) (by decide) (rm_Qlx2 l Z a0 hw ar kk v1 v2 h0 n0 Z0 Va) (by decide) (by decide) e3 (g := (mkF m 17 #[vR o, vI (61 : Int32), vI (0 : Int32)] [(.int 2), (.int 0), (.int 61), (.ref ar)])) rfl (by rw [hml]; rfl) (argsL := [(.ref ar), (.int 61), (.int 0), (.int 2)]) (rest := []) rfl (lenOf pd_ABIII__I rfl) rfl own_w0 (hb hby d9_17) (by decide) (by decide)
  obtain ⟨rfl, N4q, e4⟩ := hQ4
  have N4 := Fr.app N3 N4q
  refine own_vF m T4 20 #[vR o, vI (61 : Int32), vI (0 : Int32)] [(.int (if v1 = (61 : Int32) then (0 : Int32) else (if v2 = (61 : Int32) then (1 : Int32) else (-1 : Int32))))] (fun t k => st4 t k) ?_
  refine own_vF m T4 36 #[vR o, vI (61 : Int32), vI (0 : Int32)] [(.int (if v1 = (61 : Int32) then (0 : Int32) else (if v2 = (61 : Int32) then (1 : Int32) else (-1 : Int32))))] (fun t k => XS.goto X4.here hx rfl (pc0 := 20) (pc' := 36) rfl (hb hby d9_20) (by decide) (by decide) k) ?_
  exact own_ret X4 (v := some (.int (if v1 = (61 : Int32) then (0 : Int32) else (if v2 = (61 : Int32) then (1 : Int32) else (-1 : Int32))))) (fun h => by rw [hret] at h; cases h) hlk (fun fs hr => retOut X4 hx (t := .int) hret rfl (Or.inl ⟨rfl, Or.inl rfl, _, rfl⟩) (hb hby d9_36) hr) (by rw [e4]; exact ⟨rfl, N4, rfl⟩) (by decide) (by decide)
def Qx12 (Z : State) (o ar : Addr) (kk : ClassId) (v1 v2 : Int32) (cs : Int32) (sf : Value) (iso u8 : Addr) (h0 : Heap) (n0 : Nat) (v : Option Value) (h : Heap) (L : List Loc) : Prop := v = some (.int (if v1 = (61 : Int32) then (0 : Int32) else (if v2 = (61 : Int32) then (1 : Int32) else (-1 : Int32)))) ∧ Fr n0 L ∧ h = h0
set_option maxRecDepth 65536 in
set_option maxHeartbeats 40000000 in
theorem rm_Qx12 (l : Launch) (Z : State) (a0 : Array Value) (hw : ∀ d ∈ tables_1, d.before a0 Z = true) (o ar : Addr) (kk : ClassId) (v1 v2 : Int32) (cs : Int32) (sf : Value) (iso u8 : Addr) (h0 : Heap) (n0 : Nat) (Z0 : n0 ≤ h0.size) (Od : Old Z n0 h0) (SS : own_SS Z cs sf iso u8) (Es : Exa Z h0 o "java/lang/String") (Fc : Fld Z h0 o "java/lang/String" "coder" "B" (.int 0)) (Fv : Fld Z h0 o "java/lang/String" "value" "[B" (.ref ar)) (Va : Arv Z h0 ar kk .byte (2 : Int32) [(.int v1), (.int v2)] (.int 0)) :
    own_MG l Z ((⟨"java/lang/String", "indexOf", "(I)I"⟩ : MethodName)) jdk_42_method_79_code 2 (some .int) ({ frames := 3, cells := 0, slots := 0, locals := 46 } : Room) #[(.ref o), (.int 61)] h0 (Qx12 Z o ar kk v1 v2 cs sf iso u8 h0 n0) := by
  refine own_mkG (plainFor_of_name pn_java_lang_String) ?_
  intro p e s m below meth c s₁ X0 hx hby hml hown hnm hret hlk hZ e0
  have N0 := Fr.nil n0
  rw [ef_RI2 m o (61 : Int32)]
  refine own_vF m s₁ 1 #[vR o, vI (61 : Int32)] [(.ref o)] (fun t k => XS.aloadN X0.here hx rfl (hb hby d10_0) rfl rfl k) ?_
  refine own_vF m s₁ 2 #[vR o, vI (61 : Int32)] [(.int 61), (.ref o)] (fun t k => XS.iloadN X0.here hx rfl (hb hby d10_1) rfl k) ?_
  refine own_vF m s₁ 3 #[vR o, vI (61 : Int32)] [(.int 0), (.int 61), (.ref o)] (fun t k => XS.iconst X0.here hx rfl (hb hby d10_2) k) ?_
  obtain ⟨_, T1, L1, X1, hQ1, st1⟩ := own_callV X0 hx hZ (y := (⟨"java/lang/String", "indexOf", "(II)I"⟩ : MethodName)) (W := 0) (C := "java/lang/String") hown (hw _ (own_mt 43 rfl)) (hw _ (own_mt 44 rfl)) (hw _ (own_mt 46 rfl)) (hw _ (own_mt 45 rfl)) (hw _ (own_mt 12 rfl)) (hw _ (own_mt 47 rfl)) (by decide) (rm_Qx22 l Z a0 hw o ar kk v1 v2 cs sf iso u8 h0 n0 Z0 Od SS Es Fc Fv Va) (by decide) (by decide) e0 Es (g := (mkF m 3 #[vR o, vI (61 : Int32)] [(.int 0), (.int 61), (.ref o)])) rfl (by rw [hml]; rfl) (argsL := [(.int 61), (.int 0)]) (rest := []) rfl (lenOf pd_II__I rfl) rfl own_w0 (hb hby d10_3) (by decide) (by decide)
  obtain ⟨rfl, N1q, e1⟩ := hQ1
  have N1 := Fr.app N0 N1q
  refine own_vF m T1 6 #[vR o, vI (61 : Int32)] [(.int (if v1 = (61 : Int32) then (0 : Int32) else (if v2 = (61 : Int32) then (1 : Int32) else (-1 : Int32))))] (fun t k => st1 t k) ?_
  exact own_ret X1 (v := some (.int (if v1 = (61 : Int32) then (0 : Int32) else (if v2 = (61 : Int32) then (1 : Int32) else (-1 : Int32))))) (fun h => by rw [hret] at h; cases h) hlk (fun fs hr => retOut X1 hx (t := .int) hret rfl (Or.inl ⟨rfl, Or.inl rfl, _, rfl⟩) (hb hby d10_6) hr) (by rw [e1]; exact ⟨rfl, N1, rfl⟩) (by decide) (by decide)
def Qic3 (Z : State) (ar : Addr) (kk : ClassId) (v1 v2 v3 : Int32) (h0 : Heap) (n0 : Nat) (v : Option Value) (h : Heap) (L : List Loc) : Prop := v = some (.int (if v1 = (61 : Int32) then (0 : Int32) else (if v2 = (61 : Int32) then (1 : Int32) else (if v3 = (61 : Int32) then (2 : Int32) else (-1 : Int32))))) ∧ Fr n0 L ∧ h = h0
set_option maxRecDepth 65536 in
set_option maxHeartbeats 40000000 in
theorem rm_Qic3 (l : Launch) (Z : State) (a0 : Array Value) (hw : ∀ d ∈ tables_1, d.before a0 Z = true) (ar : Addr) (kk : ClassId) (v1 v2 v3 : Int32) (h0 : Heap) (n0 : Nat) (Z0 : n0 ≤ h0.size) (Va : Arv Z h0 ar kk .byte (3 : Int32) [(.int v1), (.int v2), (.int v3)] (.int 0)) :
    own_MG l Z ((⟨"java/lang/StringLatin1", "indexOfChar", "([BIII)I"⟩ : MethodName)) jdk_43_method_23_code 6 (some .int) ({ frames := 0, cells := 0, slots := 0, locals := 0 } : Room) #[(.ref ar), (.int 61), (.int 0), (.int 3)] h0 (Qic3 Z ar kk v1 v2 v3 h0 n0) := by
  refine own_mkG (plainFor_of_name pn_java_lang_StringLatin1) ?_
  intro p e s m below meth c s₁ X0 hx hby hml hown hnm hret hlk hZ e0
  have N0 := Fr.nil n0
  rw [ef_RIII6 m ar (61 : Int32) (0 : Int32) (3 : Int32)]
  refine own_vF m s₁ 1 #[vR ar, vI (61 : Int32), vI (0 : Int32), vI (3 : Int32), .unset, .unset] [(.int 61)] (fun t k => XS.iloadN X0.here hx rfl (hb hby d11_0) rfl k) ?_
  refine own_vF m s₁ 2 #[vR ar, vI (61 : Int32), vI (0 : Int32), vI (3 : Int32), .unset, .unset] [(.int ((61 : Int32).toInt8.toInt32))] (fun t k => XS.i2b X0.here hx rfl (hb hby d11_1) rfl k) ?_
  rw [show ((61 : Int32).toInt8.toInt32) = (61 : Int32) from by decide]
  refine own_vF m s₁ 4 #[vR ar, vI (61 : Int32), vI (0 : Int32), vI (3 : Int32), vI (61 : Int32), .unset] [] (fun t k => XS.istore X0.here hx rfl (hb hby d11_2) rfl (l' := #[vR ar, vI (61 : Int32), vI (0 : Int32), vI (3 : Int32), vI (61 : Int32), .unset]) rfl k) ?_
  refine own_vF m s₁ 5 #[vR ar, vI (61 : Int32), vI (0 : Int32), vI (3 : Int32), vI (61 : Int32), .unset] [(.int 0)] (fun t k => XS.iloadN X0.here hx rfl (hb hby d11_4) rfl k) ?_
  refine own_vF m s₁ 7 #[vR ar, vI (61 : Int32), vI (0 : Int32), vI (3 : Int32), vI (61 : Int32), vI (0 : Int32)] [] (fun t k => XS.istore X0.here hx rfl (hb hby d11_5) rfl (l' := #[vR ar, vI (61 : Int32), vI (0 : Int32), vI (3 : Int32), vI (61 : Int32), vI (0 : Int32)]) rfl k) ?_
  refine own_vF m s₁ 9 #[vR ar, vI (61 : Int32), vI (0 : Int32), vI (3 : Int32), vI (61 : Int32), vI (0 : Int32)] [(.int 0)] (fun t k => XS.iload X0.here hx rfl (hb hby d11_7) rfl k) ?_
  refine own_vF m s₁ 10 #[vR ar, vI (61 : Int32), vI (0 : Int32), vI (3 : Int32), vI (61 : Int32), vI (0 : Int32)] [(.int 3), (.int 0)] (fun t k => XS.iloadN X0.here hx rfl (hb hby d11_9) rfl k) ?_
  refine own_vF m s₁ 13 #[vR ar, vI (61 : Int32), vI (0 : Int32), vI (3 : Int32), vI (61 : Int32), vI (0 : Int32)] [] (fun t k => XS.icmpNo X0.here hx rfl (hb hby d11_10) rfl (tlt (by decide : ((0 : Int32) < (3 : Int32)))).2.1 k) ?_
  refine own_vF m s₁ 14 #[vR ar, vI (61 : Int32), vI (0 : Int32), vI (3 : Int32), vI (61 : Int32), vI (0 : Int32)] [(.ref ar)] (fun t k => XS.aloadN X0.here hx rfl (hb hby d11_13) rfl rfl k) ?_
  refine own_vF m s₁ 16 #[vR ar, vI (61 : Int32), vI (0 : Int32), vI (3 : Int32), vI (61 : Int32), vI (0 : Int32)] [(.int 0), (.ref ar)] (fun t k => XS.iload X0.here hx rfl (hb hby d11_14) rfl k) ?_
  obtain ⟨c1, Ar1, q1a, q1b, q1c, q1d, q1e⟩ := id Va
  refine own_vF m s₁ 17 #[vR ar, vI (61 : Int32), vI (0 : Int32), vI (3 : Int32), vI (61 : Int32), vI (0 : Int32)] [(.int v1)] (fun t k => X0.baloadBytes hx (j := (0 : Int32)) (v := (.int v1)) (by rw [e0]; exact Ar1.1) (State.isArrayOf_alike hZ.alike Ar1.2.1) Ar1.2.2 (inb_of q1b (by decide)) (q1d.at (inb_of q1b (by decide)) rfl) (g := (mkF m 16 #[vR ar, vI (61 : Int32), vI (0 : Int32), vI (3 : Int32), vI (61 : Int32), vI (0 : Int32)] [(.int 0), (.ref ar)])) rfl rfl (hb hby d11_16) _ k) ?_
  refine own_vF m s₁ 19 #[vR ar, vI (61 : Int32), vI (0 : Int32), vI (3 : Int32), vI (61 : Int32), vI (0 : Int32)] [(.int 61), (.int v1)] (fun t k => XS.iload X0.here hx rfl (hb hby d11_17) rfl k) ?_
  by_cases hc2 : v1 = (61 : Int32)
  case pos =>
    refine own_vF m s₁ 22 #[vR ar, vI (61 : Int32), vI (0 : Int32), vI (3 : Int32), vI (61 : Int32), vI (0 : Int32)] [] (fun t k => XS.icmpNo X0.here hx rfl (hb hby d11_19) rfl (teq hc2).2 k) ?_
    refine own_vF m s₁ 24 #[vR ar, vI (61 : Int32), vI (0 : Int32), vI (3 : Int32), vI (61 : Int32), vI (0 : Int32)] [(.int 0)] (fun t k => XS.iload X0.here hx rfl (hb hby d11_22) rfl k) ?_
    exact own_ret X0 (v := some (.int 0)) (fun h => by rw [hret] at h; cases h) hlk (fun fs hr => retOut X0 hx (t := .int) hret rfl (Or.inl ⟨rfl, Or.inl rfl, _, rfl⟩) (hb hby d11_24) hr) (by rw [e0]; exact ⟨by first | rfl | (simp only [if_pos hc2]), N0, rfl⟩) (by decide) (by decide)
  case neg =>
    refine own_vF m s₁ 25 #[vR ar, vI (61 : Int32), vI (0 : Int32), vI (3 : Int32), vI (61 : Int32), vI (0 : Int32)] [] (fun t k => XS.icmpYes X0.here hx rfl (pc0 := 19) (pc' := 25) rfl (hb hby d11_19) rfl (feq hc2).2 (by decide) (by decide) k) ?_
    refine own_vF m s₁ 28 #[vR ar, vI (61 : Int32), vI (0 : Int32), vI (3 : Int32), vI (61 : Int32), .val (.int ((0 : Int32) + (1 : Int32)))] [] (fun t k => XS.iinc X0.here hx rfl (hb hby d11_25) rfl (l' := #[vR ar, vI (61 : Int32), vI (0 : Int32), vI (3 : Int32), vI (61 : Int32), .val (.int ((0 : Int32) + (1 : Int32)))]) rfl k) ?_
    rw [show ((0 : Int32) + (1 : Int32)) = (1 : Int32) from by decide]
    refine own_vF m s₁ 7 #[vR ar, vI (61 : Int32), vI (0 : Int32), vI (3 : Int32), vI (61 : Int32), vI (1 : Int32)] [] (fun t k => XS.goto X0.here hx rfl (pc0 := 28) (pc' := 7) rfl (hb hby d11_28) (by decide) (by decide) k) ?_
    refine own_vF m s₁ 9 #[vR ar, vI (61 : Int32), vI (0 : Int32), vI (3 : Int32), vI (61 : Int32), vI (1 : Int32)] [(.int 1)] (fun t k => XS.iload X0.here hx rfl (hb hby d11_7) rfl k) ?_
    refine own_vF m s₁ 10 #[vR ar, vI (61 : Int32), vI (0 : Int32), vI (3 : Int32), vI (61 : Int32), vI (1 : Int32)] [(.int 3), (.int 1)] (fun t k => XS.iloadN X0.here hx rfl (hb hby d11_9) rfl k) ?_
    refine own_vF m s₁ 13 #[vR ar, vI (61 : Int32), vI (0 : Int32), vI (3 : Int32), vI (61 : Int32), vI (1 : Int32)] [] (fun t k => XS.icmpNo X0.here hx rfl (hb hby d11_10) rfl (tlt (by decide : ((1 : Int32) < (3 : Int32)))).2.1 k) ?_
    refine own_vF m s₁ 14 #[vR ar, vI (61 : Int32), vI (0 : Int32), vI (3 : Int32), vI (61 : Int32), vI (1 : Int32)] [(.ref ar)] (fun t k => XS.aloadN X0.here hx rfl (hb hby d11_13) rfl rfl k) ?_
    refine own_vF m s₁ 16 #[vR ar, vI (61 : Int32), vI (0 : Int32), vI (3 : Int32), vI (61 : Int32), vI (1 : Int32)] [(.int 1), (.ref ar)] (fun t k => XS.iload X0.here hx rfl (hb hby d11_14) rfl k) ?_
    obtain ⟨c3, Ar3, q3a, q3b, q3c, q3d, q3e⟩ := id Va
    refine own_vF m s₁ 17 #[vR ar, vI (61 : Int32), vI (0 : Int32), vI (3 : Int32), vI (61 : Int32), vI (1 : Int32)] [(.int v2)] (fun t k => X0.baloadBytes hx (j := (1 : Int32)) (v := (.int v2)) (by rw [e0]; exact Ar3.1) (State.isArrayOf_alike hZ.alike Ar3.2.1) Ar3.2.2 (inb_of q3b (by decide)) (q3d.at (inb_of q3b (by decide)) rfl) (g := (mkF m 16 #[vR ar, vI (61 : Int32), vI (0 : Int32), vI (3 : Int32), vI (61 : Int32), vI (1 : Int32)] [(.int 1), (.ref ar)])) rfl rfl (hb hby d11_16) _ k) ?_
    refine own_vF m s₁ 19 #[vR ar, vI (61 : Int32), vI (0 : Int32), vI (3 : Int32), vI (61 : Int32), vI (1 : Int32)] [(.int 61), (.int v2)] (fun t k => XS.iload X0.here hx rfl (hb hby d11_17) rfl k) ?_
    by_cases hc4 : v2 = (61 : Int32)
    case pos =>
      refine own_vF m s₁ 22 #[vR ar, vI (61 : Int32), vI (0 : Int32), vI (3 : Int32), vI (61 : Int32), vI (1 : Int32)] [] (fun t k => XS.icmpNo X0.here hx rfl (hb hby d11_19) rfl (teq hc4).2 k) ?_
      refine own_vF m s₁ 24 #[vR ar, vI (61 : Int32), vI (0 : Int32), vI (3 : Int32), vI (61 : Int32), vI (1 : Int32)] [(.int 1)] (fun t k => XS.iload X0.here hx rfl (hb hby d11_22) rfl k) ?_
      exact own_ret X0 (v := some (.int 1)) (fun h => by rw [hret] at h; cases h) hlk (fun fs hr => retOut X0 hx (t := .int) hret rfl (Or.inl ⟨rfl, Or.inl rfl, _, rfl⟩) (hb hby d11_24) hr) (by rw [e0]; exact ⟨by first | rfl | (simp only [if_neg hc2, if_pos hc4]), N0, rfl⟩) (by decide) (by decide)
    case neg =>
      refine own_vF m s₁ 25 #[vR ar, vI (61 : Int32), vI (0 : Int32), vI (3 : Int32), vI (61 : Int32), vI (1 : Int32)] [] (fun t k => XS.icmpYes X0.here hx rfl (pc0 := 19) (pc' := 25) rfl (hb hby d11_19) rfl (feq hc4).2 (by decide) (by decide) k) ?_
      refine own_vF m s₁ 28 #[vR ar, vI (61 : Int32), vI (0 : Int32), vI (3 : Int32), vI (61 : Int32), .val (.int ((1 : Int32) + (1 : Int32)))] [] (fun t k => XS.iinc X0.here hx rfl (hb hby d11_25) rfl (l' := #[vR ar, vI (61 : Int32), vI (0 : Int32), vI (3 : Int32), vI (61 : Int32), .val (.int ((1 : Int32) + (1 : Int32)))]) rfl k) ?_
      rw [show ((1 : Int32) + (1 : Int32)) = (2 : Int32) from by decide]
      refine own_vF m s₁ 7 #[vR ar, vI (61 : Int32), vI (0 : Int32), vI (3 : Int32), vI (61 : Int32), vI (2 : Int32)] [] (fun t k => XS.goto X0.here hx rfl (pc0 := 28) (pc' := 7) rfl (hb hby d11_28) (by decide) (by decide) k) ?_
      refine own_vF m s₁ 9 #[vR ar, vI (61 : Int32), vI (0 : Int32), vI (3 : Int32), vI (61 : Int32), vI (2 : Int32)] [(.int 2)] (fun t k => XS.iload X0.here hx rfl (hb hby d11_7) rfl k) ?_
      refine own_vF m s₁ 10 #[vR ar, vI (61 : Int32), vI (0 : Int32), vI (3 : Int32), vI (61 : Int32), vI (2 : Int32)] [(.int 3), (.int 2)] (fun t k => XS.iloadN X0.here hx rfl (hb hby d11_9) rfl k) ?_
      refine own_vF m s₁ 13 #[vR ar, vI (61 : Int32), vI (0 : Int32), vI (3 : Int32), vI (61 : Int32), vI (2 : Int32)] [] (fun t k => XS.icmpNo X0.here hx rfl (hb hby d11_10) rfl (tlt (by decide : ((2 : Int32) < (3 : Int32)))).2.1 k) ?_
      refine own_vF m s₁ 14 #[vR ar, vI (61 : Int32), vI (0 : Int32), vI (3 : Int32), vI (61 : Int32), vI (2 : Int32)] [(.ref ar)] (fun t k => XS.aloadN X0.here hx rfl (hb hby d11_13) rfl rfl k) ?_
      refine own_vF m s₁ 16 #[vR ar, vI (61 : Int32), vI (0 : Int32), vI (3 : Int32), vI (61 : Int32), vI (2 : Int32)] [(.int 2), (.ref ar)] (fun t k => XS.iload X0.here hx rfl (hb hby d11_14) rfl k) ?_
      obtain ⟨c5, Ar5, q5a, q5b, q5c, q5d, q5e⟩ := id Va
      refine own_vF m s₁ 17 #[vR ar, vI (61 : Int32), vI (0 : Int32), vI (3 : Int32), vI (61 : Int32), vI (2 : Int32)] [(.int v3)] (fun t k => X0.baloadBytes hx (j := (2 : Int32)) (v := (.int v3)) (by rw [e0]; exact Ar5.1) (State.isArrayOf_alike hZ.alike Ar5.2.1) Ar5.2.2 (inb_of q5b (by decide)) (q5d.at (inb_of q5b (by decide)) rfl) (g := (mkF m 16 #[vR ar, vI (61 : Int32), vI (0 : Int32), vI (3 : Int32), vI (61 : Int32), vI (2 : Int32)] [(.int 2), (.ref ar)])) rfl rfl (hb hby d11_16) _ k) ?_
      refine own_vF m s₁ 19 #[vR ar, vI (61 : Int32), vI (0 : Int32), vI (3 : Int32), vI (61 : Int32), vI (2 : Int32)] [(.int 61), (.int v3)] (fun t k => XS.iload X0.here hx rfl (hb hby d11_17) rfl k) ?_
      by_cases hc6 : v3 = (61 : Int32)
      case pos =>
        refine own_vF m s₁ 22 #[vR ar, vI (61 : Int32), vI (0 : Int32), vI (3 : Int32), vI (61 : Int32), vI (2 : Int32)] [] (fun t k => XS.icmpNo X0.here hx rfl (hb hby d11_19) rfl (teq hc6).2 k) ?_
        refine own_vF m s₁ 24 #[vR ar, vI (61 : Int32), vI (0 : Int32), vI (3 : Int32), vI (61 : Int32), vI (2 : Int32)] [(.int 2)] (fun t k => XS.iload X0.here hx rfl (hb hby d11_22) rfl k) ?_
        exact own_ret X0 (v := some (.int 2)) (fun h => by rw [hret] at h; cases h) hlk (fun fs hr => retOut X0 hx (t := .int) hret rfl (Or.inl ⟨rfl, Or.inl rfl, _, rfl⟩) (hb hby d11_24) hr) (by rw [e0]; exact ⟨by first | rfl | (simp only [if_neg hc2, if_neg hc4, if_pos hc6]), N0, rfl⟩) (by decide) (by decide)
      case neg =>
        refine own_vF m s₁ 25 #[vR ar, vI (61 : Int32), vI (0 : Int32), vI (3 : Int32), vI (61 : Int32), vI (2 : Int32)] [] (fun t k => XS.icmpYes X0.here hx rfl (pc0 := 19) (pc' := 25) rfl (hb hby d11_19) rfl (feq hc6).2 (by decide) (by decide) k) ?_
        refine own_vF m s₁ 28 #[vR ar, vI (61 : Int32), vI (0 : Int32), vI (3 : Int32), vI (61 : Int32), .val (.int ((2 : Int32) + (1 : Int32)))] [] (fun t k => XS.iinc X0.here hx rfl (hb hby d11_25) rfl (l' := #[vR ar, vI (61 : Int32), vI (0 : Int32), vI (3 : Int32), vI (61 : Int32), .val (.int ((2 : Int32) + (1 : Int32)))]) rfl k) ?_
        rw [show ((2 : Int32) + (1 : Int32)) = (3 : Int32) from by decide]
        refine own_vF m s₁ 7 #[vR ar, vI (61 : Int32), vI (0 : Int32), vI (3 : Int32), vI (61 : Int32), vI (3 : Int32)] [] (fun t k => XS.goto X0.here hx rfl (pc0 := 28) (pc' := 7) rfl (hb hby d11_28) (by decide) (by decide) k) ?_
        refine own_vF m s₁ 9 #[vR ar, vI (61 : Int32), vI (0 : Int32), vI (3 : Int32), vI (61 : Int32), vI (3 : Int32)] [(.int 3)] (fun t k => XS.iload X0.here hx rfl (hb hby d11_7) rfl k) ?_
        refine own_vF m s₁ 10 #[vR ar, vI (61 : Int32), vI (0 : Int32), vI (3 : Int32), vI (61 : Int32), vI (3 : Int32)] [(.int 3), (.int 3)] (fun t k => XS.iloadN X0.here hx rfl (hb hby d11_9) rfl k) ?_
        refine own_vF m s₁ 31 #[vR ar, vI (61 : Int32), vI (0 : Int32), vI (3 : Int32), vI (61 : Int32), vI (3 : Int32)] [] (fun t k => XS.icmpYes X0.here hx rfl (pc0 := 10) (pc' := 31) rfl (hb hby d11_10) rfl (flt (by decide : ¬ ((3 : Int32) < (3 : Int32)))).2.1 (by decide) (by decide) k) ?_
        refine own_vF m s₁ 32 #[vR ar, vI (61 : Int32), vI (0 : Int32), vI (3 : Int32), vI (61 : Int32), vI (3 : Int32)] [(.int (-1))] (fun t k => XS.iconst X0.here hx rfl (hb hby d11_31) k) ?_
        exact own_ret X0 (v := some (.int (-1))) (fun h => by rw [hret] at h; cases h) hlk (fun fs hr => retOut X0 hx (t := .int) hret rfl (Or.inl ⟨rfl, Or.inl rfl, _, rfl⟩) (hb hby d11_32) hr) (by rw [e0]; exact ⟨by first | rfl | (simp only [if_neg hc2, if_neg hc4, if_neg hc6]), N0, rfl⟩) (by decide) (by decide)
def Qlx3 (Z : State) (ar : Addr) (kk : ClassId) (v1 v2 v3 : Int32) (h0 : Heap) (n0 : Nat) (v : Option Value) (h : Heap) (L : List Loc) : Prop := v = some (.int (if v1 = (61 : Int32) then (0 : Int32) else (if v2 = (61 : Int32) then (1 : Int32) else (if v3 = (61 : Int32) then (2 : Int32) else (-1 : Int32))))) ∧ Fr n0 L ∧ h = h0
set_option maxRecDepth 65536 in
set_option maxHeartbeats 40000000 in
theorem rm_Qlx3 (l : Launch) (Z : State) (a0 : Array Value) (hw : ∀ d ∈ tables_1, d.before a0 Z = true) (ar : Addr) (kk : ClassId) (v1 v2 v3 : Int32) (h0 : Heap) (n0 : Nat) (Z0 : n0 ≤ h0.size) (Va : Arv Z h0 ar kk .byte (3 : Int32) [(.int v1), (.int v2), (.int v3)] (.int 0)) :
    own_MG l Z ((⟨"java/lang/StringLatin1", "indexOf", "([BIII)I"⟩ : MethodName)) jdk_43_method_22_code 4 (some .int) ({ frames := 1, cells := 0, slots := 0, locals := 17 } : Room) #[(.ref ar), (.int 61), (.int 0), (.int 3)] h0 (Qlx3 Z ar kk v1 v2 v3 h0 n0) := by
  refine own_mkG (plainFor_of_name pn_java_lang_StringLatin1) ?_
  intro p e s m below meth c s₁ X0 hx hby hml hown hnm hret hlk hZ e0
  have N0 := Fr.nil n0
  rw [ef_RIII4 m ar (61 : Int32) (0 : Int32) (3 : Int32)]
  refine own_vF m s₁ 1 #[vR ar, vI (61 : Int32), vI (0 : Int32), vI (3 : Int32)] [(.int 61)] (fun t k => XS.iloadN X0.here hx rfl (hb hby d8_0) rfl k) ?_
  obtain ⟨_, T1, L1, X1, hQ1, st1⟩ := own_callS X0 hx hZ (y := (⟨"java/lang/StringLatin1", "canEncode", "(I)Z"⟩ : MethodName)) (W := 0) hown (hw _ (own_mt 68 rfl)) (hw _ (own_mt 69 rfl)) (hw _ (own_mt 66 rfl)) (hw _ (own_mt 70 rfl)) (by decide) (rm_Qce l Z a0 hw  h0 n0 Z0) (by decide) (by decide) e0 (g := (mkF m 1 #[vR ar, vI (61 : Int32), vI (0 : Int32), vI (3 : Int32)] [(.int 61)])) rfl (by rw [hml]; rfl) (argsL := [(.int 61)]) (rest := []) rfl (lenOf pd_I__Z rfl) rfl own_w0 (hb hby d8_1) (by decide) (by decide)
  obtain ⟨rfl, N1q, e1⟩ := hQ1
  have N1 := Fr.app N0 N1q
  refine own_vF m T1 4 #[vR ar, vI (61 : Int32), vI (0 : Int32), vI (3 : Int32)] [(.int 1)] (fun t k => st1 t k) ?_
  refine own_vF m T1 9 #[vR ar, vI (61 : Int32), vI (0 : Int32), vI (3 : Int32)] [] (fun t k => XS.ifYes X1.here hx rfl (pc0 := 4) (pc' := 9) rfl (hb hby d8_4) rfl ((if0 _ _).trans (feq (by decide : ¬ ((1 : Int32) = (0 : Int32)))).2) (by decide) (by decide) k) ?_
  refine own_vF m T1 10 #[vR ar, vI (61 : Int32), vI (0 : Int32), vI (3 : Int32)] [(.int 0)] (fun t k => XS.iloadN X1.here hx rfl (hb hby d8_9) rfl k) ?_
  refine own_vF m T1 11 #[vR ar, vI (61 : Int32), vI (0 : Int32), vI (3 : Int32)] [(.int 0), (.int 0)] (fun t k => XS.iconst X1.here hx rfl (hb hby d8_10) k) ?_
  obtain ⟨_, T2, L2, X2, hQ2, st2⟩ := own_callS X1 hx hZ (y := (⟨"java/lang/Math", "max", "(II)I"⟩ : MethodName)) (W := 0) hown (hw _ (own_mt 71 rfl)) (hw _ (own_mt 72 rfl)) (hw _ (own_mt 73 rfl)) (hw _ (own_mt 74 rfl)) (by decide) (rm_Qmax l Z a0 hw (0 : Int32) (0 : Int32) h0 n0 Z0) (by decide) (by decide) e1 (g := (mkF m 11 #[vR ar, vI (61 : Int32), vI (0 : Int32), vI (3 : Int32)] [(.int 0), (.int 0)])) rfl (by rw [hml]; rfl) (argsL := [(.int 0), (.int 0)]) (rest := []) rfl (lenOf pd_II__I rfl) rfl own_w0 (hb hby d8_11) (by decide) (by decide)
  obtain ⟨rfl, N2q, e2⟩ := hQ2
  have N2 := Fr.app N1 N2q
  refine own_vF m T2 14 #[vR ar, vI (61 : Int32), vI (0 : Int32), vI (3 : Int32)] [(.int (if (0 : Int32) < (0 : Int32) then (0 : Int32) else (0 : Int32)))] (fun t k => st2 t k) ?_
  rw [show (if (0 : Int32) < (0 : Int32) then (0 : Int32) else (0 : Int32)) = (0 : Int32) from by decide]
  refine own_vF m T2 15 #[vR ar, vI (61 : Int32), vI (0 : Int32), vI (3 : Int32)] [] (fun t k => XS.istoreN X2.here hx rfl (hb hby d8_14) rfl (l' := #[vR ar, vI (61 : Int32), vI (0 : Int32), vI (3 : Int32)]) rfl k) ?_
  refine own_vF m T2 16 #[vR ar, vI (61 : Int32), vI (0 : Int32), vI (3 : Int32)] [(.int 3)] (fun t k => XS.iloadN X2.here hx rfl (hb hby d8_15) rfl k) ?_
  refine own_vF m T2 17 #[vR ar, vI (61 : Int32), vI (0 : Int32), vI (3 : Int32)] [(.ref ar), (.int 3)] (fun t k => XS.aloadN X2.here hx rfl (hb hby d8_16) rfl rfl k) ?_
  obtain ⟨c3, Ar3, q3a, q3b, q3c, q3d, q3e⟩ := id Va
  refine own_vF m T2 18 #[vR ar, vI (61 : Int32), vI (0 : Int32), vI (3 : Int32)] [(.int 3), (.int 3)] (fun t k => (fun t k => X2.arraylength hx (by rw [e2]; exact Ar3.1) (State.isArrayOf_alike hZ.alike Ar3.2.1) (g := (mkF m 17 #[vR ar, vI (61 : Int32), vI (0 : Int32), vI (3 : Int32)] [(.ref ar), (.int 3)])) rfl rfl (hb hby d8_17) t (by rw [len_of q3b q3c]; exact k)) t k) ?_
  obtain ⟨_, T4, L4, X4, hQ4, st4⟩ := own_callS X2 hx hZ (y := (⟨"java/lang/Math", "min", "(II)I"⟩ : MethodName)) (W := 0) hown (hw _ (own_mt 75 rfl)) (hw _ (own_mt 76 rfl)) (hw _ (own_mt 73 rfl)) (hw _ (own_mt 77 rfl)) (by decide) (rm_Qmin l Z a0 hw (3 : Int32) (3 : Int32) h0 n0 Z0) (by decide) (by decide) e2 (g := (mkF m 18 #[vR ar, vI (61 : Int32), vI (0 : Int32), vI (3 : Int32)] [(.int 3), (.int 3)])) rfl (by rw [hml]; rfl) (argsL := [(.int 3), (.int 3)]) (rest := []) rfl (lenOf pd_II__I rfl) rfl own_w0 (hb hby d8_18) (by decide) (by decide)
  obtain ⟨rfl, N4q, e4⟩ := hQ4
  have N4 := Fr.app N2 N4q
  refine own_vF m T4 21 #[vR ar, vI (61 : Int32), vI (0 : Int32), vI (3 : Int32)] [(.int (if (3 : Int32) < (3 : Int32) then (3 : Int32) else (3 : Int32)))] (fun t k => st4 t k) ?_
  rw [show (if (3 : Int32) < (3 : Int32) then (3 : Int32) else (3 : Int32)) = (3 : Int32) from by decide]
  refine own_vF m T4 22 #[vR ar, vI (61 : Int32), vI (0 : Int32), vI (3 : Int32)] [] (fun t k => XS.istoreN X4.here hx rfl (hb hby d8_21) rfl (l' := #[vR ar, vI (61 : Int32), vI (0 : Int32), vI (3 : Int32)]) rfl k) ?_
  refine own_vF m T4 23 #[vR ar, vI (61 : Int32), vI (0 : Int32), vI (3 : Int32)] [(.int 0)] (fun t k => XS.iloadN X4.here hx rfl (hb hby d8_22) rfl k) ?_
  refine own_vF m T4 24 #[vR ar, vI (61 : Int32), vI (0 : Int32), vI (3 : Int32)] [(.int 3), (.int 0)] (fun t k => XS.iloadN X4.here hx rfl (hb hby d8_23) rfl k) ?_
  refine own_vF m T4 29 #[vR ar, vI (61 : Int32), vI (0 : Int32), vI (3 : Int32)] [] (fun t k => XS.icmpYes X4.here hx rfl (pc0 := 24) (pc' := 29) rfl (hb hby d8_24) rfl (tlt (by decide : ((0 : Int32) < (3 : Int32)))).1 (by decide) (by decide) k) ?_
  refine own_vF m T4 30 #[vR ar, vI (61 : Int32), vI (0 : Int32), vI (3 : Int32)] [(.ref ar)] (fun t k => XS.aloadN X4.here hx rfl (hb hby d8_29) rfl rfl k) ?_
  refine own_vF m T4 31 #[vR ar, vI (61 : Int32), vI (0 : Int32), vI (3 : Int32)] [(.int 61), (.ref ar)] (fun t k => XS.iloadN X4.here hx rfl (hb hby d8_30) rfl k) ?_
  refine own_vF m T4 32 #[vR ar, vI (61 : Int32), vI (0 : Int32), vI (3 : Int32)] [(.int 0), (.int 61), (.ref ar)] (fun t k => XS.iloadN X4.here hx rfl (hb hby d8_31) rfl k) ?_
  refine own_vF m T4 33 #[vR ar, vI (61 : Int32), vI (0 : Int32), vI (3 : Int32)] [(.int 3), (.int 0), (.int 61), (.ref ar)] (fun t k => XS.iloadN X4.here hx rfl (hb hby d8_32) rfl k) ?_
  obtain ⟨_, T5, L5, X5, hQ5, st5⟩ := own_callS X4 hx hZ (y := (⟨"java/lang/StringLatin1", "indexOfChar", "([BIII)I"⟩ : MethodName)) (W := 0) hown (hw _ (own_mt 110 rfl)) (hw _ (own_mt 111 rfl)) (hw _ (own_mt 66 rfl)) (hw _ (own_mt 112 rfl)) (by decide) (rm_Qic3 l Z a0 hw ar kk v1 v2 v3 h0 n0 Z0 Va) (by decide) (by decide) e4 (g := (mkF m 33 #[vR ar, vI (61 : Int32), vI (0 : Int32), vI (3 : Int32)] [(.int 3), (.int 0), (.int 61), (.ref ar)])) rfl (by rw [hml]; rfl) (argsL := [(.ref ar), (.int 61), (.int 0), (.int 3)]) (rest := []) rfl (lenOf pd_ABIII__I rfl) rfl own_w0 (hb hby d8_33) (by decide) (by decide)
  obtain ⟨rfl, N5q, e5⟩ := hQ5
  have N5 := Fr.app N4 N5q
  refine own_vF m T5 36 #[vR ar, vI (61 : Int32), vI (0 : Int32), vI (3 : Int32)] [(.int (if v1 = (61 : Int32) then (0 : Int32) else (if v2 = (61 : Int32) then (1 : Int32) else (if v3 = (61 : Int32) then (2 : Int32) else (-1 : Int32)))))] (fun t k => st5 t k) ?_
  exact own_ret X5 (v := some (.int (if v1 = (61 : Int32) then (0 : Int32) else (if v2 = (61 : Int32) then (1 : Int32) else (if v3 = (61 : Int32) then (2 : Int32) else (-1 : Int32)))))) (fun h => by rw [hret] at h; cases h) hlk (fun fs hr => retOut X5 hx (t := .int) hret rfl (Or.inl ⟨rfl, Or.inl rfl, _, rfl⟩) (hb hby d8_36) hr) (by rw [e5]; exact ⟨rfl, N5, rfl⟩) (by decide) (by decide)
def Qx23 (Z : State) (o ar : Addr) (kk : ClassId) (v1 v2 v3 : Int32) (cs : Int32) (sf : Value) (iso u8 : Addr) (h0 : Heap) (n0 : Nat) (v : Option Value) (h : Heap) (L : List Loc) : Prop := v = some (.int (if v1 = (61 : Int32) then (0 : Int32) else (if v2 = (61 : Int32) then (1 : Int32) else (if v3 = (61 : Int32) then (2 : Int32) else (-1 : Int32))))) ∧ Fr n0 L ∧ h = h0
set_option maxRecDepth 65536 in
set_option maxHeartbeats 40000000 in
theorem rm_Qx23 (l : Launch) (Z : State) (a0 : Array Value) (hw : ∀ d ∈ tables_1, d.before a0 Z = true) (o ar : Addr) (kk : ClassId) (v1 v2 v3 : Int32) (cs : Int32) (sf : Value) (iso u8 : Addr) (h0 : Heap) (n0 : Nat) (Z0 : n0 ≤ h0.size) (Od : Old Z n0 h0) (SS : own_SS Z cs sf iso u8) (Es : Exa Z h0 o "java/lang/String") (Fc : Fld Z h0 o "java/lang/String" "coder" "B" (.int 0)) (Fv : Fld Z h0 o "java/lang/String" "value" "[B" (.ref ar)) (Va : Arv Z h0 ar kk .byte (3 : Int32) [(.int v1), (.int v2), (.int v3)] (.int 0)) :
    own_MG l Z ((⟨"java/lang/String", "indexOf", "(II)I"⟩ : MethodName)) jdk_42_method_80_code 3 (some .int) ({ frames := 2, cells := 0, slots := 0, locals := 32 } : Room) #[(.ref o), (.int 61), (.int 0)] h0 (Qx23 Z o ar kk v1 v2 v3 cs sf iso u8 h0 n0) := by
  refine own_mkG (plainFor_of_name pn_java_lang_String) ?_
  intro p e s m below meth c s₁ X0 hx hby hml hown hnm hret hlk hZ e0
  have N0 := Fr.nil n0
  rw [ef_RII3 m o (61 : Int32) (0 : Int32)]
  refine own_vF m s₁ 1 #[vR o, vI (61 : Int32), vI (0 : Int32)] [(.ref o)] (fun t k => XS.aloadN X0.here hx rfl (hb hby d9_0) rfl rfl k) ?_
  obtain ⟨_, T1, L1, X1, hQ1, st1⟩ := own_callV X0 hx hZ (y := (⟨"java/lang/String", "isLatin1", "()Z"⟩ : MethodName)) (W := 0) (C := "java/lang/String") hown (hw _ (own_mt 48 rfl)) (hw _ (own_mt 49 rfl)) (hw _ (own_mt 51 rfl)) (hw _ (own_mt 50 rfl)) (hw _ (own_mt 12 rfl)) (hw _ (own_mt 52 rfl)) (by decide) (rm_Ql1 l Z a0 hw o ar cs sf iso u8 h0 n0 Z0 Od SS Es Fc Fv) (by decide) (by decide) e0 Es (g := (mkF m 1 #[vR o, vI (61 : Int32), vI (0 : Int32)] [(.ref o)])) rfl (by rw [hml]; rfl) (argsL := []) (rest := []) rfl (lenOf pd___Z rfl) rfl own_w0 (hb hby d9_1) (by decide) (by decide)
  obtain ⟨rfl, N1q, e1⟩ := hQ1
  have N1 := Fr.app N0 N1q
  refine own_vF m T1 4 #[vR o, vI (61 : Int32), vI (0 : Int32)] [(.int 1)] (fun t k => st1 t k) ?_
  refine own_vF m T1 7 #[vR o, vI (61 : Int32), vI (0 : Int32)] [] (fun t k => XS.ifNo X1.here hx rfl (hb hby d9_4) rfl ((if0 _ _).trans (feq (by decide : ¬ ((1 : Int32) = (0 : Int32)))).1) k) ?_
  refine own_vF m T1 8 #[vR o, vI (61 : Int32), vI (0 : Int32)] [(.ref o)] (fun t k => XS.aloadN X1.here hx rfl (hb hby d9_7) rfl rfl k) ?_
  obtain ⟨T2, X2, e2, st2⟩ := getF (host := "") X1 hx hZ hown (Or.inl (hw _ (own_mt 36 rfl))) Via.refl e1 Fv (g := (mkF m 8 #[vR o, vI (61 : Int32), vI (0 : Int32)] [(.ref o)])) rfl rfl (hb hby d9_8)
  refine own_vF m T2 11 #[vR o, vI (61 : Int32), vI (0 : Int32)] [(.ref ar)] (fun t k => st2 t k) ?_
  refine own_vF m T2 12 #[vR o, vI (61 : Int32), vI (0 : Int32)] [(.int 61), (.ref ar)] (fun t k => XS.iloadN X2.here hx rfl (hb hby d9_11) rfl k) ?_
  refine own_vF m T2 13 #[vR o, vI (61 : Int32), vI (0 : Int32)] [(.int 0), (.int 61), (.ref ar)] (fun t k => XS.iloadN X2.here hx rfl (hb hby d9_12) rfl k) ?_
  refine own_vF m T2 14 #[vR o, vI (61 : Int32), vI (0 : Int32)] [(.ref o), (.int 0), (.int 61), (.ref ar)] (fun t k => XS.aloadN X2.here hx rfl (hb hby d9_13) rfl rfl k) ?_
  obtain ⟨_, T3, L3, X3, hQ3, st3⟩ := own_callV X2 hx hZ (y := (⟨"java/lang/String", "length", "()I"⟩ : MethodName)) (W := 3) (C := "java/lang/String") hown (hw _ (own_mt 54 rfl)) (hw _ (own_mt 55 rfl)) (hw _ (own_mt 57 rfl)) (hw _ (own_mt 56 rfl)) (hw _ (own_mt 12 rfl)) (hw _ (own_mt 58 rfl)) (by decide) (rm_Qln3 l Z a0 hw o ar kk v1 v2 v3 cs sf iso u8 h0 n0 Z0 Od SS Es Fc Fv Va) (by decide) (by decide) e2 Es (g := (mkF m 14 #[vR o, vI (61 : Int32), vI (0 : Int32)] [(.ref o), (.int 0), (.int 61), (.ref ar)])) rfl (by rw [hml]; rfl) (argsL := []) (rest := [(.int 0), (.int 61), (.ref ar)]) rfl (lenOf pd___I rfl) rfl own_w0 (hb hby d9_14) (by decide) (by decide)
  obtain ⟨rfl, N3q, e3⟩ := hQ3
  have N3 := Fr.app N1 N3q
  refine own_vF m T3 17 #[vR o, vI (61 : Int32), vI (0 : Int32)] [(.int 3), (.int 0), (.int 61), (.ref ar)] (fun t k => st3 t k) ?_
  obtain ⟨_, T4, L4, X4, hQ4, st4⟩ := own_callS X3 hx hZ (y := (⟨"java/lang/StringLatin1", "indexOf", "([BIII)I"⟩ : MethodName)) (W := 0) hown (hw _ (own_mt 64 rfl)) (hw _ (own_mt 65 rfl)) (hw _ (own_mt 66 rfl)) (hw _ (own_mt 67 rfl)) (by decide) (rm_Qlx3 l Z a0 hw ar kk v1 v2 v3 h0 n0 Z0 Va) (by decide) (by decide) e3 (g := (mkF m 17 #[vR o, vI (61 : Int32), vI (0 : Int32)] [(.int 3), (.int 0), (.int 61), (.ref ar)])) rfl (by rw [hml]; rfl) (argsL := [(.ref ar), (.int 61), (.int 0), (.int 3)]) (rest := []) rfl (lenOf pd_ABIII__I rfl) rfl own_w0 (hb hby d9_17) (by decide) (by decide)
  obtain ⟨rfl, N4q, e4⟩ := hQ4
  have N4 := Fr.app N3 N4q
  refine own_vF m T4 20 #[vR o, vI (61 : Int32), vI (0 : Int32)] [(.int (if v1 = (61 : Int32) then (0 : Int32) else (if v2 = (61 : Int32) then (1 : Int32) else (if v3 = (61 : Int32) then (2 : Int32) else (-1 : Int32)))))] (fun t k => st4 t k) ?_
  refine own_vF m T4 36 #[vR o, vI (61 : Int32), vI (0 : Int32)] [(.int (if v1 = (61 : Int32) then (0 : Int32) else (if v2 = (61 : Int32) then (1 : Int32) else (if v3 = (61 : Int32) then (2 : Int32) else (-1 : Int32)))))] (fun t k => XS.goto X4.here hx rfl (pc0 := 20) (pc' := 36) rfl (hb hby d9_20) (by decide) (by decide) k) ?_
  exact own_ret X4 (v := some (.int (if v1 = (61 : Int32) then (0 : Int32) else (if v2 = (61 : Int32) then (1 : Int32) else (if v3 = (61 : Int32) then (2 : Int32) else (-1 : Int32)))))) (fun h => by rw [hret] at h; cases h) hlk (fun fs hr => retOut X4 hx (t := .int) hret rfl (Or.inl ⟨rfl, Or.inl rfl, _, rfl⟩) (hb hby d9_36) hr) (by rw [e4]; exact ⟨rfl, N4, rfl⟩) (by decide) (by decide)
def Qx13 (Z : State) (o ar : Addr) (kk : ClassId) (v1 v2 v3 : Int32) (cs : Int32) (sf : Value) (iso u8 : Addr) (h0 : Heap) (n0 : Nat) (v : Option Value) (h : Heap) (L : List Loc) : Prop := v = some (.int (if v1 = (61 : Int32) then (0 : Int32) else (if v2 = (61 : Int32) then (1 : Int32) else (if v3 = (61 : Int32) then (2 : Int32) else (-1 : Int32))))) ∧ Fr n0 L ∧ h = h0
set_option maxRecDepth 65536 in
set_option maxHeartbeats 40000000 in
theorem rm_Qx13 (l : Launch) (Z : State) (a0 : Array Value) (hw : ∀ d ∈ tables_1, d.before a0 Z = true) (o ar : Addr) (kk : ClassId) (v1 v2 v3 : Int32) (cs : Int32) (sf : Value) (iso u8 : Addr) (h0 : Heap) (n0 : Nat) (Z0 : n0 ≤ h0.size) (Od : Old Z n0 h0) (SS : own_SS Z cs sf iso u8) (Es : Exa Z h0 o "java/lang/String") (Fc : Fld Z h0 o "java/lang/String" "coder" "B" (.int 0)) (Fv : Fld Z h0 o "java/lang/String" "value" "[B" (.ref ar)) (Va : Arv Z h0 ar kk .byte (3 : Int32) [(.int v1), (.int v2), (.int v3)] (.int 0)) :
    own_MG l Z ((⟨"java/lang/String", "indexOf", "(I)I"⟩ : MethodName)) jdk_42_method_79_code 2 (some .int) ({ frames := 3, cells := 0, slots := 0, locals := 46 } : Room) #[(.ref o), (.int 61)] h0 (Qx13 Z o ar kk v1 v2 v3 cs sf iso u8 h0 n0) := by
  refine own_mkG (plainFor_of_name pn_java_lang_String) ?_
  intro p e s m below meth c s₁ X0 hx hby hml hown hnm hret hlk hZ e0
  have N0 := Fr.nil n0
  rw [ef_RI2 m o (61 : Int32)]
  refine own_vF m s₁ 1 #[vR o, vI (61 : Int32)] [(.ref o)] (fun t k => XS.aloadN X0.here hx rfl (hb hby d10_0) rfl rfl k) ?_
  refine own_vF m s₁ 2 #[vR o, vI (61 : Int32)] [(.int 61), (.ref o)] (fun t k => XS.iloadN X0.here hx rfl (hb hby d10_1) rfl k) ?_
  refine own_vF m s₁ 3 #[vR o, vI (61 : Int32)] [(.int 0), (.int 61), (.ref o)] (fun t k => XS.iconst X0.here hx rfl (hb hby d10_2) k) ?_
  obtain ⟨_, T1, L1, X1, hQ1, st1⟩ := own_callV X0 hx hZ (y := (⟨"java/lang/String", "indexOf", "(II)I"⟩ : MethodName)) (W := 0) (C := "java/lang/String") hown (hw _ (own_mt 43 rfl)) (hw _ (own_mt 44 rfl)) (hw _ (own_mt 46 rfl)) (hw _ (own_mt 45 rfl)) (hw _ (own_mt 12 rfl)) (hw _ (own_mt 47 rfl)) (by decide) (rm_Qx23 l Z a0 hw o ar kk v1 v2 v3 cs sf iso u8 h0 n0 Z0 Od SS Es Fc Fv Va) (by decide) (by decide) e0 Es (g := (mkF m 3 #[vR o, vI (61 : Int32)] [(.int 0), (.int 61), (.ref o)])) rfl (by rw [hml]; rfl) (argsL := [(.int 61), (.int 0)]) (rest := []) rfl (lenOf pd_II__I rfl) rfl own_w0 (hb hby d10_3) (by decide) (by decide)
  obtain ⟨rfl, N1q, e1⟩ := hQ1
  have N1 := Fr.app N0 N1q
  refine own_vF m T1 6 #[vR o, vI (61 : Int32)] [(.int (if v1 = (61 : Int32) then (0 : Int32) else (if v2 = (61 : Int32) then (1 : Int32) else (if v3 = (61 : Int32) then (2 : Int32) else (-1 : Int32)))))] (fun t k => st1 t k) ?_
  exact own_ret X1 (v := some (.int (if v1 = (61 : Int32) then (0 : Int32) else (if v2 = (61 : Int32) then (1 : Int32) else (if v3 = (61 : Int32) then (2 : Int32) else (-1 : Int32)))))) (fun h => by rw [hret] at h; cases h) hlk (fun fs hr => retOut X1 hx (t := .int) hret rfl (Or.inl ⟨rfl, Or.inl rfl, _, rfl⟩) (hb hby d10_6) hr) (by rw [e1]; exact ⟨rfl, N1, rfl⟩) (by decide) (by decide)
def Qic4 (Z : State) (ar : Addr) (kk : ClassId) (v1 v2 v3 v4 : Int32) (h0 : Heap) (n0 : Nat) (v : Option Value) (h : Heap) (L : List Loc) : Prop := v = some (.int (if v1 = (61 : Int32) then (0 : Int32) else (if v2 = (61 : Int32) then (1 : Int32) else (if v3 = (61 : Int32) then (2 : Int32) else (if v4 = (61 : Int32) then (3 : Int32) else (-1 : Int32)))))) ∧ Fr n0 L ∧ h = h0
set_option maxRecDepth 65536 in
set_option maxHeartbeats 40000000 in
theorem rm_Qic4 (l : Launch) (Z : State) (a0 : Array Value) (hw : ∀ d ∈ tables_1, d.before a0 Z = true) (ar : Addr) (kk : ClassId) (v1 v2 v3 v4 : Int32) (h0 : Heap) (n0 : Nat) (Z0 : n0 ≤ h0.size) (Va : Arv Z h0 ar kk .byte (4 : Int32) [(.int v1), (.int v2), (.int v3), (.int v4)] (.int 0)) :
    own_MG l Z ((⟨"java/lang/StringLatin1", "indexOfChar", "([BIII)I"⟩ : MethodName)) jdk_43_method_23_code 6 (some .int) ({ frames := 0, cells := 0, slots := 0, locals := 0 } : Room) #[(.ref ar), (.int 61), (.int 0), (.int 4)] h0 (Qic4 Z ar kk v1 v2 v3 v4 h0 n0) := by
  refine own_mkG (plainFor_of_name pn_java_lang_StringLatin1) ?_
  intro p e s m below meth c s₁ X0 hx hby hml hown hnm hret hlk hZ e0
  have N0 := Fr.nil n0
  rw [ef_RIII6 m ar (61 : Int32) (0 : Int32) (4 : Int32)]
  refine own_vF m s₁ 1 #[vR ar, vI (61 : Int32), vI (0 : Int32), vI (4 : Int32), .unset, .unset] [(.int 61)] (fun t k => XS.iloadN X0.here hx rfl (hb hby d11_0) rfl k) ?_
  refine own_vF m s₁ 2 #[vR ar, vI (61 : Int32), vI (0 : Int32), vI (4 : Int32), .unset, .unset] [(.int ((61 : Int32).toInt8.toInt32))] (fun t k => XS.i2b X0.here hx rfl (hb hby d11_1) rfl k) ?_
  rw [show ((61 : Int32).toInt8.toInt32) = (61 : Int32) from by decide]
  refine own_vF m s₁ 4 #[vR ar, vI (61 : Int32), vI (0 : Int32), vI (4 : Int32), vI (61 : Int32), .unset] [] (fun t k => XS.istore X0.here hx rfl (hb hby d11_2) rfl (l' := #[vR ar, vI (61 : Int32), vI (0 : Int32), vI (4 : Int32), vI (61 : Int32), .unset]) rfl k) ?_
  refine own_vF m s₁ 5 #[vR ar, vI (61 : Int32), vI (0 : Int32), vI (4 : Int32), vI (61 : Int32), .unset] [(.int 0)] (fun t k => XS.iloadN X0.here hx rfl (hb hby d11_4) rfl k) ?_
  refine own_vF m s₁ 7 #[vR ar, vI (61 : Int32), vI (0 : Int32), vI (4 : Int32), vI (61 : Int32), vI (0 : Int32)] [] (fun t k => XS.istore X0.here hx rfl (hb hby d11_5) rfl (l' := #[vR ar, vI (61 : Int32), vI (0 : Int32), vI (4 : Int32), vI (61 : Int32), vI (0 : Int32)]) rfl k) ?_
  refine own_vF m s₁ 9 #[vR ar, vI (61 : Int32), vI (0 : Int32), vI (4 : Int32), vI (61 : Int32), vI (0 : Int32)] [(.int 0)] (fun t k => XS.iload X0.here hx rfl (hb hby d11_7) rfl k) ?_
  refine own_vF m s₁ 10 #[vR ar, vI (61 : Int32), vI (0 : Int32), vI (4 : Int32), vI (61 : Int32), vI (0 : Int32)] [(.int 4), (.int 0)] (fun t k => XS.iloadN X0.here hx rfl (hb hby d11_9) rfl k) ?_
  refine own_vF m s₁ 13 #[vR ar, vI (61 : Int32), vI (0 : Int32), vI (4 : Int32), vI (61 : Int32), vI (0 : Int32)] [] (fun t k => XS.icmpNo X0.here hx rfl (hb hby d11_10) rfl (tlt (by decide : ((0 : Int32) < (4 : Int32)))).2.1 k) ?_
  refine own_vF m s₁ 14 #[vR ar, vI (61 : Int32), vI (0 : Int32), vI (4 : Int32), vI (61 : Int32), vI (0 : Int32)] [(.ref ar)] (fun t k => XS.aloadN X0.here hx rfl (hb hby d11_13) rfl rfl k) ?_
  refine own_vF m s₁ 16 #[vR ar, vI (61 : Int32), vI (0 : Int32), vI (4 : Int32), vI (61 : Int32), vI (0 : Int32)] [(.int 0), (.ref ar)] (fun t k => XS.iload X0.here hx rfl (hb hby d11_14) rfl k) ?_
  obtain ⟨c1, Ar1, q1a, q1b, q1c, q1d, q1e⟩ := id Va
  refine own_vF m s₁ 17 #[vR ar, vI (61 : Int32), vI (0 : Int32), vI (4 : Int32), vI (61 : Int32), vI (0 : Int32)] [(.int v1)] (fun t k => X0.baloadBytes hx (j := (0 : Int32)) (v := (.int v1)) (by rw [e0]; exact Ar1.1) (State.isArrayOf_alike hZ.alike Ar1.2.1) Ar1.2.2 (inb_of q1b (by decide)) (q1d.at (inb_of q1b (by decide)) rfl) (g := (mkF m 16 #[vR ar, vI (61 : Int32), vI (0 : Int32), vI (4 : Int32), vI (61 : Int32), vI (0 : Int32)] [(.int 0), (.ref ar)])) rfl rfl (hb hby d11_16) _ k) ?_
  refine own_vF m s₁ 19 #[vR ar, vI (61 : Int32), vI (0 : Int32), vI (4 : Int32), vI (61 : Int32), vI (0 : Int32)] [(.int 61), (.int v1)] (fun t k => XS.iload X0.here hx rfl (hb hby d11_17) rfl k) ?_
  by_cases hc2 : v1 = (61 : Int32)
  case pos =>
    refine own_vF m s₁ 22 #[vR ar, vI (61 : Int32), vI (0 : Int32), vI (4 : Int32), vI (61 : Int32), vI (0 : Int32)] [] (fun t k => XS.icmpNo X0.here hx rfl (hb hby d11_19) rfl (teq hc2).2 k) ?_
    refine own_vF m s₁ 24 #[vR ar, vI (61 : Int32), vI (0 : Int32), vI (4 : Int32), vI (61 : Int32), vI (0 : Int32)] [(.int 0)] (fun t k => XS.iload X0.here hx rfl (hb hby d11_22) rfl k) ?_
    exact own_ret X0 (v := some (.int 0)) (fun h => by rw [hret] at h; cases h) hlk (fun fs hr => retOut X0 hx (t := .int) hret rfl (Or.inl ⟨rfl, Or.inl rfl, _, rfl⟩) (hb hby d11_24) hr) (by rw [e0]; exact ⟨by first | rfl | (simp only [if_pos hc2]), N0, rfl⟩) (by decide) (by decide)
  case neg =>
    refine own_vF m s₁ 25 #[vR ar, vI (61 : Int32), vI (0 : Int32), vI (4 : Int32), vI (61 : Int32), vI (0 : Int32)] [] (fun t k => XS.icmpYes X0.here hx rfl (pc0 := 19) (pc' := 25) rfl (hb hby d11_19) rfl (feq hc2).2 (by decide) (by decide) k) ?_
    refine own_vF m s₁ 28 #[vR ar, vI (61 : Int32), vI (0 : Int32), vI (4 : Int32), vI (61 : Int32), .val (.int ((0 : Int32) + (1 : Int32)))] [] (fun t k => XS.iinc X0.here hx rfl (hb hby d11_25) rfl (l' := #[vR ar, vI (61 : Int32), vI (0 : Int32), vI (4 : Int32), vI (61 : Int32), .val (.int ((0 : Int32) + (1 : Int32)))]) rfl k) ?_
    rw [show ((0 : Int32) + (1 : Int32)) = (1 : Int32) from by decide]
    refine own_vF m s₁ 7 #[vR ar, vI (61 : Int32), vI (0 : Int32), vI (4 : Int32), vI (61 : Int32), vI (1 : Int32)] [] (fun t k => XS.goto X0.here hx rfl (pc0 := 28) (pc' := 7) rfl (hb hby d11_28) (by decide) (by decide) k) ?_
    refine own_vF m s₁ 9 #[vR ar, vI (61 : Int32), vI (0 : Int32), vI (4 : Int32), vI (61 : Int32), vI (1 : Int32)] [(.int 1)] (fun t k => XS.iload X0.here hx rfl (hb hby d11_7) rfl k) ?_
    refine own_vF m s₁ 10 #[vR ar, vI (61 : Int32), vI (0 : Int32), vI (4 : Int32), vI (61 : Int32), vI (1 : Int32)] [(.int 4), (.int 1)] (fun t k => XS.iloadN X0.here hx rfl (hb hby d11_9) rfl k) ?_
    refine own_vF m s₁ 13 #[vR ar, vI (61 : Int32), vI (0 : Int32), vI (4 : Int32), vI (61 : Int32), vI (1 : Int32)] [] (fun t k => XS.icmpNo X0.here hx rfl (hb hby d11_10) rfl (tlt (by decide : ((1 : Int32) < (4 : Int32)))).2.1 k) ?_
    refine own_vF m s₁ 14 #[vR ar, vI (61 : Int32), vI (0 : Int32), vI (4 : Int32), vI (61 : Int32), vI (1 : Int32)] [(.ref ar)] (fun t k => XS.aloadN X0.here hx rfl (hb hby d11_13) rfl rfl k) ?_
    refine own_vF m s₁ 16 #[vR ar, vI (61 : Int32), vI (0 : Int32), vI (4 : Int32), vI (61 : Int32), vI (1 : Int32)] [(.int 1), (.ref ar)] (fun t k => XS.iload X0.here hx rfl (hb hby d11_14) rfl k) ?_
    obtain ⟨c3, Ar3, q3a, q3b, q3c, q3d, q3e⟩ := id Va
    refine own_vF m s₁ 17 #[vR ar, vI (61 : Int32), vI (0 : Int32), vI (4 : Int32), vI (61 : Int32), vI (1 : Int32)] [(.int v2)] (fun t k => X0.baloadBytes hx (j := (1 : Int32)) (v := (.int v2)) (by rw [e0]; exact Ar3.1) (State.isArrayOf_alike hZ.alike Ar3.2.1) Ar3.2.2 (inb_of q3b (by decide)) (q3d.at (inb_of q3b (by decide)) rfl) (g := (mkF m 16 #[vR ar, vI (61 : Int32), vI (0 : Int32), vI (4 : Int32), vI (61 : Int32), vI (1 : Int32)] [(.int 1), (.ref ar)])) rfl rfl (hb hby d11_16) _ k) ?_
    refine own_vF m s₁ 19 #[vR ar, vI (61 : Int32), vI (0 : Int32), vI (4 : Int32), vI (61 : Int32), vI (1 : Int32)] [(.int 61), (.int v2)] (fun t k => XS.iload X0.here hx rfl (hb hby d11_17) rfl k) ?_
    by_cases hc4 : v2 = (61 : Int32)
    case pos =>
      refine own_vF m s₁ 22 #[vR ar, vI (61 : Int32), vI (0 : Int32), vI (4 : Int32), vI (61 : Int32), vI (1 : Int32)] [] (fun t k => XS.icmpNo X0.here hx rfl (hb hby d11_19) rfl (teq hc4).2 k) ?_
      refine own_vF m s₁ 24 #[vR ar, vI (61 : Int32), vI (0 : Int32), vI (4 : Int32), vI (61 : Int32), vI (1 : Int32)] [(.int 1)] (fun t k => XS.iload X0.here hx rfl (hb hby d11_22) rfl k) ?_
      exact own_ret X0 (v := some (.int 1)) (fun h => by rw [hret] at h; cases h) hlk (fun fs hr => retOut X0 hx (t := .int) hret rfl (Or.inl ⟨rfl, Or.inl rfl, _, rfl⟩) (hb hby d11_24) hr) (by rw [e0]; exact ⟨by first | rfl | (simp only [if_neg hc2, if_pos hc4]), N0, rfl⟩) (by decide) (by decide)
    case neg =>
      refine own_vF m s₁ 25 #[vR ar, vI (61 : Int32), vI (0 : Int32), vI (4 : Int32), vI (61 : Int32), vI (1 : Int32)] [] (fun t k => XS.icmpYes X0.here hx rfl (pc0 := 19) (pc' := 25) rfl (hb hby d11_19) rfl (feq hc4).2 (by decide) (by decide) k) ?_
      refine own_vF m s₁ 28 #[vR ar, vI (61 : Int32), vI (0 : Int32), vI (4 : Int32), vI (61 : Int32), .val (.int ((1 : Int32) + (1 : Int32)))] [] (fun t k => XS.iinc X0.here hx rfl (hb hby d11_25) rfl (l' := #[vR ar, vI (61 : Int32), vI (0 : Int32), vI (4 : Int32), vI (61 : Int32), .val (.int ((1 : Int32) + (1 : Int32)))]) rfl k) ?_
      rw [show ((1 : Int32) + (1 : Int32)) = (2 : Int32) from by decide]
      refine own_vF m s₁ 7 #[vR ar, vI (61 : Int32), vI (0 : Int32), vI (4 : Int32), vI (61 : Int32), vI (2 : Int32)] [] (fun t k => XS.goto X0.here hx rfl (pc0 := 28) (pc' := 7) rfl (hb hby d11_28) (by decide) (by decide) k) ?_
      refine own_vF m s₁ 9 #[vR ar, vI (61 : Int32), vI (0 : Int32), vI (4 : Int32), vI (61 : Int32), vI (2 : Int32)] [(.int 2)] (fun t k => XS.iload X0.here hx rfl (hb hby d11_7) rfl k) ?_
      refine own_vF m s₁ 10 #[vR ar, vI (61 : Int32), vI (0 : Int32), vI (4 : Int32), vI (61 : Int32), vI (2 : Int32)] [(.int 4), (.int 2)] (fun t k => XS.iloadN X0.here hx rfl (hb hby d11_9) rfl k) ?_
      refine own_vF m s₁ 13 #[vR ar, vI (61 : Int32), vI (0 : Int32), vI (4 : Int32), vI (61 : Int32), vI (2 : Int32)] [] (fun t k => XS.icmpNo X0.here hx rfl (hb hby d11_10) rfl (tlt (by decide : ((2 : Int32) < (4 : Int32)))).2.1 k) ?_
      refine own_vF m s₁ 14 #[vR ar, vI (61 : Int32), vI (0 : Int32), vI (4 : Int32), vI (61 : Int32), vI (2 : Int32)] [(.ref ar)] (fun t k => XS.aloadN X0.here hx rfl (hb hby d11_13) rfl rfl k) ?_
      refine own_vF m s₁ 16 #[vR ar, vI (61 : Int32), vI (0 : Int32), vI (4 : Int32), vI (61 : Int32), vI (2 : Int32)] [(.int 2), (.ref ar)] (fun t k => XS.iload X0.here hx rfl (hb hby d11_14) rfl k) ?_
      obtain ⟨c5, Ar5, q5a, q5b, q5c, q5d, q5e⟩ := id Va
      refine own_vF m s₁ 17 #[vR ar, vI (61 : Int32), vI (0 : Int32), vI (4 : Int32), vI (61 : Int32), vI (2 : Int32)] [(.int v3)] (fun t k => X0.baloadBytes hx (j := (2 : Int32)) (v := (.int v3)) (by rw [e0]; exact Ar5.1) (State.isArrayOf_alike hZ.alike Ar5.2.1) Ar5.2.2 (inb_of q5b (by decide)) (q5d.at (inb_of q5b (by decide)) rfl) (g := (mkF m 16 #[vR ar, vI (61 : Int32), vI (0 : Int32), vI (4 : Int32), vI (61 : Int32), vI (2 : Int32)] [(.int 2), (.ref ar)])) rfl rfl (hb hby d11_16) _ k) ?_
      refine own_vF m s₁ 19 #[vR ar, vI (61 : Int32), vI (0 : Int32), vI (4 : Int32), vI (61 : Int32), vI (2 : Int32)] [(.int 61), (.int v3)] (fun t k => XS.iload X0.here hx rfl (hb hby d11_17) rfl k) ?_
      by_cases hc6 : v3 = (61 : Int32)
      case pos =>
        refine own_vF m s₁ 22 #[vR ar, vI (61 : Int32), vI (0 : Int32), vI (4 : Int32), vI (61 : Int32), vI (2 : Int32)] [] (fun t k => XS.icmpNo X0.here hx rfl (hb hby d11_19) rfl (teq hc6).2 k) ?_
        refine own_vF m s₁ 24 #[vR ar, vI (61 : Int32), vI (0 : Int32), vI (4 : Int32), vI (61 : Int32), vI (2 : Int32)] [(.int 2)] (fun t k => XS.iload X0.here hx rfl (hb hby d11_22) rfl k) ?_
        exact own_ret X0 (v := some (.int 2)) (fun h => by rw [hret] at h; cases h) hlk (fun fs hr => retOut X0 hx (t := .int) hret rfl (Or.inl ⟨rfl, Or.inl rfl, _, rfl⟩) (hb hby d11_24) hr) (by rw [e0]; exact ⟨by first | rfl | (simp only [if_neg hc2, if_neg hc4, if_pos hc6]), N0, rfl⟩) (by decide) (by decide)
      case neg =>
        refine own_vF m s₁ 25 #[vR ar, vI (61 : Int32), vI (0 : Int32), vI (4 : Int32), vI (61 : Int32), vI (2 : Int32)] [] (fun t k => XS.icmpYes X0.here hx rfl (pc0 := 19) (pc' := 25) rfl (hb hby d11_19) rfl (feq hc6).2 (by decide) (by decide) k) ?_
        refine own_vF m s₁ 28 #[vR ar, vI (61 : Int32), vI (0 : Int32), vI (4 : Int32), vI (61 : Int32), .val (.int ((2 : Int32) + (1 : Int32)))] [] (fun t k => XS.iinc X0.here hx rfl (hb hby d11_25) rfl (l' := #[vR ar, vI (61 : Int32), vI (0 : Int32), vI (4 : Int32), vI (61 : Int32), .val (.int ((2 : Int32) + (1 : Int32)))]) rfl k) ?_
        rw [show ((2 : Int32) + (1 : Int32)) = (3 : Int32) from by decide]
        refine own_vF m s₁ 7 #[vR ar, vI (61 : Int32), vI (0 : Int32), vI (4 : Int32), vI (61 : Int32), vI (3 : Int32)] [] (fun t k => XS.goto X0.here hx rfl (pc0 := 28) (pc' := 7) rfl (hb hby d11_28) (by decide) (by decide) k) ?_
        refine own_vF m s₁ 9 #[vR ar, vI (61 : Int32), vI (0 : Int32), vI (4 : Int32), vI (61 : Int32), vI (3 : Int32)] [(.int 3)] (fun t k => XS.iload X0.here hx rfl (hb hby d11_7) rfl k) ?_
        refine own_vF m s₁ 10 #[vR ar, vI (61 : Int32), vI (0 : Int32), vI (4 : Int32), vI (61 : Int32), vI (3 : Int32)] [(.int 4), (.int 3)] (fun t k => XS.iloadN X0.here hx rfl (hb hby d11_9) rfl k) ?_
        refine own_vF m s₁ 13 #[vR ar, vI (61 : Int32), vI (0 : Int32), vI (4 : Int32), vI (61 : Int32), vI (3 : Int32)] [] (fun t k => XS.icmpNo X0.here hx rfl (hb hby d11_10) rfl (tlt (by decide : ((3 : Int32) < (4 : Int32)))).2.1 k) ?_
        refine own_vF m s₁ 14 #[vR ar, vI (61 : Int32), vI (0 : Int32), vI (4 : Int32), vI (61 : Int32), vI (3 : Int32)] [(.ref ar)] (fun t k => XS.aloadN X0.here hx rfl (hb hby d11_13) rfl rfl k) ?_
        refine own_vF m s₁ 16 #[vR ar, vI (61 : Int32), vI (0 : Int32), vI (4 : Int32), vI (61 : Int32), vI (3 : Int32)] [(.int 3), (.ref ar)] (fun t k => XS.iload X0.here hx rfl (hb hby d11_14) rfl k) ?_
        obtain ⟨c7, Ar7, q7a, q7b, q7c, q7d, q7e⟩ := id Va
        refine own_vF m s₁ 17 #[vR ar, vI (61 : Int32), vI (0 : Int32), vI (4 : Int32), vI (61 : Int32), vI (3 : Int32)] [(.int v4)] (fun t k => X0.baloadBytes hx (j := (3 : Int32)) (v := (.int v4)) (by rw [e0]; exact Ar7.1) (State.isArrayOf_alike hZ.alike Ar7.2.1) Ar7.2.2 (inb_of q7b (by decide)) (q7d.at (inb_of q7b (by decide)) rfl) (g := (mkF m 16 #[vR ar, vI (61 : Int32), vI (0 : Int32), vI (4 : Int32), vI (61 : Int32), vI (3 : Int32)] [(.int 3), (.ref ar)])) rfl rfl (hb hby d11_16) _ k) ?_
        refine own_vF m s₁ 19 #[vR ar, vI (61 : Int32), vI (0 : Int32), vI (4 : Int32), vI (61 : Int32), vI (3 : Int32)] [(.int 61), (.int v4)] (fun t k => XS.iload X0.here hx rfl (hb hby d11_17) rfl k) ?_
        by_cases hc8 : v4 = (61 : Int32)
        case pos =>
          refine own_vF m s₁ 22 #[vR ar, vI (61 : Int32), vI (0 : Int32), vI (4 : Int32), vI (61 : Int32), vI (3 : Int32)] [] (fun t k => XS.icmpNo X0.here hx rfl (hb hby d11_19) rfl (teq hc8).2 k) ?_
          refine own_vF m s₁ 24 #[vR ar, vI (61 : Int32), vI (0 : Int32), vI (4 : Int32), vI (61 : Int32), vI (3 : Int32)] [(.int 3)] (fun t k => XS.iload X0.here hx rfl (hb hby d11_22) rfl k) ?_
          exact own_ret X0 (v := some (.int 3)) (fun h => by rw [hret] at h; cases h) hlk (fun fs hr => retOut X0 hx (t := .int) hret rfl (Or.inl ⟨rfl, Or.inl rfl, _, rfl⟩) (hb hby d11_24) hr) (by rw [e0]; exact ⟨by first | rfl | (simp only [if_neg hc2, if_neg hc4, if_neg hc6, if_pos hc8]), N0, rfl⟩) (by decide) (by decide)
        case neg =>
          refine own_vF m s₁ 25 #[vR ar, vI (61 : Int32), vI (0 : Int32), vI (4 : Int32), vI (61 : Int32), vI (3 : Int32)] [] (fun t k => XS.icmpYes X0.here hx rfl (pc0 := 19) (pc' := 25) rfl (hb hby d11_19) rfl (feq hc8).2 (by decide) (by decide) k) ?_
          refine own_vF m s₁ 28 #[vR ar, vI (61 : Int32), vI (0 : Int32), vI (4 : Int32), vI (61 : Int32), .val (.int ((3 : Int32) + (1 : Int32)))] [] (fun t k => XS.iinc X0.here hx rfl (hb hby d11_25) rfl (l' := #[vR ar, vI (61 : Int32), vI (0 : Int32), vI (4 : Int32), vI (61 : Int32), .val (.int ((3 : Int32) + (1 : Int32)))]) rfl k) ?_
          rw [show ((3 : Int32) + (1 : Int32)) = (4 : Int32) from by decide]
          refine own_vF m s₁ 7 #[vR ar, vI (61 : Int32), vI (0 : Int32), vI (4 : Int32), vI (61 : Int32), vI (4 : Int32)] [] (fun t k => XS.goto X0.here hx rfl (pc0 := 28) (pc' := 7) rfl (hb hby d11_28) (by decide) (by decide) k) ?_
          refine own_vF m s₁ 9 #[vR ar, vI (61 : Int32), vI (0 : Int32), vI (4 : Int32), vI (61 : Int32), vI (4 : Int32)] [(.int 4)] (fun t k => XS.iload X0.here hx rfl (hb hby d11_7) rfl k) ?_
          refine own_vF m s₁ 10 #[vR ar, vI (61 : Int32), vI (0 : Int32), vI (4 : Int32), vI (61 : Int32), vI (4 : Int32)] [(.int 4), (.int 4)] (fun t k => XS.iloadN X0.here hx rfl (hb hby d11_9) rfl k) ?_
          refine own_vF m s₁ 31 #[vR ar, vI (61 : Int32), vI (0 : Int32), vI (4 : Int32), vI (61 : Int32), vI (4 : Int32)] [] (fun t k => XS.icmpYes X0.here hx rfl (pc0 := 10) (pc' := 31) rfl (hb hby d11_10) rfl (flt (by decide : ¬ ((4 : Int32) < (4 : Int32)))).2.1 (by decide) (by decide) k) ?_
          refine own_vF m s₁ 32 #[vR ar, vI (61 : Int32), vI (0 : Int32), vI (4 : Int32), vI (61 : Int32), vI (4 : Int32)] [(.int (-1))] (fun t k => XS.iconst X0.here hx rfl (hb hby d11_31) k) ?_
          exact own_ret X0 (v := some (.int (-1))) (fun h => by rw [hret] at h; cases h) hlk (fun fs hr => retOut X0 hx (t := .int) hret rfl (Or.inl ⟨rfl, Or.inl rfl, _, rfl⟩) (hb hby d11_32) hr) (by rw [e0]; exact ⟨by first | rfl | (simp only [if_neg hc2, if_neg hc4, if_neg hc6, if_neg hc8]), N0, rfl⟩) (by decide) (by decide)
def Qlx4 (Z : State) (ar : Addr) (kk : ClassId) (v1 v2 v3 v4 : Int32) (h0 : Heap) (n0 : Nat) (v : Option Value) (h : Heap) (L : List Loc) : Prop := v = some (.int (if v1 = (61 : Int32) then (0 : Int32) else (if v2 = (61 : Int32) then (1 : Int32) else (if v3 = (61 : Int32) then (2 : Int32) else (if v4 = (61 : Int32) then (3 : Int32) else (-1 : Int32)))))) ∧ Fr n0 L ∧ h = h0
set_option maxRecDepth 65536 in
set_option maxHeartbeats 40000000 in
theorem rm_Qlx4 (l : Launch) (Z : State) (a0 : Array Value) (hw : ∀ d ∈ tables_1, d.before a0 Z = true) (ar : Addr) (kk : ClassId) (v1 v2 v3 v4 : Int32) (h0 : Heap) (n0 : Nat) (Z0 : n0 ≤ h0.size) (Va : Arv Z h0 ar kk .byte (4 : Int32) [(.int v1), (.int v2), (.int v3), (.int v4)] (.int 0)) :
    own_MG l Z ((⟨"java/lang/StringLatin1", "indexOf", "([BIII)I"⟩ : MethodName)) jdk_43_method_22_code 4 (some .int) ({ frames := 1, cells := 0, slots := 0, locals := 17 } : Room) #[(.ref ar), (.int 61), (.int 0), (.int 4)] h0 (Qlx4 Z ar kk v1 v2 v3 v4 h0 n0) := by
  refine own_mkG (plainFor_of_name pn_java_lang_StringLatin1) ?_
  intro p e s m below meth c s₁ X0 hx hby hml hown hnm hret hlk hZ e0
  have N0 := Fr.nil n0
  rw [ef_RIII4 m ar (61 : Int32) (0 : Int32) (4 : Int32)]
  refine own_vF m s₁ 1 #[vR ar, vI (61 : Int32), vI (0 : Int32), vI (4 : Int32)] [(.int 61)] (fun t k => XS.iloadN X0.here hx rfl (hb hby d8_0) rfl k) ?_
  obtain ⟨_, T1, L1, X1, hQ1, st1⟩ := own_callS X0 hx hZ (y := (⟨"java/lang/StringLatin1", "canEncode", "(I)Z"⟩ : MethodName)) (W := 0) hown (hw _ (own_mt 68 rfl)) (hw _ (own_mt 69 rfl)) (hw _ (own_mt 66 rfl)) (hw _ (own_mt 70 rfl)) (by decide) (rm_Qce l Z a0 hw  h0 n0 Z0) (by decide) (by decide) e0 (g := (mkF m 1 #[vR ar, vI (61 : Int32), vI (0 : Int32), vI (4 : Int32)] [(.int 61)])) rfl (by rw [hml]; rfl) (argsL := [(.int 61)]) (rest := []) rfl (lenOf pd_I__Z rfl) rfl own_w0 (hb hby d8_1) (by decide) (by decide)
  obtain ⟨rfl, N1q, e1⟩ := hQ1
  have N1 := Fr.app N0 N1q
  refine own_vF m T1 4 #[vR ar, vI (61 : Int32), vI (0 : Int32), vI (4 : Int32)] [(.int 1)] (fun t k => st1 t k) ?_
  refine own_vF m T1 9 #[vR ar, vI (61 : Int32), vI (0 : Int32), vI (4 : Int32)] [] (fun t k => XS.ifYes X1.here hx rfl (pc0 := 4) (pc' := 9) rfl (hb hby d8_4) rfl ((if0 _ _).trans (feq (by decide : ¬ ((1 : Int32) = (0 : Int32)))).2) (by decide) (by decide) k) ?_
  refine own_vF m T1 10 #[vR ar, vI (61 : Int32), vI (0 : Int32), vI (4 : Int32)] [(.int 0)] (fun t k => XS.iloadN X1.here hx rfl (hb hby d8_9) rfl k) ?_
  refine own_vF m T1 11 #[vR ar, vI (61 : Int32), vI (0 : Int32), vI (4 : Int32)] [(.int 0), (.int 0)] (fun t k => XS.iconst X1.here hx rfl (hb hby d8_10) k) ?_
  obtain ⟨_, T2, L2, X2, hQ2, st2⟩ := own_callS X1 hx hZ (y := (⟨"java/lang/Math", "max", "(II)I"⟩ : MethodName)) (W := 0) hown (hw _ (own_mt 71 rfl)) (hw _ (own_mt 72 rfl)) (hw _ (own_mt 73 rfl)) (hw _ (own_mt 74 rfl)) (by decide) (rm_Qmax l Z a0 hw (0 : Int32) (0 : Int32) h0 n0 Z0) (by decide) (by decide) e1 (g := (mkF m 11 #[vR ar, vI (61 : Int32), vI (0 : Int32), vI (4 : Int32)] [(.int 0), (.int 0)])) rfl (by rw [hml]; rfl) (argsL := [(.int 0), (.int 0)]) (rest := []) rfl (lenOf pd_II__I rfl) rfl own_w0 (hb hby d8_11) (by decide) (by decide)
  obtain ⟨rfl, N2q, e2⟩ := hQ2
  have N2 := Fr.app N1 N2q
  refine own_vF m T2 14 #[vR ar, vI (61 : Int32), vI (0 : Int32), vI (4 : Int32)] [(.int (if (0 : Int32) < (0 : Int32) then (0 : Int32) else (0 : Int32)))] (fun t k => st2 t k) ?_
  rw [show (if (0 : Int32) < (0 : Int32) then (0 : Int32) else (0 : Int32)) = (0 : Int32) from by decide]
  refine own_vF m T2 15 #[vR ar, vI (61 : Int32), vI (0 : Int32), vI (4 : Int32)] [] (fun t k => XS.istoreN X2.here hx rfl (hb hby d8_14) rfl (l' := #[vR ar, vI (61 : Int32), vI (0 : Int32), vI (4 : Int32)]) rfl k) ?_
  refine own_vF m T2 16 #[vR ar, vI (61 : Int32), vI (0 : Int32), vI (4 : Int32)] [(.int 4)] (fun t k => XS.iloadN X2.here hx rfl (hb hby d8_15) rfl k) ?_
  refine own_vF m T2 17 #[vR ar, vI (61 : Int32), vI (0 : Int32), vI (4 : Int32)] [(.ref ar), (.int 4)] (fun t k => XS.aloadN X2.here hx rfl (hb hby d8_16) rfl rfl k) ?_
  obtain ⟨c3, Ar3, q3a, q3b, q3c, q3d, q3e⟩ := id Va
  refine own_vF m T2 18 #[vR ar, vI (61 : Int32), vI (0 : Int32), vI (4 : Int32)] [(.int 4), (.int 4)] (fun t k => (fun t k => X2.arraylength hx (by rw [e2]; exact Ar3.1) (State.isArrayOf_alike hZ.alike Ar3.2.1) (g := (mkF m 17 #[vR ar, vI (61 : Int32), vI (0 : Int32), vI (4 : Int32)] [(.ref ar), (.int 4)])) rfl rfl (hb hby d8_17) t (by rw [len_of q3b q3c]; exact k)) t k) ?_
  obtain ⟨_, T4, L4, X4, hQ4, st4⟩ := own_callS X2 hx hZ (y := (⟨"java/lang/Math", "min", "(II)I"⟩ : MethodName)) (W := 0) hown (hw _ (own_mt 75 rfl)) (hw _ (own_mt 76 rfl)) (hw _ (own_mt 73 rfl)) (hw _ (own_mt 77 rfl)) (by decide) (rm_Qmin l Z a0 hw (4 : Int32) (4 : Int32) h0 n0 Z0) (by decide) (by decide) e2 (g := (mkF m 18 #[vR ar, vI (61 : Int32), vI (0 : Int32), vI (4 : Int32)] [(.int 4), (.int 4)])) rfl (by rw [hml]; rfl) (argsL := [(.int 4), (.int 4)]) (rest := []) rfl (lenOf pd_II__I rfl) rfl own_w0 (hb hby d8_18) (by decide) (by decide)
  obtain ⟨rfl, N4q, e4⟩ := hQ4
  have N4 := Fr.app N2 N4q
  refine own_vF m T4 21 #[vR ar, vI (61 : Int32), vI (0 : Int32), vI (4 : Int32)] [(.int (if (4 : Int32) < (4 : Int32) then (4 : Int32) else (4 : Int32)))] (fun t k => st4 t k) ?_
  rw [show (if (4 : Int32) < (4 : Int32) then (4 : Int32) else (4 : Int32)) = (4 : Int32) from by decide]
  refine own_vF m T4 22 #[vR ar, vI (61 : Int32), vI (0 : Int32), vI (4 : Int32)] [] (fun t k => XS.istoreN X4.here hx rfl (hb hby d8_21) rfl (l' := #[vR ar, vI (61 : Int32), vI (0 : Int32), vI (4 : Int32)]) rfl k) ?_
  refine own_vF m T4 23 #[vR ar, vI (61 : Int32), vI (0 : Int32), vI (4 : Int32)] [(.int 0)] (fun t k => XS.iloadN X4.here hx rfl (hb hby d8_22) rfl k) ?_
  refine own_vF m T4 24 #[vR ar, vI (61 : Int32), vI (0 : Int32), vI (4 : Int32)] [(.int 4), (.int 0)] (fun t k => XS.iloadN X4.here hx rfl (hb hby d8_23) rfl k) ?_
  refine own_vF m T4 29 #[vR ar, vI (61 : Int32), vI (0 : Int32), vI (4 : Int32)] [] (fun t k => XS.icmpYes X4.here hx rfl (pc0 := 24) (pc' := 29) rfl (hb hby d8_24) rfl (tlt (by decide : ((0 : Int32) < (4 : Int32)))).1 (by decide) (by decide) k) ?_
  refine own_vF m T4 30 #[vR ar, vI (61 : Int32), vI (0 : Int32), vI (4 : Int32)] [(.ref ar)] (fun t k => XS.aloadN X4.here hx rfl (hb hby d8_29) rfl rfl k) ?_
  refine own_vF m T4 31 #[vR ar, vI (61 : Int32), vI (0 : Int32), vI (4 : Int32)] [(.int 61), (.ref ar)] (fun t k => XS.iloadN X4.here hx rfl (hb hby d8_30) rfl k) ?_
  refine own_vF m T4 32 #[vR ar, vI (61 : Int32), vI (0 : Int32), vI (4 : Int32)] [(.int 0), (.int 61), (.ref ar)] (fun t k => XS.iloadN X4.here hx rfl (hb hby d8_31) rfl k) ?_
  refine own_vF m T4 33 #[vR ar, vI (61 : Int32), vI (0 : Int32), vI (4 : Int32)] [(.int 4), (.int 0), (.int 61), (.ref ar)] (fun t k => XS.iloadN X4.here hx rfl (hb hby d8_32) rfl k) ?_
  obtain ⟨_, T5, L5, X5, hQ5, st5⟩ := own_callS X4 hx hZ (y := (⟨"java/lang/StringLatin1", "indexOfChar", "([BIII)I"⟩ : MethodName)) (W := 0) hown (hw _ (own_mt 110 rfl)) (hw _ (own_mt 111 rfl)) (hw _ (own_mt 66 rfl)) (hw _ (own_mt 112 rfl)) (by decide) (rm_Qic4 l Z a0 hw ar kk v1 v2 v3 v4 h0 n0 Z0 Va) (by decide) (by decide) e4 (g := (mkF m 33 #[vR ar, vI (61 : Int32), vI (0 : Int32), vI (4 : Int32)] [(.int 4), (.int 0), (.int 61), (.ref ar)])) rfl (by rw [hml]; rfl) (argsL := [(.ref ar), (.int 61), (.int 0), (.int 4)]) (rest := []) rfl (lenOf pd_ABIII__I rfl) rfl own_w0 (hb hby d8_33) (by decide) (by decide)
  obtain ⟨rfl, N5q, e5⟩ := hQ5
  have N5 := Fr.app N4 N5q
  refine own_vF m T5 36 #[vR ar, vI (61 : Int32), vI (0 : Int32), vI (4 : Int32)] [(.int (if v1 = (61 : Int32) then (0 : Int32) else (if v2 = (61 : Int32) then (1 : Int32) else (if v3 = (61 : Int32) then (2 : Int32) else (if v4 = (61 : Int32) then (3 : Int32) else (-1 : Int32))))))] (fun t k => st5 t k) ?_
  exact own_ret X5 (v := some (.int (if v1 = (61 : Int32) then (0 : Int32) else (if v2 = (61 : Int32) then (1 : Int32) else (if v3 = (61 : Int32) then (2 : Int32) else (if v4 = (61 : Int32) then (3 : Int32) else (-1 : Int32))))))) (fun h => by rw [hret] at h; cases h) hlk (fun fs hr => retOut X5 hx (t := .int) hret rfl (Or.inl ⟨rfl, Or.inl rfl, _, rfl⟩) (hb hby d8_36) hr) (by rw [e5]; exact ⟨rfl, N5, rfl⟩) (by decide) (by decide)
def Qx24 (Z : State) (o ar : Addr) (kk : ClassId) (v1 v2 v3 v4 : Int32) (cs : Int32) (sf : Value) (iso u8 : Addr) (h0 : Heap) (n0 : Nat) (v : Option Value) (h : Heap) (L : List Loc) : Prop := v = some (.int (if v1 = (61 : Int32) then (0 : Int32) else (if v2 = (61 : Int32) then (1 : Int32) else (if v3 = (61 : Int32) then (2 : Int32) else (if v4 = (61 : Int32) then (3 : Int32) else (-1 : Int32)))))) ∧ Fr n0 L ∧ h = h0
set_option maxRecDepth 65536 in
set_option maxHeartbeats 40000000 in
theorem rm_Qx24 (l : Launch) (Z : State) (a0 : Array Value) (hw : ∀ d ∈ tables_1, d.before a0 Z = true) (o ar : Addr) (kk : ClassId) (v1 v2 v3 v4 : Int32) (cs : Int32) (sf : Value) (iso u8 : Addr) (h0 : Heap) (n0 : Nat) (Z0 : n0 ≤ h0.size) (Od : Old Z n0 h0) (SS : own_SS Z cs sf iso u8) (Es : Exa Z h0 o "java/lang/String") (Fc : Fld Z h0 o "java/lang/String" "coder" "B" (.int 0)) (Fv : Fld Z h0 o "java/lang/String" "value" "[B" (.ref ar)) (Va : Arv Z h0 ar kk .byte (4 : Int32) [(.int v1), (.int v2), (.int v3), (.int v4)] (.int 0)) :
    own_MG l Z ((⟨"java/lang/String", "indexOf", "(II)I"⟩ : MethodName)) jdk_42_method_80_code 3 (some .int) ({ frames := 2, cells := 0, slots := 0, locals := 32 } : Room) #[(.ref o), (.int 61), (.int 0)] h0 (Qx24 Z o ar kk v1 v2 v3 v4 cs sf iso u8 h0 n0) := by
  refine own_mkG (plainFor_of_name pn_java_lang_String) ?_
  intro p e s m below meth c s₁ X0 hx hby hml hown hnm hret hlk hZ e0
  have N0 := Fr.nil n0
  rw [ef_RII3 m o (61 : Int32) (0 : Int32)]
  refine own_vF m s₁ 1 #[vR o, vI (61 : Int32), vI (0 : Int32)] [(.ref o)] (fun t k => XS.aloadN X0.here hx rfl (hb hby d9_0) rfl rfl k) ?_
  obtain ⟨_, T1, L1, X1, hQ1, st1⟩ := own_callV X0 hx hZ (y := (⟨"java/lang/String", "isLatin1", "()Z"⟩ : MethodName)) (W := 0) (C := "java/lang/String") hown (hw _ (own_mt 48 rfl)) (hw _ (own_mt 49 rfl)) (hw _ (own_mt 51 rfl)) (hw _ (own_mt 50 rfl)) (hw _ (own_mt 12 rfl)) (hw _ (own_mt 52 rfl)) (by decide) (rm_Ql1 l Z a0 hw o ar cs sf iso u8 h0 n0 Z0 Od SS Es Fc Fv) (by decide) (by decide) e0 Es (g := (mkF m 1 #[vR o, vI (61 : Int32), vI (0 : Int32)] [(.ref o)])) rfl (by rw [hml]; rfl) (argsL := []) (rest := []) rfl (lenOf pd___Z rfl) rfl own_w0 (hb hby d9_1) (by decide) (by decide)
  obtain ⟨rfl, N1q, e1⟩ := hQ1
  have N1 := Fr.app N0 N1q
  refine own_vF m T1 4 #[vR o, vI (61 : Int32), vI (0 : Int32)] [(.int 1)] (fun t k => st1 t k) ?_
  refine own_vF m T1 7 #[vR o, vI (61 : Int32), vI (0 : Int32)] [] (fun t k => XS.ifNo X1.here hx rfl (hb hby d9_4) rfl ((if0 _ _).trans (feq (by decide : ¬ ((1 : Int32) = (0 : Int32)))).1) k) ?_
  refine own_vF m T1 8 #[vR o, vI (61 : Int32), vI (0 : Int32)] [(.ref o)] (fun t k => XS.aloadN X1.here hx rfl (hb hby d9_7) rfl rfl k) ?_
  obtain ⟨T2, X2, e2, st2⟩ := getF (host := "") X1 hx hZ hown (Or.inl (hw _ (own_mt 36 rfl))) Via.refl e1 Fv (g := (mkF m 8 #[vR o, vI (61 : Int32), vI (0 : Int32)] [(.ref o)])) rfl rfl (hb hby d9_8)
  refine own_vF m T2 11 #[vR o, vI (61 : Int32), vI (0 : Int32)] [(.ref ar)] (fun t k => st2 t k) ?_
  refine own_vF m T2 12 #[vR o, vI (61 : Int32), vI (0 : Int32)] [(.int 61), (.ref ar)] (fun t k => XS.iloadN X2.here hx rfl (hb hby d9_11) rfl k) ?_
  refine own_vF m T2 13 #[vR o, vI (61 : Int32), vI (0 : Int32)] [(.int 0), (.int 61), (.ref ar)] (fun t k => XS.iloadN X2.here hx rfl (hb hby d9_12) rfl k) ?_
  refine own_vF m T2 14 #[vR o, vI (61 : Int32), vI (0 : Int32)] [(.ref o), (.int 0), (.int 61), (.ref ar)] (fun t k => XS.aloadN X2.here hx rfl (hb hby d9_13) rfl rfl k) ?_
  obtain ⟨_, T3, L3, X3, hQ3, st3⟩ := own_callV X2 hx hZ (y := (⟨"java/lang/String", "length", "()I"⟩ : MethodName)) (W := 3) (C := "java/lang/String") hown (hw _ (own_mt 54 rfl)) (hw _ (own_mt 55 rfl)) (hw _ (own_mt 57 rfl)) (hw _ (own_mt 56 rfl)) (hw _ (own_mt 12 rfl)) (hw _ (own_mt 58 rfl)) (by decide) (rm_Qln4 l Z a0 hw o ar kk v1 v2 v3 v4 cs sf iso u8 h0 n0 Z0 Od SS Es Fc Fv Va) (by decide) (by decide) e2 Es (g := (mkF m 14 #[vR o, vI (61 : Int32), vI (0 : Int32)] [(.ref o), (.int 0), (.int 61), (.ref ar)])) rfl (by rw [hml]; rfl) (argsL := []) (rest := [(.int 0), (.int 61), (.ref ar)]) rfl (lenOf pd___I rfl) rfl own_w0 (hb hby d9_14) (by decide) (by decide)
  obtain ⟨rfl, N3q, e3⟩ := hQ3
  have N3 := Fr.app N1 N3q
  refine own_vF m T3 17 #[vR o, vI (61 : Int32), vI (0 : Int32)] [(.int 4), (.int 0), (.int 61), (.ref ar)] (fun t k => st3 t k) ?_
  obtain ⟨_, T4, L4, X4, hQ4, st4⟩ := own_callS X3 hx hZ (y := (⟨"java/lang/StringLatin1", "indexOf", "([BIII)I"⟩ : MethodName)) (W := 0) hown (hw _ (own_mt 64 rfl)) (hw _ (own_mt 65 rfl)) (hw _ (own_mt 66 rfl)) (hw _ (own_mt 67 rfl)) (by decide) (rm_Qlx4 l Z a0 hw ar kk v1 v2 v3 v4 h0 n0 Z0 Va) (by decide) (by decide) e3 (g := (mkF m 17 #[vR o, vI (61 : Int32), vI (0 : Int32)] [(.int 4), (.int 0), (.int 61), (.ref ar)])) rfl (by rw [hml]; rfl) (argsL := [(.ref ar), (.int 61), (.int 0), (.int 4)]) (rest := []) rfl (lenOf pd_ABIII__I rfl) rfl own_w0 (hb hby d9_17) (by decide) (by decide)
  obtain ⟨rfl, N4q, e4⟩ := hQ4
  have N4 := Fr.app N3 N4q
  refine own_vF m T4 20 #[vR o, vI (61 : Int32), vI (0 : Int32)] [(.int (if v1 = (61 : Int32) then (0 : Int32) else (if v2 = (61 : Int32) then (1 : Int32) else (if v3 = (61 : Int32) then (2 : Int32) else (if v4 = (61 : Int32) then (3 : Int32) else (-1 : Int32))))))] (fun t k => st4 t k) ?_
  refine own_vF m T4 36 #[vR o, vI (61 : Int32), vI (0 : Int32)] [(.int (if v1 = (61 : Int32) then (0 : Int32) else (if v2 = (61 : Int32) then (1 : Int32) else (if v3 = (61 : Int32) then (2 : Int32) else (if v4 = (61 : Int32) then (3 : Int32) else (-1 : Int32))))))] (fun t k => XS.goto X4.here hx rfl (pc0 := 20) (pc' := 36) rfl (hb hby d9_20) (by decide) (by decide) k) ?_
  exact own_ret X4 (v := some (.int (if v1 = (61 : Int32) then (0 : Int32) else (if v2 = (61 : Int32) then (1 : Int32) else (if v3 = (61 : Int32) then (2 : Int32) else (if v4 = (61 : Int32) then (3 : Int32) else (-1 : Int32))))))) (fun h => by rw [hret] at h; cases h) hlk (fun fs hr => retOut X4 hx (t := .int) hret rfl (Or.inl ⟨rfl, Or.inl rfl, _, rfl⟩) (hb hby d9_36) hr) (by rw [e4]; exact ⟨rfl, N4, rfl⟩) (by decide) (by decide)
def Qx14 (Z : State) (o ar : Addr) (kk : ClassId) (v1 v2 v3 v4 : Int32) (cs : Int32) (sf : Value) (iso u8 : Addr) (h0 : Heap) (n0 : Nat) (v : Option Value) (h : Heap) (L : List Loc) : Prop := v = some (.int (if v1 = (61 : Int32) then (0 : Int32) else (if v2 = (61 : Int32) then (1 : Int32) else (if v3 = (61 : Int32) then (2 : Int32) else (if v4 = (61 : Int32) then (3 : Int32) else (-1 : Int32)))))) ∧ Fr n0 L ∧ h = h0
set_option maxRecDepth 65536 in
set_option maxHeartbeats 40000000 in
theorem rm_Qx14 (l : Launch) (Z : State) (a0 : Array Value) (hw : ∀ d ∈ tables_1, d.before a0 Z = true) (o ar : Addr) (kk : ClassId) (v1 v2 v3 v4 : Int32) (cs : Int32) (sf : Value) (iso u8 : Addr) (h0 : Heap) (n0 : Nat) (Z0 : n0 ≤ h0.size) (Od : Old Z n0 h0) (SS : own_SS Z cs sf iso u8) (Es : Exa Z h0 o "java/lang/String") (Fc : Fld Z h0 o "java/lang/String" "coder" "B" (.int 0)) (Fv : Fld Z h0 o "java/lang/String" "value" "[B" (.ref ar)) (Va : Arv Z h0 ar kk .byte (4 : Int32) [(.int v1), (.int v2), (.int v3), (.int v4)] (.int 0)) :
    own_MG l Z ((⟨"java/lang/String", "indexOf", "(I)I"⟩ : MethodName)) jdk_42_method_79_code 2 (some .int) ({ frames := 3, cells := 0, slots := 0, locals := 46 } : Room) #[(.ref o), (.int 61)] h0 (Qx14 Z o ar kk v1 v2 v3 v4 cs sf iso u8 h0 n0) := by
  refine own_mkG (plainFor_of_name pn_java_lang_String) ?_
  intro p e s m below meth c s₁ X0 hx hby hml hown hnm hret hlk hZ e0
  have N0 := Fr.nil n0
  rw [ef_RI2 m o (61 : Int32)]
  refine own_vF m s₁ 1 #[vR o, vI (61 : Int32)] [(.ref o)] (fun t k => XS.aloadN X0.here hx rfl (hb hby d10_0) rfl rfl k) ?_
  refine own_vF m s₁ 2 #[vR o, vI (61 : Int32)] [(.int 61), (.ref o)] (fun t k => XS.iloadN X0.here hx rfl (hb hby d10_1) rfl k) ?_
  refine own_vF m s₁ 3 #[vR o, vI (61 : Int32)] [(.int 0), (.int 61), (.ref o)] (fun t k => XS.iconst X0.here hx rfl (hb hby d10_2) k) ?_
  obtain ⟨_, T1, L1, X1, hQ1, st1⟩ := own_callV X0 hx hZ (y := (⟨"java/lang/String", "indexOf", "(II)I"⟩ : MethodName)) (W := 0) (C := "java/lang/String") hown (hw _ (own_mt 43 rfl)) (hw _ (own_mt 44 rfl)) (hw _ (own_mt 46 rfl)) (hw _ (own_mt 45 rfl)) (hw _ (own_mt 12 rfl)) (hw _ (own_mt 47 rfl)) (by decide) (rm_Qx24 l Z a0 hw o ar kk v1 v2 v3 v4 cs sf iso u8 h0 n0 Z0 Od SS Es Fc Fv Va) (by decide) (by decide) e0 Es (g := (mkF m 3 #[vR o, vI (61 : Int32)] [(.int 0), (.int 61), (.ref o)])) rfl (by rw [hml]; rfl) (argsL := [(.int 61), (.int 0)]) (rest := []) rfl (lenOf pd_II__I rfl) rfl own_w0 (hb hby d10_3) (by decide) (by decide)
  obtain ⟨rfl, N1q, e1⟩ := hQ1
  have N1 := Fr.app N0 N1q
  refine own_vF m T1 6 #[vR o, vI (61 : Int32)] [(.int (if v1 = (61 : Int32) then (0 : Int32) else (if v2 = (61 : Int32) then (1 : Int32) else (if v3 = (61 : Int32) then (2 : Int32) else (if v4 = (61 : Int32) then (3 : Int32) else (-1 : Int32))))))] (fun t k => st1 t k) ?_
  exact own_ret X1 (v := some (.int (if v1 = (61 : Int32) then (0 : Int32) else (if v2 = (61 : Int32) then (1 : Int32) else (if v3 = (61 : Int32) then (2 : Int32) else (if v4 = (61 : Int32) then (3 : Int32) else (-1 : Int32))))))) (fun h => by rw [hret] at h; cases h) hlk (fun fs hr => retOut X1 hx (t := .int) hret rfl (Or.inl ⟨rfl, Or.inl rfl, _, rfl⟩) (hb hby d10_6) hr) (by rw [e1]; exact ⟨rfl, N1, rfl⟩) (by decide) (by decide)
def Qft (Z : State) (x1 x2 : Int32) (sf : Value) (h0 : Heap) (n0 : Nat) (v : Option Value) (h : Heap) (L : List Loc) : Prop := v = some (.int 0) ∧ Fr n0 L ∧ h = h0
theorem d12_0 : decode jdk_41_method_12_code 0 = .ok (.iload_n 0, 1) := by decide +kernel
theorem d12_1 : decode jdk_41_method_12_code 1 = .ok (.ifCond .lt 13, 3) := by decide +kernel
theorem d12_4 : decode jdk_41_method_12_code 4 = .ok (.iload_n 0, 1) := by decide +kernel
theorem d12_5 : decode jdk_41_method_12_code 5 = .ok (.iload_n 1, 1) := by decide +kernel
theorem d12_6 : decode jdk_41_method_12_code 6 = .ok (.if_icmp .gt 8, 3) := by decide +kernel
theorem d12_9 : decode jdk_41_method_12_code 9 = .ok (.iload_n 1, 1) := by decide +kernel
theorem d12_10 : decode jdk_41_method_12_code 10 = .ok (.iload_n 2, 1) := by decide +kernel
theorem d12_11 : decode jdk_41_method_12_code 11 = .ok (.if_icmp .le 11, 3) := by decide +kernel
theorem d12_22 : decode jdk_41_method_12_code 22 = .ok (.iload_n 0, 1) := by decide +kernel
theorem d12_23 : decode jdk_41_method_12_code 23 = .ok (.ireturn, 1) := by decide +kernel
theorem ef_IIIO4 (m : MethodId) (x0 : Int32) (x1 : Int32) (x2 : Int32) (x3 : Value) (hx3 : x3.category = 1) : entryFrame m #[(.int x0), (.int x1), (.int x2), x3] 4 = mkF m 0 #[vI x0, vI x1, vI x2, .val x3] [] := by first | (simp [entryFrame, mkF, argsToLocals, Value.category, hx3]; done) | (cases x3 <;> simp_all [entryFrame, mkF, argsToLocals, Value.category]; done) | rfl
theorem pn_jdk_internal_util_Preconditions : plainName "jdk/internal/util/Preconditions" = true := by first | (simp [plainName, overriddenIn]; done) | decide +kernel
set_option maxRecDepth 65536 in
set_option maxHeartbeats 40000000 in
theorem rm_Qft (l : Launch) (Z : State) (a0 : Array Value) (hw : ∀ d ∈ tables_1, d.before a0 Z = true) (x1 x2 : Int32) (sf : Value) (h0 : Heap) (n0 : Nat) (Z0 : n0 ≤ h0.size) (hsf : sf.isRef = true) (q1 : ¬ x1 < (0 : Int32)) (q2 : ¬ x2 < x1) :
    own_MG l Z ((⟨"jdk/internal/util/Preconditions", "checkFromToIndex", "(IIILjava/util/function/BiFunction;)I"⟩ : MethodName)) jdk_41_method_12_code 4 (some .int) ({ frames := 0, cells := 0, slots := 0, locals := 0 } : Room) #[(.int 0), (.int x1), (.int x2), sf] h0 (Qft Z x1 x2 sf h0 n0) := by
  refine own_mkG (plainFor_of_name pn_jdk_internal_util_Preconditions) ?_
  intro p e s m below meth c s₁ X0 hx hby hml hown hnm hret hlk hZ e0
  have N0 := Fr.nil n0
  rw [ef_IIIO4 m (0 : Int32) x1 x2 sf (own_cat hsf)]
  refine own_vF m s₁ 1 #[vI (0 : Int32), vI x1, vI x2, .val sf] [(.int 0)] (fun t k => XS.iloadN X0.here hx rfl (hb hby d12_0) rfl k) ?_
  refine own_vF m s₁ 4 #[vI (0 : Int32), vI x1, vI x2, .val sf] [] (fun t k => XS.ifNo X0.here hx rfl (hb hby d12_1) rfl ((if0 _ _).trans (flt (by decide : ¬ ((0 : Int32) < (0 : Int32)))).1) k) ?_
  refine own_vF m s₁ 5 #[vI (0 : Int32), vI x1, vI x2, .val sf] [(.int 0)] (fun t k => XS.iloadN X0.here hx rfl (hb hby d12_4) rfl k) ?_
  refine own_vF m s₁ 6 #[vI (0 : Int32), vI x1, vI x2, .val sf] [(.int x1), (.int 0)] (fun t k => XS.iloadN X0.here hx rfl (hb hby d12_5) rfl k) ?_
  refine own_vF m s₁ 9 #[vI (0 : Int32), vI x1, vI x2, .val sf] [] (fun t k => XS.icmpNo X0.here hx rfl (hb hby d12_6) rfl (flt q1).2.2.1 k) ?_
  refine own_vF m s₁ 10 #[vI (0 : Int32), vI x1, vI x2, .val sf] [(.int x1)] (fun t k => XS.iloadN X0.here hx rfl (hb hby d12_9) rfl k) ?_
  refine own_vF m s₁ 11 #[vI (0 : Int32), vI x1, vI x2, .val sf] [(.int x2), (.int x1)] (fun t k => XS.iloadN X0.here hx rfl (hb hby d12_10) rfl k) ?_
  refine own_vF m s₁ 22 #[vI (0 : Int32), vI x1, vI x2, .val sf] [] (fun t k => XS.icmpYes X0.here hx rfl (pc0 := 11) (pc' := 22) rfl (hb hby d12_11) rfl (flt q2).2.2.2 (by decide) (by decide) k) ?_
  refine own_vF m s₁ 23 #[vI (0 : Int32), vI x1, vI x2, .val sf] [(.int 0)] (fun t k => XS.iloadN X0.here hx rfl (hb hby d12_22) rfl k) ?_
  exact own_ret X0 (v := some (.int 0)) (fun h => by rw [hret] at h; cases h) hlk (fun fs hr => retOut X0 hx (t := .int) hret rfl (Or.inl ⟨rfl, Or.inl rfl, _, rfl⟩) (hb hby d12_23) hr) (by rw [e0]; exact ⟨rfl, N0, rfl⟩) (by decide) (by decide)
def Qcb (Z : State) (x1 x2 : Int32) (cs : Int32) (sf : Value) (iso u8 : Addr) (h0 : Heap) (n0 : Nat) (v : Option Value) (h : Heap) (L : List Loc) : Prop := v = none ∧ Fr n0 L ∧ h = h0
theorem d13_0 : decode jdk_42_method_158_code 0 = .ok (.iload_n 0, 1) := by decide +kernel
theorem d13_1 : decode jdk_42_method_158_code 1 = .ok (.iload_n 1, 1) := by decide +kernel
theorem d13_2 : decode jdk_42_method_158_code 2 = .ok (.iload_n 2, 1) := by decide +kernel
theorem d13_3 : decode jdk_42_method_158_code 3 = .ok (.getstatic 1053, 3) := by decide +kernel
theorem pd_IIILjava_util_function_BiFunction___I : parseMethodDescriptor "(IIILjava/util/function/BiFunction;)I" = some ⟨[.int, .int, .int, (.object "java/util/function/BiFunction")], some .int⟩ := by decide +kernel
theorem d13_6 : decode jdk_42_method_158_code 6 = .ok (.invokestatic 1062, 3) := by decide +kernel
theorem d13_9 : decode jdk_42_method_158_code 9 = .ok (.pop, 1) := by decide +kernel
theorem d13_10 : decode jdk_42_method_158_code 10 = .ok (.return_, 1) := by decide +kernel
set_option maxRecDepth 65536 in
set_option maxHeartbeats 40000000 in
theorem rm_Qcb (l : Launch) (Z : State) (a0 : Array Value) (hw : ∀ d ∈ tables_1, d.before a0 Z = true) (x1 x2 : Int32) (cs : Int32) (sf : Value) (iso u8 : Addr) (h0 : Heap) (n0 : Nat) (Z0 : n0 ≤ h0.size) (Od : Old Z n0 h0) (SS : own_SS Z cs sf iso u8) (q1 : ¬ x1 < (0 : Int32)) (q2 : ¬ x2 < x1) :
    own_MG l Z ((⟨"java/lang/String", "checkBoundsBeginEnd", "(III)V"⟩ : MethodName)) jdk_42_method_158_code 3 none ({ frames := 1, cells := 0, slots := 0, locals := 15 } : Room) #[(.int 0), (.int x1), (.int x2)] h0 (Qcb Z x1 x2 cs sf iso u8 h0 n0) := by
  refine own_mkG (plainFor_of_name pn_java_lang_String) ?_
  intro p e s m below meth c s₁ X0 hx hby hml hown hnm hret hlk hZ e0
  have N0 := Fr.nil n0
  rw [ef_III3 m (0 : Int32) x1 x2]
  have Ssf := SS.2.2.1.ext Od.2
  have hsf := SS.2.2.2.1
  refine own_vF m s₁ 1 #[vI (0 : Int32), vI x1, vI x2] [(.int 0)] (fun t k => XS.iloadN X0.here hx rfl (hb hby d13_0) rfl k) ?_
  refine own_vF m s₁ 2 #[vI (0 : Int32), vI x1, vI x2] [(.int x1), (.int 0)] (fun t k => XS.iloadN X0.here hx rfl (hb hby d13_1) rfl k) ?_
  refine own_vF m s₁ 3 #[vI (0 : Int32), vI x1, vI x2] [(.int x2), (.int x1), (.int 0)] (fun t k => XS.iloadN X0.here hx rfl (hb hby d13_2) rfl k) ?_
  obtain ⟨T1, X1, e1, st1⟩ := getS2 (host := "") X0 hx hZ hown (Or.inl (hw _ (own_mt 87 rfl))) Via.refl e0 Ssf (g := (mkF m 3 #[vI (0 : Int32), vI x1, vI x2] [(.int x2), (.int x1), (.int 0)])) rfl (hb hby d13_3)
  refine own_vF m T1 6 #[vI (0 : Int32), vI x1, vI x2] [sf, (.int x2), (.int x1), (.int 0)] (fun t k => st1 t k) ?_
  obtain ⟨_, T2, L2, X2, hQ2, st2⟩ := own_callS X1 hx hZ (y := (⟨"jdk/internal/util/Preconditions", "checkFromToIndex", "(IIILjava/util/function/BiFunction;)I"⟩ : MethodName)) (W := 0) hown (hw _ (own_mt 89 rfl)) (hw _ (own_mt 90 rfl)) (hw _ (own_mt 88 rfl)) (hw _ (own_mt 91 rfl)) (by decide) (rm_Qft l Z a0 hw x1 x2 sf h0 n0 Z0 hsf q1 q2) (by decide) (by decide) e1 (g := (mkF m 6 #[vI (0 : Int32), vI x1, vI x2] [sf, (.int x2), (.int x1), (.int 0)])) rfl (by rw [hml]; rfl) (argsL := [(.int 0), (.int x1), (.int x2), sf]) (rest := []) rfl (lenOf pd_IIILjava_util_function_BiFunction___I rfl) rfl own_w0 (hb hby d13_6) (by decide) (by decide)
  obtain ⟨rfl, N2q, e2⟩ := hQ2
  have N2 := Fr.app N0 N2q
  refine own_vF m T2 9 #[vI (0 : Int32), vI x1, vI x2] [(.int 0)] (fun t k => st2 t k) ?_
  refine own_vF m T2 10 #[vI (0 : Int32), vI x1, vI x2] [] (fun t k => XS.pop X2.here hx rfl (hb hby d13_9) rfl rfl k) ?_
  exact own_ret X2 (v := none) (fun _ => rfl) hlk (fun fs hr => X2.returnOut hx hret (hb hby d13_10) hr) (by rw [e2]; exact ⟨rfl, N2, rfl⟩) (by decide) (by decide)
def Qci (Z : State) (x1 x2 : Int32) (sf : Value) (h0 : Heap) (n0 : Nat) (v : Option Value) (h : Heap) (L : List Loc) : Prop := v = some (.int x1) ∧ Fr n0 L ∧ h = h0
theorem d14_0 : decode jdk_41_method_11_code 0 = .ok (.iload_n 0, 1) := by decide +kernel
theorem d14_1 : decode jdk_41_method_11_code 1 = .ok (.ifCond .lt 8, 3) := by decide +kernel
theorem d14_4 : decode jdk_41_method_11_code 4 = .ok (.iload_n 0, 1) := by decide +kernel
theorem d14_5 : decode jdk_41_method_11_code 5 = .ok (.iload_n 1, 1) := by decide +kernel
theorem d14_6 : decode jdk_41_method_11_code 6 = .ok (.if_icmp .lt 10, 3) := by decide +kernel
theorem d14_16 : decode jdk_41_method_11_code 16 = .ok (.iload_n 0, 1) := by decide +kernel
theorem d14_17 : decode jdk_41_method_11_code 17 = .ok (.ireturn, 1) := by decide +kernel
theorem ef_IIO3 (m : MethodId) (x0 : Int32) (x1 : Int32) (x2 : Value) (hx2 : x2.category = 1) : entryFrame m #[(.int x0), (.int x1), x2] 3 = mkF m 0 #[vI x0, vI x1, .val x2] [] := by first | (simp [entryFrame, mkF, argsToLocals, Value.category, hx2]; done) | (cases x2 <;> simp_all [entryFrame, mkF, argsToLocals, Value.category]; done) | rfl
set_option maxRecDepth 65536 in
set_option maxHeartbeats 40000000 in
theorem rm_Qci (l : Launch) (Z : State) (a0 : Array Value) (hw : ∀ d ∈ tables_1, d.before a0 Z = true) (x1 x2 : Int32) (sf : Value) (h0 : Heap) (n0 : Nat) (Z0 : n0 ≤ h0.size) (hsf : sf.isRef = true) (q1 : ¬ x1 < (0 : Int32)) (q3 : x1 < x2) :
    own_MG l Z ((⟨"jdk/internal/util/Preconditions", "checkIndex", "(IILjava/util/function/BiFunction;)I"⟩ : MethodName)) jdk_41_method_11_code 3 (some .int) ({ frames := 0, cells := 0, slots := 0, locals := 0 } : Room) #[(.int x1), (.int x2), sf] h0 (Qci Z x1 x2 sf h0 n0) := by
  refine own_mkG (plainFor_of_name pn_jdk_internal_util_Preconditions) ?_
  intro p e s m below meth c s₁ X0 hx hby hml hown hnm hret hlk hZ e0
  have N0 := Fr.nil n0
  rw [ef_IIO3 m x1 x2 sf (own_cat hsf)]
  refine own_vF m s₁ 1 #[vI x1, vI x2, .val sf] [(.int x1)] (fun t k => XS.iloadN X0.here hx rfl (hb hby d14_0) rfl k) ?_
  refine own_vF m s₁ 4 #[vI x1, vI x2, .val sf] [] (fun t k => XS.ifNo X0.here hx rfl (hb hby d14_1) rfl ((if0 _ _).trans (flt q1).1) k) ?_
  refine own_vF m s₁ 5 #[vI x1, vI x2, .val sf] [(.int x1)] (fun t k => XS.iloadN X0.here hx rfl (hb hby d14_4) rfl k) ?_
  refine own_vF m s₁ 6 #[vI x1, vI x2, .val sf] [(.int x2), (.int x1)] (fun t k => XS.iloadN X0.here hx rfl (hb hby d14_5) rfl k) ?_
  refine own_vF m s₁ 16 #[vI x1, vI x2, .val sf] [] (fun t k => XS.icmpYes X0.here hx rfl (pc0 := 6) (pc' := 16) rfl (hb hby d14_6) rfl (tlt q3).1 (by decide) (by decide) k) ?_
  refine own_vF m s₁ 17 #[vI x1, vI x2, .val sf] [(.int x1)] (fun t k => XS.iloadN X0.here hx rfl (hb hby d14_16) rfl k) ?_
  exact own_ret X0 (v := some (.int x1)) (fun h => by rw [hret] at h; cases h) hlk (fun fs hr => retOut X0 hx (t := .int) hret rfl (Or.inl ⟨rfl, Or.inl rfl, _, rfl⟩) (hb hby d14_17) hr) (by rw [e0]; exact ⟨rfl, N0, rfl⟩) (by decide) (by decide)
def Qsc (Z : State) (x1 x2 : Int32) (cs : Int32) (sf : Value) (iso u8 : Addr) (h0 : Heap) (n0 : Nat) (v : Option Value) (h : Heap) (L : List Loc) : Prop := v = none ∧ Fr n0 L ∧ h = h0
theorem d15_0 : decode jdk_42_method_155_code 0 = .ok (.iload_n 0, 1) := by decide +kernel
theorem d15_1 : decode jdk_42_method_155_code 1 = .ok (.iload_n 1, 1) := by decide +kernel
theorem d15_2 : decode jdk_42_method_155_code 2 = .ok (.getstatic 1053, 3) := by decide +kernel
theorem pd_IILjava_util_function_BiFunction___I : parseMethodDescriptor "(IILjava/util/function/BiFunction;)I" = some ⟨[.int, .int, (.object "java/util/function/BiFunction")], some .int⟩ := by decide +kernel
theorem d15_5 : decode jdk_42_method_155_code 5 = .ok (.invokestatic 1059, 3) := by decide +kernel
theorem d15_8 : decode jdk_42_method_155_code 8 = .ok (.pop, 1) := by decide +kernel
theorem d15_9 : decode jdk_42_method_155_code 9 = .ok (.return_, 1) := by decide +kernel
set_option maxRecDepth 65536 in
set_option maxHeartbeats 40000000 in
theorem rm_Qsc (l : Launch) (Z : State) (a0 : Array Value) (hw : ∀ d ∈ tables_1, d.before a0 Z = true) (x1 x2 : Int32) (cs : Int32) (sf : Value) (iso u8 : Addr) (h0 : Heap) (n0 : Nat) (Z0 : n0 ≤ h0.size) (Od : Old Z n0 h0) (SS : own_SS Z cs sf iso u8) (q1 : ¬ x1 < (0 : Int32)) (q3 : x1 < x2) :
    own_MG l Z ((⟨"java/lang/String", "checkIndex", "(II)V"⟩ : MethodName)) jdk_42_method_155_code 2 none ({ frames := 1, cells := 0, slots := 0, locals := 14 } : Room) #[(.int x1), (.int x2)] h0 (Qsc Z x1 x2 cs sf iso u8 h0 n0) := by
  refine own_mkG (plainFor_of_name pn_java_lang_String) ?_
  intro p e s m below meth c s₁ X0 hx hby hml hown hnm hret hlk hZ e0
  have N0 := Fr.nil n0
  rw [ef_II2 m x1 x2]
  have Ssf := SS.2.2.1.ext Od.2
  have hsf := SS.2.2.2.1
  refine own_vF m s₁ 1 #[vI x1, vI x2] [(.int x1)] (fun t k => XS.iloadN X0.here hx rfl (hb hby d15_0) rfl k) ?_
  refine own_vF m s₁ 2 #[vI x1, vI x2] [(.int x2), (.int x1)] (fun t k => XS.iloadN X0.here hx rfl (hb hby d15_1) rfl k) ?_
  obtain ⟨T1, X1, e1, st1⟩ := getS2 (host := "") X0 hx hZ hown (Or.inl (hw _ (own_mt 87 rfl))) Via.refl e0 Ssf (g := (mkF m 2 #[vI x1, vI x2] [(.int x2), (.int x1)])) rfl (hb hby d15_2)
  refine own_vF m T1 5 #[vI x1, vI x2] [sf, (.int x2), (.int x1)] (fun t k => st1 t k) ?_
  obtain ⟨_, T2, L2, X2, hQ2, st2⟩ := own_callS X1 hx hZ (y := (⟨"jdk/internal/util/Preconditions", "checkIndex", "(IILjava/util/function/BiFunction;)I"⟩ : MethodName)) (W := 0) hown (hw _ (own_mt 143 rfl)) (hw _ (own_mt 144 rfl)) (hw _ (own_mt 88 rfl)) (hw _ (own_mt 145 rfl)) (by decide) (rm_Qci l Z a0 hw x1 x2 sf h0 n0 Z0 hsf q1 q3) (by decide) (by decide) e1 (g := (mkF m 5 #[vI x1, vI x2] [sf, (.int x2), (.int x1)])) rfl (by rw [hml]; rfl) (argsL := [(.int x1), (.int x2), sf]) (rest := []) rfl (lenOf pd_IILjava_util_function_BiFunction___I rfl) rfl own_w0 (hb hby d15_5) (by decide) (by decide)
  obtain ⟨rfl, N2q, e2⟩ := hQ2
  have N2 := Fr.app N0 N2q
  refine own_vF m T2 8 #[vI x1, vI x2] [(.int x1)] (fun t k => st2 t k) ?_
  refine own_vF m T2 9 #[vI x1, vI x2] [] (fun t k => XS.pop X2.here hx rfl (hb hby d15_8) rfl rfl k) ?_
  exact own_ret X2 (v := none) (fun _ => rfl) hlk (fun fs hr => X2.returnOut hx hret (hb hby d15_9) hr) (by rw [e2]; exact ⟨rfl, N2, rfl⟩) (by decide) (by decide)
theorem own_narc (x : Int32) : nar .char (x.toUInt32.toUInt16.toUInt32.toInt32) = x.toUInt32.toUInt16.toUInt32.toInt32 := by simp only [nar, UInt32.toUInt32_toInt32, UInt16.toUInt16_toUInt32]
def Qlc10 (Z : State) (ar : Addr) (kk : ClassId) (v1 : Int32) (cs : Int32) (sf : Value) (iso u8 : Addr) (h0 : Heap) (n0 : Nat) (v : Option Value) (h : Heap) (L : List Loc) : Prop := v = some (.int ((v1 &&& (255 : Int32)).toUInt32.toUInt16.toUInt32.toInt32)) ∧ Fr n0 L ∧ h = h0
theorem d16_0 : decode jdk_43_method_2_code 0 = .ok (.iload_n 1, 1) := by decide +kernel
theorem d16_1 : decode jdk_43_method_2_code 1 = .ok (.aload_n 0, 1) := by decide +kernel
theorem d16_2 : decode jdk_43_method_2_code 2 = .ok (.arraylength, 1) := by decide +kernel
theorem pd_II__V : parseMethodDescriptor "(II)V" = some ⟨[.int, .int], none⟩ := by decide +kernel
theorem d16_3 : decode jdk_43_method_2_code 3 = .ok (.invokestatic 9, 3) := by decide +kernel
theorem d16_6 : decode jdk_43_method_2_code 6 = .ok (.aload_n 0, 1) := by decide +kernel
theorem d16_7 : decode jdk_43_method_2_code 7 = .ok (.iload_n 1, 1) := by decide +kernel
theorem d16_8 : decode jdk_43_method_2_code 8 = .ok (.baload, 1) := by decide +kernel
theorem d16_9 : decode jdk_43_method_2_code 9 = .ok (.sipush 255, 3) := by decide +kernel
theorem d16_12 : decode jdk_43_method_2_code 12 = .ok (.iand, 1) := by decide +kernel
theorem d16_13 : decode jdk_43_method_2_code 13 = .ok (.i2c, 1) := by decide +kernel
theorem d16_14 : decode jdk_43_method_2_code 14 = .ok (.ireturn, 1) := by decide +kernel
set_option maxRecDepth 65536 in
set_option maxHeartbeats 40000000 in
theorem rm_Qlc10 (l : Launch) (Z : State) (a0 : Array Value) (hw : ∀ d ∈ tables_1, d.before a0 Z = true) (ar : Addr) (kk : ClassId) (v1 : Int32) (cs : Int32) (sf : Value) (iso u8 : Addr) (h0 : Heap) (n0 : Nat) (Z0 : n0 ≤ h0.size) (Od : Old Z n0 h0) (SS : own_SS Z cs sf iso u8) (Va : Arv Z h0 ar kk .byte (1 : Int32) [(.int v1)] (.int 0)) :
    own_MG l Z ((⟨"java/lang/StringLatin1", "charAt", "([BI)C"⟩ : MethodName)) jdk_43_method_2_code 2 (some .char) ({ frames := 2, cells := 0, slots := 0, locals := 27 } : Room) #[(.ref ar), (.int 0)] h0 (Qlc10 Z ar kk v1 cs sf iso u8 h0 n0) := by
  refine own_mkG (plainFor_of_name pn_java_lang_StringLatin1) ?_
  intro p e s m below meth c s₁ X0 hx hby hml hown hnm hret hlk hZ e0
  have N0 := Fr.nil n0
  rw [ef_RI2 m ar (0 : Int32)]
  refine own_vF m s₁ 1 #[vR ar, vI (0 : Int32)] [(.int 0)] (fun t k => XS.iloadN X0.here hx rfl (hb hby d16_0) rfl k) ?_
  refine own_vF m s₁ 2 #[vR ar, vI (0 : Int32)] [(.ref ar), (.int 0)] (fun t k => XS.aloadN X0.here hx rfl (hb hby d16_1) rfl rfl k) ?_
  obtain ⟨c1, Ar1, q1a, q1b, q1c, q1d, q1e⟩ := id Va
  refine own_vF m s₁ 3 #[vR ar, vI (0 : Int32)] [(.int 1), (.int 0)] (fun t k => (fun t k => X0.arraylength hx (by rw [e0]; exact Ar1.1) (State.isArrayOf_alike hZ.alike Ar1.2.1) (g := (mkF m 2 #[vR ar, vI (0 : Int32)] [(.ref ar), (.int 0)])) rfl rfl (hb hby d16_2) t (by rw [len_of q1b q1c]; exact k)) t k) ?_
  obtain ⟨_, T2, L2, X2, hQ2, st2⟩ := own_callS X0 hx hZ (y := (⟨"java/lang/String", "checkIndex", "(II)V"⟩ : MethodName)) (W := 0) hown (hw _ (own_mt 140 rfl)) (hw _ (own_mt 141 rfl)) (hw _ (own_mt 12 rfl)) (hw _ (own_mt 142 rfl)) (by decide) (rm_Qsc l Z a0 hw (0 : Int32) (1 : Int32) cs sf iso u8 h0 n0 Z0 Od SS (by decide) (by decide)) (by decide) (by decide) e0 (g := (mkF m 3 #[vR ar, vI (0 : Int32)] [(.int 1), (.int 0)])) rfl (by rw [hml]; rfl) (argsL := [(.int 0), (.int 1)]) (rest := []) rfl (lenOf pd_II__V rfl) rfl own_w0 (hb hby d16_3) (by decide) (by decide)
  obtain ⟨rfl, N2q, e2⟩ := hQ2
  have N2 := Fr.app N0 N2q
  refine own_vF m T2 6 #[vR ar, vI (0 : Int32)] [] (fun t k => st2 t k) ?_
  refine own_vF m T2 7 #[vR ar, vI (0 : Int32)] [(.ref ar)] (fun t k => XS.aloadN X2.here hx rfl (hb hby d16_6) rfl rfl k) ?_
  refine own_vF m T2 8 #[vR ar, vI (0 : Int32)] [(.int 0), (.ref ar)] (fun t k => XS.iloadN X2.here hx rfl (hb hby d16_7) rfl k) ?_
  obtain ⟨c3, Ar3, q3a, q3b, q3c, q3d, q3e⟩ := id Va
  refine own_vF m T2 9 #[vR ar, vI (0 : Int32)] [(.int v1)] (fun t k => X2.baloadBytes hx (j := (0 : Int32)) (v := (.int v1)) (by rw [e2]; exact Ar3.1) (State.isArrayOf_alike hZ.alike Ar3.2.1) Ar3.2.2 (inb_of q3b (by decide)) (q3d.at (inb_of q3b (by decide)) rfl) (g := (mkF m 8 #[vR ar, vI (0 : Int32)] [(.int 0), (.ref ar)])) rfl rfl (hb hby d16_8) _ k) ?_
  refine own_vF m T2 12 #[vR ar, vI (0 : Int32)] [(.int 255), (.int v1)] (fun t k => XS.sipush X2.here hx rfl (hb hby d16_9) k) ?_
  refine own_vF m T2 13 #[vR ar, vI (0 : Int32)] [(.int (v1 &&& (255 : Int32)))] (fun t k => XS.iand X2.here hx rfl (hb hby d16_12) rfl k) ?_
  refine own_vF m T2 14 #[vR ar, vI (0 : Int32)] [(.int ((v1 &&& (255 : Int32)).toUInt32.toUInt16.toUInt32.toInt32))] (fun t k => XS.i2c X2.here hx rfl (hb hby d16_13) rfl k) ?_
  exact own_ret X2 (v := some (.int (nar .char ((v1 &&& (255 : Int32)).toUInt32.toUInt16.toUInt32.toInt32)))) (fun h => by rw [hret] at h; cases h) hlk (fun fs hr => retN X2 hx (t := .char) hret (by simp) (hb hby d16_14) hr) (by rw [e2]; exact ⟨by rw [own_narc], N2, rfl⟩) (by decide) (by decide)
def Qca10 (Z : State) (o ar : Addr) (kk : ClassId) (v1 : Int32) (cs : Int32) (sf : Value) (iso u8 : Addr) (h0 : Heap) (n0 : Nat) (v : Option Value) (h : Heap) (L : List Loc) : Prop := v = some (.int ((v1 &&& (255 : Int32)).toUInt32.toUInt16.toUInt32.toInt32)) ∧ Fr n0 L ∧ h = h0
theorem d17_0 : decode jdk_42_method_56_code 0 = .ok (.aload_n 0, 1) := by decide +kernel
theorem d17_1 : decode jdk_42_method_56_code 1 = .ok (.invokevirtual 492, 3) := by decide +kernel
theorem d17_4 : decode jdk_42_method_56_code 4 = .ok (.ifCond .eq 12, 3) := by decide +kernel
theorem d17_7 : decode jdk_42_method_56_code 7 = .ok (.aload_n 0, 1) := by decide +kernel
theorem d17_8 : decode jdk_42_method_56_code 8 = .ok (.getfield 9, 3) := by decide +kernel
theorem d17_11 : decode jdk_42_method_56_code 11 = .ok (.iload_n 1, 1) := by decide +kernel
theorem pd_ABI__C : parseMethodDescriptor "([BI)C" = some ⟨[(.array .byte), .int], some .char⟩ := by decide +kernel
theorem d17_12 : decode jdk_42_method_56_code 12 = .ok (.invokestatic 495, 3) := by decide +kernel
theorem d17_15 : decode jdk_42_method_56_code 15 = .ok (.ireturn, 1) := by decide +kernel
set_option maxRecDepth 65536 in
set_option maxHeartbeats 40000000 in
theorem rm_Qca10 (l : Launch) (Z : State) (a0 : Array Value) (hw : ∀ d ∈ tables_1, d.before a0 Z = true) (o ar : Addr) (kk : ClassId) (v1 : Int32) (cs : Int32) (sf : Value) (iso u8 : Addr) (h0 : Heap) (n0 : Nat) (Z0 : n0 ≤ h0.size) (Od : Old Z n0 h0) (SS : own_SS Z cs sf iso u8) (Es : Exa Z h0 o "java/lang/String") (Fc : Fld Z h0 o "java/lang/String" "coder" "B" (.int 0)) (Fv : Fld Z h0 o "java/lang/String" "value" "[B" (.ref ar)) (Va : Arv Z h0 ar kk .byte (1 : Int32) [(.int v1)] (.int 0)) :
    own_MG l Z ((⟨"java/lang/String", "charAt", "(I)C"⟩ : MethodName)) jdk_42_method_56_code 2 (some .char) ({ frames := 3, cells := 0, slots := 0, locals := 40 } : Room) #[(.ref o), (.int 0)] h0 (Qca10 Z o ar kk v1 cs sf iso u8 h0 n0) := by
  refine own_mkG (plainFor_of_name pn_java_lang_String) ?_
  intro p e s m below meth c s₁ X0 hx hby hml hown hnm hret hlk hZ e0
  have N0 := Fr.nil n0
  rw [ef_RI2 m o (0 : Int32)]
  refine own_vF m s₁ 1 #[vR o, vI (0 : Int32)] [(.ref o)] (fun t k => XS.aloadN X0.here hx rfl (hb hby d17_0) rfl rfl k) ?_
  obtain ⟨_, T1, L1, X1, hQ1, st1⟩ := own_callV X0 hx hZ (y := (⟨"java/lang/String", "isLatin1", "()Z"⟩ : MethodName)) (W := 0) (C := "java/lang/String") hown (hw _ (own_mt 48 rfl)) (hw _ (own_mt 49 rfl)) (hw _ (own_mt 51 rfl)) (hw _ (own_mt 50 rfl)) (hw _ (own_mt 12 rfl)) (hw _ (own_mt 52 rfl)) (by decide) (rm_Ql1 l Z a0 hw o ar cs sf iso u8 h0 n0 Z0 Od SS Es Fc Fv) (by decide) (by decide) e0 Es (g := (mkF m 1 #[vR o, vI (0 : Int32)] [(.ref o)])) rfl (by rw [hml]; rfl) (argsL := []) (rest := []) rfl (lenOf pd___Z rfl) rfl own_w0 (hb hby d17_1) (by decide) (by decide)
  obtain ⟨rfl, N1q, e1⟩ := hQ1
  have N1 := Fr.app N0 N1q
  refine own_vF m T1 4 #[vR o, vI (0 : Int32)] [(.int 1)] (fun t k => st1 t k) ?_
  refine own_vF m T1 7 #[vR o, vI (0 : Int32)] [] (fun t k => XS.ifNo X1.here hx rfl (hb hby d17_4) rfl ((if0 _ _).trans (feq (by decide : ¬ ((1 : Int32) = (0 : Int32)))).1) k) ?_
  refine own_vF m T1 8 #[vR o, vI (0 : Int32)] [(.ref o)] (fun t k => XS.aloadN X1.here hx rfl (hb hby d17_7) rfl rfl k) ?_
  obtain ⟨T2, X2, e2, st2⟩ := getF (host := "") X1 hx hZ hown (Or.inl (hw _ (own_mt 36 rfl))) Via.refl e1 Fv (g := (mkF m 8 #[vR o, vI (0 : Int32)] [(.ref o)])) rfl rfl (hb hby d17_8)
  refine own_vF m T2 11 #[vR o, vI (0 : Int32)] [(.ref ar)] (fun t k => st2 t k) ?_
  refine own_vF m T2 12 #[vR o, vI (0 : Int32)] [(.int 0), (.ref ar)] (fun t k => XS.iloadN X2.here hx rfl (hb hby d17_11) rfl k) ?_
  obtain ⟨_, T3, L3, X3, hQ3, st3⟩ := own_callS X2 hx hZ (y := (⟨"java/lang/StringLatin1", "charAt", "([BI)C"⟩ : MethodName)) (W := 0) hown (hw _ (own_mt 137 rfl)) (hw _ (own_mt 138 rfl)) (hw _ (own_mt 66 rfl)) (hw _ (own_mt 139 rfl)) (by decide) (rm_Qlc10 l Z a0 hw ar kk v1 cs sf iso u8 h0 n0 Z0 Od SS Va) (by decide) (by decide) e2 (g := (mkF m 12 #[vR o, vI (0 : Int32)] [(.int 0), (.ref ar)])) rfl (by rw [hml]; rfl) (argsL := [(.ref ar), (.int 0)]) (rest := []) rfl (lenOf pd_ABI__C rfl) rfl own_w0 (hb hby d17_12) (by decide) (by decide)
  obtain ⟨rfl, N3q, e3⟩ := hQ3
  have N3 := Fr.app N1 N3q
  refine own_vF m T3 15 #[vR o, vI (0 : Int32)] [(.int ((v1 &&& (255 : Int32)).toUInt32.toUInt16.toUInt32.toInt32))] (fun t k => st3 t k) ?_
  exact own_ret X3 (v := some (.int (nar .char ((v1 &&& (255 : Int32)).toUInt32.toUInt16.toUInt32.toInt32)))) (fun h => by rw [hret] at h; cases h) hlk (fun fs hr => retN X3 hx (t := .char) hret (by simp) (hb hby d17_15) hr) (by rw [e3]; exact ⟨by rw [own_narc], N3, rfl⟩) (by decide) (by decide)
def Qlc20 (Z : State) (ar : Addr) (kk : ClassId) (v1 v2 : Int32) (cs : Int32) (sf : Value) (iso u8 : Addr) (h0 : Heap) (n0 : Nat) (v : Option Value) (h : Heap) (L : List Loc) : Prop := v = some (.int ((v1 &&& (255 : Int32)).toUInt32.toUInt16.toUInt32.toInt32)) ∧ Fr n0 L ∧ h = h0
set_option maxRecDepth 65536 in
set_option maxHeartbeats 40000000 in
theorem rm_Qlc20 (l : Launch) (Z : State) (a0 : Array Value) (hw : ∀ d ∈ tables_1, d.before a0 Z = true) (ar : Addr) (kk : ClassId) (v1 v2 : Int32) (cs : Int32) (sf : Value) (iso u8 : Addr) (h0 : Heap) (n0 : Nat) (Z0 : n0 ≤ h0.size) (Od : Old Z n0 h0) (SS : own_SS Z cs sf iso u8) (Va : Arv Z h0 ar kk .byte (2 : Int32) [(.int v1), (.int v2)] (.int 0)) :
    own_MG l Z ((⟨"java/lang/StringLatin1", "charAt", "([BI)C"⟩ : MethodName)) jdk_43_method_2_code 2 (some .char) ({ frames := 2, cells := 0, slots := 0, locals := 27 } : Room) #[(.ref ar), (.int 0)] h0 (Qlc20 Z ar kk v1 v2 cs sf iso u8 h0 n0) := by
  refine own_mkG (plainFor_of_name pn_java_lang_StringLatin1) ?_
  intro p e s m below meth c s₁ X0 hx hby hml hown hnm hret hlk hZ e0
  have N0 := Fr.nil n0
  rw [ef_RI2 m ar (0 : Int32)]
  refine own_vF m s₁ 1 #[vR ar, vI (0 : Int32)] [(.int 0)] (fun t k => XS.iloadN X0.here hx rfl (hb hby d16_0) rfl k) ?_
  refine own_vF m s₁ 2 #[vR ar, vI (0 : Int32)] [(.ref ar), (.int 0)] (fun t k => XS.aloadN X0.here hx rfl (hb hby d16_1) rfl rfl k) ?_
  obtain ⟨c1, Ar1, q1a, q1b, q1c, q1d, q1e⟩ := id Va
  refine own_vF m s₁ 3 #[vR ar, vI (0 : Int32)] [(.int 2), (.int 0)] (fun t k => (fun t k => X0.arraylength hx (by rw [e0]; exact Ar1.1) (State.isArrayOf_alike hZ.alike Ar1.2.1) (g := (mkF m 2 #[vR ar, vI (0 : Int32)] [(.ref ar), (.int 0)])) rfl rfl (hb hby d16_2) t (by rw [len_of q1b q1c]; exact k)) t k) ?_
  obtain ⟨_, T2, L2, X2, hQ2, st2⟩ := own_callS X0 hx hZ (y := (⟨"java/lang/String", "checkIndex", "(II)V"⟩ : MethodName)) (W := 0) hown (hw _ (own_mt 140 rfl)) (hw _ (own_mt 141 rfl)) (hw _ (own_mt 12 rfl)) (hw _ (own_mt 142 rfl)) (by decide) (rm_Qsc l Z a0 hw (0 : Int32) (2 : Int32) cs sf iso u8 h0 n0 Z0 Od SS (by decide) (by decide)) (by decide) (by decide) e0 (g := (mkF m 3 #[vR ar, vI (0 : Int32)] [(.int 2), (.int 0)])) rfl (by rw [hml]; rfl) (argsL := [(.int 0), (.int 2)]) (rest := []) rfl (lenOf pd_II__V rfl) rfl own_w0 (hb hby d16_3) (by decide) (by decide)
  obtain ⟨rfl, N2q, e2⟩ := hQ2
  have N2 := Fr.app N0 N2q
  refine own_vF m T2 6 #[vR ar, vI (0 : Int32)] [] (fun t k => st2 t k) ?_
  refine own_vF m T2 7 #[vR ar, vI (0 : Int32)] [(.ref ar)] (fun t k => XS.aloadN X2.here hx rfl (hb hby d16_6) rfl rfl k) ?_
  refine own_vF m T2 8 #[vR ar, vI (0 : Int32)] [(.int 0), (.ref ar)] (fun t k => XS.iloadN X2.here hx rfl (hb hby d16_7) rfl k) ?_
  obtain ⟨c3, Ar3, q3a, q3b, q3c, q3d, q3e⟩ := id Va
  refine own_vF m T2 9 #[vR ar, vI (0 : Int32)] [(.int v1)] (fun t k => X2.baloadBytes hx (j := (0 : Int32)) (v := (.int v1)) (by rw [e2]; exact Ar3.1) (State.isArrayOf_alike hZ.alike Ar3.2.1) Ar3.2.2 (inb_of q3b (by decide)) (q3d.at (inb_of q3b (by decide)) rfl) (g := (mkF m 8 #[vR ar, vI (0 : Int32)] [(.int 0), (.ref ar)])) rfl rfl (hb hby d16_8) _ k) ?_
  refine own_vF m T2 12 #[vR ar, vI (0 : Int32)] [(.int 255), (.int v1)] (fun t k => XS.sipush X2.here hx rfl (hb hby d16_9) k) ?_
  refine own_vF m T2 13 #[vR ar, vI (0 : Int32)] [(.int (v1 &&& (255 : Int32)))] (fun t k => XS.iand X2.here hx rfl (hb hby d16_12) rfl k) ?_
  refine own_vF m T2 14 #[vR ar, vI (0 : Int32)] [(.int ((v1 &&& (255 : Int32)).toUInt32.toUInt16.toUInt32.toInt32))] (fun t k => XS.i2c X2.here hx rfl (hb hby d16_13) rfl k) ?_
  exact own_ret X2 (v := some (.int (nar .char ((v1 &&& (255 : Int32)).toUInt32.toUInt16.toUInt32.toInt32)))) (fun h => by rw [hret] at h; cases h) hlk (fun fs hr => retN X2 hx (t := .char) hret (by simp) (hb hby d16_14) hr) (by rw [e2]; exact ⟨by rw [own_narc], N2, rfl⟩) (by decide) (by decide)
def Qca20 (Z : State) (o ar : Addr) (kk : ClassId) (v1 v2 : Int32) (cs : Int32) (sf : Value) (iso u8 : Addr) (h0 : Heap) (n0 : Nat) (v : Option Value) (h : Heap) (L : List Loc) : Prop := v = some (.int ((v1 &&& (255 : Int32)).toUInt32.toUInt16.toUInt32.toInt32)) ∧ Fr n0 L ∧ h = h0
set_option maxRecDepth 65536 in
set_option maxHeartbeats 40000000 in
theorem rm_Qca20 (l : Launch) (Z : State) (a0 : Array Value) (hw : ∀ d ∈ tables_1, d.before a0 Z = true) (o ar : Addr) (kk : ClassId) (v1 v2 : Int32) (cs : Int32) (sf : Value) (iso u8 : Addr) (h0 : Heap) (n0 : Nat) (Z0 : n0 ≤ h0.size) (Od : Old Z n0 h0) (SS : own_SS Z cs sf iso u8) (Es : Exa Z h0 o "java/lang/String") (Fc : Fld Z h0 o "java/lang/String" "coder" "B" (.int 0)) (Fv : Fld Z h0 o "java/lang/String" "value" "[B" (.ref ar)) (Va : Arv Z h0 ar kk .byte (2 : Int32) [(.int v1), (.int v2)] (.int 0)) :
    own_MG l Z ((⟨"java/lang/String", "charAt", "(I)C"⟩ : MethodName)) jdk_42_method_56_code 2 (some .char) ({ frames := 3, cells := 0, slots := 0, locals := 40 } : Room) #[(.ref o), (.int 0)] h0 (Qca20 Z o ar kk v1 v2 cs sf iso u8 h0 n0) := by
  refine own_mkG (plainFor_of_name pn_java_lang_String) ?_
  intro p e s m below meth c s₁ X0 hx hby hml hown hnm hret hlk hZ e0
  have N0 := Fr.nil n0
  rw [ef_RI2 m o (0 : Int32)]
  refine own_vF m s₁ 1 #[vR o, vI (0 : Int32)] [(.ref o)] (fun t k => XS.aloadN X0.here hx rfl (hb hby d17_0) rfl rfl k) ?_
  obtain ⟨_, T1, L1, X1, hQ1, st1⟩ := own_callV X0 hx hZ (y := (⟨"java/lang/String", "isLatin1", "()Z"⟩ : MethodName)) (W := 0) (C := "java/lang/String") hown (hw _ (own_mt 48 rfl)) (hw _ (own_mt 49 rfl)) (hw _ (own_mt 51 rfl)) (hw _ (own_mt 50 rfl)) (hw _ (own_mt 12 rfl)) (hw _ (own_mt 52 rfl)) (by decide) (rm_Ql1 l Z a0 hw o ar cs sf iso u8 h0 n0 Z0 Od SS Es Fc Fv) (by decide) (by decide) e0 Es (g := (mkF m 1 #[vR o, vI (0 : Int32)] [(.ref o)])) rfl (by rw [hml]; rfl) (argsL := []) (rest := []) rfl (lenOf pd___Z rfl) rfl own_w0 (hb hby d17_1) (by decide) (by decide)
  obtain ⟨rfl, N1q, e1⟩ := hQ1
  have N1 := Fr.app N0 N1q
  refine own_vF m T1 4 #[vR o, vI (0 : Int32)] [(.int 1)] (fun t k => st1 t k) ?_
  refine own_vF m T1 7 #[vR o, vI (0 : Int32)] [] (fun t k => XS.ifNo X1.here hx rfl (hb hby d17_4) rfl ((if0 _ _).trans (feq (by decide : ¬ ((1 : Int32) = (0 : Int32)))).1) k) ?_
  refine own_vF m T1 8 #[vR o, vI (0 : Int32)] [(.ref o)] (fun t k => XS.aloadN X1.here hx rfl (hb hby d17_7) rfl rfl k) ?_
  obtain ⟨T2, X2, e2, st2⟩ := getF (host := "") X1 hx hZ hown (Or.inl (hw _ (own_mt 36 rfl))) Via.refl e1 Fv (g := (mkF m 8 #[vR o, vI (0 : Int32)] [(.ref o)])) rfl rfl (hb hby d17_8)
  refine own_vF m T2 11 #[vR o, vI (0 : Int32)] [(.ref ar)] (fun t k => st2 t k) ?_
  refine own_vF m T2 12 #[vR o, vI (0 : Int32)] [(.int 0), (.ref ar)] (fun t k => XS.iloadN X2.here hx rfl (hb hby d17_11) rfl k) ?_
  obtain ⟨_, T3, L3, X3, hQ3, st3⟩ := own_callS X2 hx hZ (y := (⟨"java/lang/StringLatin1", "charAt", "([BI)C"⟩ : MethodName)) (W := 0) hown (hw _ (own_mt 137 rfl)) (hw _ (own_mt 138 rfl)) (hw _ (own_mt 66 rfl)) (hw _ (own_mt 139 rfl)) (by decide) (rm_Qlc20 l Z a0 hw ar kk v1 v2 cs sf iso u8 h0 n0 Z0 Od SS Va) (by decide) (by decide) e2 (g := (mkF m 12 #[vR o, vI (0 : Int32)] [(.int 0), (.ref ar)])) rfl (by rw [hml]; rfl) (argsL := [(.ref ar), (.int 0)]) (rest := []) rfl (lenOf pd_ABI__C rfl) rfl own_w0 (hb hby d17_12) (by decide) (by decide)
  obtain ⟨rfl, N3q, e3⟩ := hQ3
  have N3 := Fr.app N1 N3q
  refine own_vF m T3 15 #[vR o, vI (0 : Int32)] [(.int ((v1 &&& (255 : Int32)).toUInt32.toUInt16.toUInt32.toInt32))] (fun t k => st3 t k) ?_
  exact own_ret X3 (v := some (.int (nar .char ((v1 &&& (255 : Int32)).toUInt32.toUInt16.toUInt32.toInt32)))) (fun h => by rw [hret] at h; cases h) hlk (fun fs hr => retN X3 hx (t := .char) hret (by simp) (hb hby d17_15) hr) (by rw [e3]; exact ⟨by rw [own_narc], N3, rfl⟩) (by decide) (by decide)
def Qlc21 (Z : State) (ar : Addr) (kk : ClassId) (v1 v2 : Int32) (cs : Int32) (sf : Value) (iso u8 : Addr) (h0 : Heap) (n0 : Nat) (v : Option Value) (h : Heap) (L : List Loc) : Prop := v = some (.int ((v2 &&& (255 : Int32)).toUInt32.toUInt16.toUInt32.toInt32)) ∧ Fr n0 L ∧ h = h0
set_option maxRecDepth 65536 in
set_option maxHeartbeats 40000000 in
theorem rm_Qlc21 (l : Launch) (Z : State) (a0 : Array Value) (hw : ∀ d ∈ tables_1, d.before a0 Z = true) (ar : Addr) (kk : ClassId) (v1 v2 : Int32) (cs : Int32) (sf : Value) (iso u8 : Addr) (h0 : Heap) (n0 : Nat) (Z0 : n0 ≤ h0.size) (Od : Old Z n0 h0) (SS : own_SS Z cs sf iso u8) (Va : Arv Z h0 ar kk .byte (2 : Int32) [(.int v1), (.int v2)] (.int 0)) :
    own_MG l Z ((⟨"java/lang/StringLatin1", "charAt", "([BI)C"⟩ : MethodName)) jdk_43_method_2_code 2 (some .char) ({ frames := 2, cells := 0, slots := 0, locals := 27 } : Room) #[(.ref ar), (.int 1)] h0 (Qlc21 Z ar kk v1 v2 cs sf iso u8 h0 n0) := by
  refine own_mkG (plainFor_of_name pn_java_lang_StringLatin1) ?_
  intro p e s m below meth c s₁ X0 hx hby hml hown hnm hret hlk hZ e0
  have N0 := Fr.nil n0
  rw [ef_RI2 m ar (1 : Int32)]
  refine own_vF m s₁ 1 #[vR ar, vI (1 : Int32)] [(.int 1)] (fun t k => XS.iloadN X0.here hx rfl (hb hby d16_0) rfl k) ?_
  refine own_vF m s₁ 2 #[vR ar, vI (1 : Int32)] [(.ref ar), (.int 1)] (fun t k => XS.aloadN X0.here hx rfl (hb hby d16_1) rfl rfl k) ?_
  obtain ⟨c1, Ar1, q1a, q1b, q1c, q1d, q1e⟩ := id Va
  refine own_vF m s₁ 3 #[vR ar, vI (1 : Int32)] [(.int 2), (.int 1)] (fun t k => (fun t k => X0.arraylength hx (by rw [e0]; exact Ar1.1) (State.isArrayOf_alike hZ.alike Ar1.2.1) (g := (mkF m 2 #[vR ar, vI (1 : Int32)] [(.ref ar), (.int 1)])) rfl rfl (hb hby d16_2) t (by rw [len_of q1b q1c]; exact k)) t k) ?_
  obtain ⟨_, T2, L2, X2, hQ2, st2⟩ := own_callS X0 hx hZ (y := (⟨"java/lang/String", "checkIndex", "(II)V"⟩ : MethodName)) (W := 0) hown (hw _ (own_mt 140 rfl)) (hw _ (own_mt 141 rfl)) (hw _ (own_mt 12 rfl)) (hw _ (own_mt 142 rfl)) (by decide) (rm_Qsc l Z a0 hw (1 : Int32) (2 : Int32) cs sf iso u8 h0 n0 Z0 Od SS (by decide) (by decide)) (by decide) (by decide) e0 (g := (mkF m 3 #[vR ar, vI (1 : Int32)] [(.int 2), (.int 1)])) rfl (by rw [hml]; rfl) (argsL := [(.int 1), (.int 2)]) (rest := []) rfl (lenOf pd_II__V rfl) rfl own_w0 (hb hby d16_3) (by decide) (by decide)
  obtain ⟨rfl, N2q, e2⟩ := hQ2
  have N2 := Fr.app N0 N2q
  refine own_vF m T2 6 #[vR ar, vI (1 : Int32)] [] (fun t k => st2 t k) ?_
  refine own_vF m T2 7 #[vR ar, vI (1 : Int32)] [(.ref ar)] (fun t k => XS.aloadN X2.here hx rfl (hb hby d16_6) rfl rfl k) ?_
  refine own_vF m T2 8 #[vR ar, vI (1 : Int32)] [(.int 1), (.ref ar)] (fun t k => XS.iloadN X2.here hx rfl (hb hby d16_7) rfl k) ?_
  obtain ⟨c3, Ar3, q3a, q3b, q3c, q3d, q3e⟩ := id Va
  refine own_vF m T2 9 #[vR ar, vI (1 : Int32)] [(.int v2)] (fun t k => X2.baloadBytes hx (j := (1 : Int32)) (v := (.int v2)) (by rw [e2]; exact Ar3.1) (State.isArrayOf_alike hZ.alike Ar3.2.1) Ar3.2.2 (inb_of q3b (by decide)) (q3d.at (inb_of q3b (by decide)) rfl) (g := (mkF m 8 #[vR ar, vI (1 : Int32)] [(.int 1), (.ref ar)])) rfl rfl (hb hby d16_8) _ k) ?_
  refine own_vF m T2 12 #[vR ar, vI (1 : Int32)] [(.int 255), (.int v2)] (fun t k => XS.sipush X2.here hx rfl (hb hby d16_9) k) ?_
  refine own_vF m T2 13 #[vR ar, vI (1 : Int32)] [(.int (v2 &&& (255 : Int32)))] (fun t k => XS.iand X2.here hx rfl (hb hby d16_12) rfl k) ?_
  refine own_vF m T2 14 #[vR ar, vI (1 : Int32)] [(.int ((v2 &&& (255 : Int32)).toUInt32.toUInt16.toUInt32.toInt32))] (fun t k => XS.i2c X2.here hx rfl (hb hby d16_13) rfl k) ?_
  exact own_ret X2 (v := some (.int (nar .char ((v2 &&& (255 : Int32)).toUInt32.toUInt16.toUInt32.toInt32)))) (fun h => by rw [hret] at h; cases h) hlk (fun fs hr => retN X2 hx (t := .char) hret (by simp) (hb hby d16_14) hr) (by rw [e2]; exact ⟨by rw [own_narc], N2, rfl⟩) (by decide) (by decide)
def Qca21 (Z : State) (o ar : Addr) (kk : ClassId) (v1 v2 : Int32) (cs : Int32) (sf : Value) (iso u8 : Addr) (h0 : Heap) (n0 : Nat) (v : Option Value) (h : Heap) (L : List Loc) : Prop := v = some (.int ((v2 &&& (255 : Int32)).toUInt32.toUInt16.toUInt32.toInt32)) ∧ Fr n0 L ∧ h = h0
set_option maxRecDepth 65536 in
set_option maxHeartbeats 40000000 in
theorem rm_Qca21 (l : Launch) (Z : State) (a0 : Array Value) (hw : ∀ d ∈ tables_1, d.before a0 Z = true) (o ar : Addr) (kk : ClassId) (v1 v2 : Int32) (cs : Int32) (sf : Value) (iso u8 : Addr) (h0 : Heap) (n0 : Nat) (Z0 : n0 ≤ h0.size) (Od : Old Z n0 h0) (SS : own_SS Z cs sf iso u8) (Es : Exa Z h0 o "java/lang/String") (Fc : Fld Z h0 o "java/lang/String" "coder" "B" (.int 0)) (Fv : Fld Z h0 o "java/lang/String" "value" "[B" (.ref ar)) (Va : Arv Z h0 ar kk .byte (2 : Int32) [(.int v1), (.int v2)] (.int 0)) :
    own_MG l Z ((⟨"java/lang/String", "charAt", "(I)C"⟩ : MethodName)) jdk_42_method_56_code 2 (some .char) ({ frames := 3, cells := 0, slots := 0, locals := 40 } : Room) #[(.ref o), (.int 1)] h0 (Qca21 Z o ar kk v1 v2 cs sf iso u8 h0 n0) := by
  refine own_mkG (plainFor_of_name pn_java_lang_String) ?_
  intro p e s m below meth c s₁ X0 hx hby hml hown hnm hret hlk hZ e0
  have N0 := Fr.nil n0
  rw [ef_RI2 m o (1 : Int32)]
  refine own_vF m s₁ 1 #[vR o, vI (1 : Int32)] [(.ref o)] (fun t k => XS.aloadN X0.here hx rfl (hb hby d17_0) rfl rfl k) ?_
  obtain ⟨_, T1, L1, X1, hQ1, st1⟩ := own_callV X0 hx hZ (y := (⟨"java/lang/String", "isLatin1", "()Z"⟩ : MethodName)) (W := 0) (C := "java/lang/String") hown (hw _ (own_mt 48 rfl)) (hw _ (own_mt 49 rfl)) (hw _ (own_mt 51 rfl)) (hw _ (own_mt 50 rfl)) (hw _ (own_mt 12 rfl)) (hw _ (own_mt 52 rfl)) (by decide) (rm_Ql1 l Z a0 hw o ar cs sf iso u8 h0 n0 Z0 Od SS Es Fc Fv) (by decide) (by decide) e0 Es (g := (mkF m 1 #[vR o, vI (1 : Int32)] [(.ref o)])) rfl (by rw [hml]; rfl) (argsL := []) (rest := []) rfl (lenOf pd___Z rfl) rfl own_w0 (hb hby d17_1) (by decide) (by decide)
  obtain ⟨rfl, N1q, e1⟩ := hQ1
  have N1 := Fr.app N0 N1q
  refine own_vF m T1 4 #[vR o, vI (1 : Int32)] [(.int 1)] (fun t k => st1 t k) ?_
  refine own_vF m T1 7 #[vR o, vI (1 : Int32)] [] (fun t k => XS.ifNo X1.here hx rfl (hb hby d17_4) rfl ((if0 _ _).trans (feq (by decide : ¬ ((1 : Int32) = (0 : Int32)))).1) k) ?_
  refine own_vF m T1 8 #[vR o, vI (1 : Int32)] [(.ref o)] (fun t k => XS.aloadN X1.here hx rfl (hb hby d17_7) rfl rfl k) ?_
  obtain ⟨T2, X2, e2, st2⟩ := getF (host := "") X1 hx hZ hown (Or.inl (hw _ (own_mt 36 rfl))) Via.refl e1 Fv (g := (mkF m 8 #[vR o, vI (1 : Int32)] [(.ref o)])) rfl rfl (hb hby d17_8)
  refine own_vF m T2 11 #[vR o, vI (1 : Int32)] [(.ref ar)] (fun t k => st2 t k) ?_
  refine own_vF m T2 12 #[vR o, vI (1 : Int32)] [(.int 1), (.ref ar)] (fun t k => XS.iloadN X2.here hx rfl (hb hby d17_11) rfl k) ?_
  obtain ⟨_, T3, L3, X3, hQ3, st3⟩ := own_callS X2 hx hZ (y := (⟨"java/lang/StringLatin1", "charAt", "([BI)C"⟩ : MethodName)) (W := 0) hown (hw _ (own_mt 137 rfl)) (hw _ (own_mt 138 rfl)) (hw _ (own_mt 66 rfl)) (hw _ (own_mt 139 rfl)) (by decide) (rm_Qlc21 l Z a0 hw ar kk v1 v2 cs sf iso u8 h0 n0 Z0 Od SS Va) (by decide) (by decide) e2 (g := (mkF m 12 #[vR o, vI (1 : Int32)] [(.int 1), (.ref ar)])) rfl (by rw [hml]; rfl) (argsL := [(.ref ar), (.int 1)]) (rest := []) rfl (lenOf pd_ABI__C rfl) rfl own_w0 (hb hby d17_12) (by decide) (by decide)
  obtain ⟨rfl, N3q, e3⟩ := hQ3
  have N3 := Fr.app N1 N3q
  refine own_vF m T3 15 #[vR o, vI (1 : Int32)] [(.int ((v2 &&& (255 : Int32)).toUInt32.toUInt16.toUInt32.toInt32))] (fun t k => st3 t k) ?_
  exact own_ret X3 (v := some (.int (nar .char ((v2 &&& (255 : Int32)).toUInt32.toUInt16.toUInt32.toInt32)))) (fun h => by rw [hret] at h; cases h) hlk (fun fs hr => retN X3 hx (t := .char) hret (by simp) (hb hby d17_15) hr) (by rw [e3]; exact ⟨by rw [own_narc], N3, rfl⟩) (by decide) (by decide)
def Qlc30 (Z : State) (ar : Addr) (kk : ClassId) (v1 v2 v3 : Int32) (cs : Int32) (sf : Value) (iso u8 : Addr) (h0 : Heap) (n0 : Nat) (v : Option Value) (h : Heap) (L : List Loc) : Prop := v = some (.int ((v1 &&& (255 : Int32)).toUInt32.toUInt16.toUInt32.toInt32)) ∧ Fr n0 L ∧ h = h0
set_option maxRecDepth 65536 in
set_option maxHeartbeats 40000000 in
theorem rm_Qlc30 (l : Launch) (Z : State) (a0 : Array Value) (hw : ∀ d ∈ tables_1, d.before a0 Z = true) (ar : Addr) (kk : ClassId) (v1 v2 v3 : Int32) (cs : Int32) (sf : Value) (iso u8 : Addr) (h0 : Heap) (n0 : Nat) (Z0 : n0 ≤ h0.size) (Od : Old Z n0 h0) (SS : own_SS Z cs sf iso u8) (Va : Arv Z h0 ar kk .byte (3 : Int32) [(.int v1), (.int v2), (.int v3)] (.int 0)) :
    own_MG l Z ((⟨"java/lang/StringLatin1", "charAt", "([BI)C"⟩ : MethodName)) jdk_43_method_2_code 2 (some .char) ({ frames := 2, cells := 0, slots := 0, locals := 27 } : Room) #[(.ref ar), (.int 0)] h0 (Qlc30 Z ar kk v1 v2 v3 cs sf iso u8 h0 n0) := by
  refine own_mkG (plainFor_of_name pn_java_lang_StringLatin1) ?_
  intro p e s m below meth c s₁ X0 hx hby hml hown hnm hret hlk hZ e0
  have N0 := Fr.nil n0
  rw [ef_RI2 m ar (0 : Int32)]
  refine own_vF m s₁ 1 #[vR ar, vI (0 : Int32)] [(.int 0)] (fun t k => XS.iloadN X0.here hx rfl (hb hby d16_0) rfl k) ?_
  refine own_vF m s₁ 2 #[vR ar, vI (0 : Int32)] [(.ref ar), (.int 0)] (fun t k => XS.aloadN X0.here hx rfl (hb hby d16_1) rfl rfl k) ?_
  obtain ⟨c1, Ar1, q1a, q1b, q1c, q1d, q1e⟩ := id Va
  refine own_vF m s₁ 3 #[vR ar, vI (0 : Int32)] [(.int 3), (.int 0)] (fun t k => (fun t k => X0.arraylength hx (by rw [e0]; exact Ar1.1) (State.isArrayOf_alike hZ.alike Ar1.2.1) (g := (mkF m 2 #[vR ar, vI (0 : Int32)] [(.ref ar), (.int 0)])) rfl rfl (hb hby d16_2) t (by rw [len_of q1b q1c]; exact k)) t k) ?_
  obtain ⟨_, T2, L2, X2, hQ2, st2⟩ := own_callS X0 hx hZ (y := (⟨"java/lang/String", "checkIndex", "(II)V"⟩ : MethodName)) (W := 0) hown (hw _ (own_mt 140 rfl)) (hw _ (own_mt 141 rfl)) (hw _ (own_mt 12 rfl)) (hw _ (own_mt 142 rfl)) (by decide) (rm_Qsc l Z a0 hw (0 : Int32) (3 : Int32) cs sf iso u8 h0 n0 Z0 Od SS (by decide) (by decide)) (by decide) (by decide) e0 (g := (mkF m 3 #[vR ar, vI (0 : Int32)] [(.int 3), (.int 0)])) rfl (by rw [hml]; rfl) (argsL := [(.int 0), (.int 3)]) (rest := []) rfl (lenOf pd_II__V rfl) rfl own_w0 (hb hby d16_3) (by decide) (by decide)
  obtain ⟨rfl, N2q, e2⟩ := hQ2
  have N2 := Fr.app N0 N2q
  refine own_vF m T2 6 #[vR ar, vI (0 : Int32)] [] (fun t k => st2 t k) ?_
  refine own_vF m T2 7 #[vR ar, vI (0 : Int32)] [(.ref ar)] (fun t k => XS.aloadN X2.here hx rfl (hb hby d16_6) rfl rfl k) ?_
  refine own_vF m T2 8 #[vR ar, vI (0 : Int32)] [(.int 0), (.ref ar)] (fun t k => XS.iloadN X2.here hx rfl (hb hby d16_7) rfl k) ?_
  obtain ⟨c3, Ar3, q3a, q3b, q3c, q3d, q3e⟩ := id Va
  refine own_vF m T2 9 #[vR ar, vI (0 : Int32)] [(.int v1)] (fun t k => X2.baloadBytes hx (j := (0 : Int32)) (v := (.int v1)) (by rw [e2]; exact Ar3.1) (State.isArrayOf_alike hZ.alike Ar3.2.1) Ar3.2.2 (inb_of q3b (by decide)) (q3d.at (inb_of q3b (by decide)) rfl) (g := (mkF m 8 #[vR ar, vI (0 : Int32)] [(.int 0), (.ref ar)])) rfl rfl (hb hby d16_8) _ k) ?_
  refine own_vF m T2 12 #[vR ar, vI (0 : Int32)] [(.int 255), (.int v1)] (fun t k => XS.sipush X2.here hx rfl (hb hby d16_9) k) ?_
  refine own_vF m T2 13 #[vR ar, vI (0 : Int32)] [(.int (v1 &&& (255 : Int32)))] (fun t k => XS.iand X2.here hx rfl (hb hby d16_12) rfl k) ?_
  refine own_vF m T2 14 #[vR ar, vI (0 : Int32)] [(.int ((v1 &&& (255 : Int32)).toUInt32.toUInt16.toUInt32.toInt32))] (fun t k => XS.i2c X2.here hx rfl (hb hby d16_13) rfl k) ?_
  exact own_ret X2 (v := some (.int (nar .char ((v1 &&& (255 : Int32)).toUInt32.toUInt16.toUInt32.toInt32)))) (fun h => by rw [hret] at h; cases h) hlk (fun fs hr => retN X2 hx (t := .char) hret (by simp) (hb hby d16_14) hr) (by rw [e2]; exact ⟨by rw [own_narc], N2, rfl⟩) (by decide) (by decide)
def Qca30 (Z : State) (o ar : Addr) (kk : ClassId) (v1 v2 v3 : Int32) (cs : Int32) (sf : Value) (iso u8 : Addr) (h0 : Heap) (n0 : Nat) (v : Option Value) (h : Heap) (L : List Loc) : Prop := v = some (.int ((v1 &&& (255 : Int32)).toUInt32.toUInt16.toUInt32.toInt32)) ∧ Fr n0 L ∧ h = h0
set_option maxRecDepth 65536 in
set_option maxHeartbeats 40000000 in
theorem rm_Qca30 (l : Launch) (Z : State) (a0 : Array Value) (hw : ∀ d ∈ tables_1, d.before a0 Z = true) (o ar : Addr) (kk : ClassId) (v1 v2 v3 : Int32) (cs : Int32) (sf : Value) (iso u8 : Addr) (h0 : Heap) (n0 : Nat) (Z0 : n0 ≤ h0.size) (Od : Old Z n0 h0) (SS : own_SS Z cs sf iso u8) (Es : Exa Z h0 o "java/lang/String") (Fc : Fld Z h0 o "java/lang/String" "coder" "B" (.int 0)) (Fv : Fld Z h0 o "java/lang/String" "value" "[B" (.ref ar)) (Va : Arv Z h0 ar kk .byte (3 : Int32) [(.int v1), (.int v2), (.int v3)] (.int 0)) :
    own_MG l Z ((⟨"java/lang/String", "charAt", "(I)C"⟩ : MethodName)) jdk_42_method_56_code 2 (some .char) ({ frames := 3, cells := 0, slots := 0, locals := 40 } : Room) #[(.ref o), (.int 0)] h0 (Qca30 Z o ar kk v1 v2 v3 cs sf iso u8 h0 n0) := by
  refine own_mkG (plainFor_of_name pn_java_lang_String) ?_
  intro p e s m below meth c s₁ X0 hx hby hml hown hnm hret hlk hZ e0
  have N0 := Fr.nil n0
  rw [ef_RI2 m o (0 : Int32)]
  refine own_vF m s₁ 1 #[vR o, vI (0 : Int32)] [(.ref o)] (fun t k => XS.aloadN X0.here hx rfl (hb hby d17_0) rfl rfl k) ?_
  obtain ⟨_, T1, L1, X1, hQ1, st1⟩ := own_callV X0 hx hZ (y := (⟨"java/lang/String", "isLatin1", "()Z"⟩ : MethodName)) (W := 0) (C := "java/lang/String") hown (hw _ (own_mt 48 rfl)) (hw _ (own_mt 49 rfl)) (hw _ (own_mt 51 rfl)) (hw _ (own_mt 50 rfl)) (hw _ (own_mt 12 rfl)) (hw _ (own_mt 52 rfl)) (by decide) (rm_Ql1 l Z a0 hw o ar cs sf iso u8 h0 n0 Z0 Od SS Es Fc Fv) (by decide) (by decide) e0 Es (g := (mkF m 1 #[vR o, vI (0 : Int32)] [(.ref o)])) rfl (by rw [hml]; rfl) (argsL := []) (rest := []) rfl (lenOf pd___Z rfl) rfl own_w0 (hb hby d17_1) (by decide) (by decide)
  obtain ⟨rfl, N1q, e1⟩ := hQ1
  have N1 := Fr.app N0 N1q
  refine own_vF m T1 4 #[vR o, vI (0 : Int32)] [(.int 1)] (fun t k => st1 t k) ?_
  refine own_vF m T1 7 #[vR o, vI (0 : Int32)] [] (fun t k => XS.ifNo X1.here hx rfl (hb hby d17_4) rfl ((if0 _ _).trans (feq (by decide : ¬ ((1 : Int32) = (0 : Int32)))).1) k) ?_
  refine own_vF m T1 8 #[vR o, vI (0 : Int32)] [(.ref o)] (fun t k => XS.aloadN X1.here hx rfl (hb hby d17_7) rfl rfl k) ?_
  obtain ⟨T2, X2, e2, st2⟩ := getF (host := "") X1 hx hZ hown (Or.inl (hw _ (own_mt 36 rfl))) Via.refl e1 Fv (g := (mkF m 8 #[vR o, vI (0 : Int32)] [(.ref o)])) rfl rfl (hb hby d17_8)
  refine own_vF m T2 11 #[vR o, vI (0 : Int32)] [(.ref ar)] (fun t k => st2 t k) ?_
  refine own_vF m T2 12 #[vR o, vI (0 : Int32)] [(.int 0), (.ref ar)] (fun t k => XS.iloadN X2.here hx rfl (hb hby d17_11) rfl k) ?_
  obtain ⟨_, T3, L3, X3, hQ3, st3⟩ := own_callS X2 hx hZ (y := (⟨"java/lang/StringLatin1", "charAt", "([BI)C"⟩ : MethodName)) (W := 0) hown (hw _ (own_mt 137 rfl)) (hw _ (own_mt 138 rfl)) (hw _ (own_mt 66 rfl)) (hw _ (own_mt 139 rfl)) (by decide) (rm_Qlc30 l Z a0 hw ar kk v1 v2 v3 cs sf iso u8 h0 n0 Z0 Od SS Va) (by decide) (by decide) e2 (g := (mkF m 12 #[vR o, vI (0 : Int32)] [(.int 0), (.ref ar)])) rfl (by rw [hml]; rfl) (argsL := [(.ref ar), (.int 0)]) (rest := []) rfl (lenOf pd_ABI__C rfl) rfl own_w0 (hb hby d17_12) (by decide) (by decide)
  obtain ⟨rfl, N3q, e3⟩ := hQ3
  have N3 := Fr.app N1 N3q
  refine own_vF m T3 15 #[vR o, vI (0 : Int32)] [(.int ((v1 &&& (255 : Int32)).toUInt32.toUInt16.toUInt32.toInt32))] (fun t k => st3 t k) ?_
  exact own_ret X3 (v := some (.int (nar .char ((v1 &&& (255 : Int32)).toUInt32.toUInt16.toUInt32.toInt32)))) (fun h => by rw [hret] at h; cases h) hlk (fun fs hr => retN X3 hx (t := .char) hret (by simp) (hb hby d17_15) hr) (by rw [e3]; exact ⟨by rw [own_narc], N3, rfl⟩) (by decide) (by decide)
def Qlc31 (Z : State) (ar : Addr) (kk : ClassId) (v1 v2 v3 : Int32) (cs : Int32) (sf : Value) (iso u8 : Addr) (h0 : Heap) (n0 : Nat) (v : Option Value) (h : Heap) (L : List Loc) : Prop := v = some (.int ((v2 &&& (255 : Int32)).toUInt32.toUInt16.toUInt32.toInt32)) ∧ Fr n0 L ∧ h = h0
set_option maxRecDepth 65536 in
set_option maxHeartbeats 40000000 in
theorem rm_Qlc31 (l : Launch) (Z : State) (a0 : Array Value) (hw : ∀ d ∈ tables_1, d.before a0 Z = true) (ar : Addr) (kk : ClassId) (v1 v2 v3 : Int32) (cs : Int32) (sf : Value) (iso u8 : Addr) (h0 : Heap) (n0 : Nat) (Z0 : n0 ≤ h0.size) (Od : Old Z n0 h0) (SS : own_SS Z cs sf iso u8) (Va : Arv Z h0 ar kk .byte (3 : Int32) [(.int v1), (.int v2), (.int v3)] (.int 0)) :
    own_MG l Z ((⟨"java/lang/StringLatin1", "charAt", "([BI)C"⟩ : MethodName)) jdk_43_method_2_code 2 (some .char) ({ frames := 2, cells := 0, slots := 0, locals := 27 } : Room) #[(.ref ar), (.int 1)] h0 (Qlc31 Z ar kk v1 v2 v3 cs sf iso u8 h0 n0) := by
  refine own_mkG (plainFor_of_name pn_java_lang_StringLatin1) ?_
  intro p e s m below meth c s₁ X0 hx hby hml hown hnm hret hlk hZ e0
  have N0 := Fr.nil n0
  rw [ef_RI2 m ar (1 : Int32)]
  refine own_vF m s₁ 1 #[vR ar, vI (1 : Int32)] [(.int 1)] (fun t k => XS.iloadN X0.here hx rfl (hb hby d16_0) rfl k) ?_
  refine own_vF m s₁ 2 #[vR ar, vI (1 : Int32)] [(.ref ar), (.int 1)] (fun t k => XS.aloadN X0.here hx rfl (hb hby d16_1) rfl rfl k) ?_
  obtain ⟨c1, Ar1, q1a, q1b, q1c, q1d, q1e⟩ := id Va
  refine own_vF m s₁ 3 #[vR ar, vI (1 : Int32)] [(.int 3), (.int 1)] (fun t k => (fun t k => X0.arraylength hx (by rw [e0]; exact Ar1.1) (State.isArrayOf_alike hZ.alike Ar1.2.1) (g := (mkF m 2 #[vR ar, vI (1 : Int32)] [(.ref ar), (.int 1)])) rfl rfl (hb hby d16_2) t (by rw [len_of q1b q1c]; exact k)) t k) ?_
  obtain ⟨_, T2, L2, X2, hQ2, st2⟩ := own_callS X0 hx hZ (y := (⟨"java/lang/String", "checkIndex", "(II)V"⟩ : MethodName)) (W := 0) hown (hw _ (own_mt 140 rfl)) (hw _ (own_mt 141 rfl)) (hw _ (own_mt 12 rfl)) (hw _ (own_mt 142 rfl)) (by decide) (rm_Qsc l Z a0 hw (1 : Int32) (3 : Int32) cs sf iso u8 h0 n0 Z0 Od SS (by decide) (by decide)) (by decide) (by decide) e0 (g := (mkF m 3 #[vR ar, vI (1 : Int32)] [(.int 3), (.int 1)])) rfl (by rw [hml]; rfl) (argsL := [(.int 1), (.int 3)]) (rest := []) rfl (lenOf pd_II__V rfl) rfl own_w0 (hb hby d16_3) (by decide) (by decide)
  obtain ⟨rfl, N2q, e2⟩ := hQ2
  have N2 := Fr.app N0 N2q
  refine own_vF m T2 6 #[vR ar, vI (1 : Int32)] [] (fun t k => st2 t k) ?_
  refine own_vF m T2 7 #[vR ar, vI (1 : Int32)] [(.ref ar)] (fun t k => XS.aloadN X2.here hx rfl (hb hby d16_6) rfl rfl k) ?_
  refine own_vF m T2 8 #[vR ar, vI (1 : Int32)] [(.int 1), (.ref ar)] (fun t k => XS.iloadN X2.here hx rfl (hb hby d16_7) rfl k) ?_
  obtain ⟨c3, Ar3, q3a, q3b, q3c, q3d, q3e⟩ := id Va
  refine own_vF m T2 9 #[vR ar, vI (1 : Int32)] [(.int v2)] (fun t k => X2.baloadBytes hx (j := (1 : Int32)) (v := (.int v2)) (by rw [e2]; exact Ar3.1) (State.isArrayOf_alike hZ.alike Ar3.2.1) Ar3.2.2 (inb_of q3b (by decide)) (q3d.at (inb_of q3b (by decide)) rfl) (g := (mkF m 8 #[vR ar, vI (1 : Int32)] [(.int 1), (.ref ar)])) rfl rfl (hb hby d16_8) _ k) ?_
  refine own_vF m T2 12 #[vR ar, vI (1 : Int32)] [(.int 255), (.int v2)] (fun t k => XS.sipush X2.here hx rfl (hb hby d16_9) k) ?_
  refine own_vF m T2 13 #[vR ar, vI (1 : Int32)] [(.int (v2 &&& (255 : Int32)))] (fun t k => XS.iand X2.here hx rfl (hb hby d16_12) rfl k) ?_
  refine own_vF m T2 14 #[vR ar, vI (1 : Int32)] [(.int ((v2 &&& (255 : Int32)).toUInt32.toUInt16.toUInt32.toInt32))] (fun t k => XS.i2c X2.here hx rfl (hb hby d16_13) rfl k) ?_
  exact own_ret X2 (v := some (.int (nar .char ((v2 &&& (255 : Int32)).toUInt32.toUInt16.toUInt32.toInt32)))) (fun h => by rw [hret] at h; cases h) hlk (fun fs hr => retN X2 hx (t := .char) hret (by simp) (hb hby d16_14) hr) (by rw [e2]; exact ⟨by rw [own_narc], N2, rfl⟩) (by decide) (by decide)
def Qca31 (Z : State) (o ar : Addr) (kk : ClassId) (v1 v2 v3 : Int32) (cs : Int32) (sf : Value) (iso u8 : Addr) (h0 : Heap) (n0 : Nat) (v : Option Value) (h : Heap) (L : List Loc) : Prop := v = some (.int ((v2 &&& (255 : Int32)).toUInt32.toUInt16.toUInt32.toInt32)) ∧ Fr n0 L ∧ h = h0
set_option maxRecDepth 65536 in
set_option maxHeartbeats 40000000 in
theorem rm_Qca31 (l : Launch) (Z : State) (a0 : Array Value) (hw : ∀ d ∈ tables_1, d.before a0 Z = true) (o ar : Addr) (kk : ClassId) (v1 v2 v3 : Int32) (cs : Int32) (sf : Value) (iso u8 : Addr) (h0 : Heap) (n0 : Nat) (Z0 : n0 ≤ h0.size) (Od : Old Z n0 h0) (SS : own_SS Z cs sf iso u8) (Es : Exa Z h0 o "java/lang/String") (Fc : Fld Z h0 o "java/lang/String" "coder" "B" (.int 0)) (Fv : Fld Z h0 o "java/lang/String" "value" "[B" (.ref ar)) (Va : Arv Z h0 ar kk .byte (3 : Int32) [(.int v1), (.int v2), (.int v3)] (.int 0)) :
    own_MG l Z ((⟨"java/lang/String", "charAt", "(I)C"⟩ : MethodName)) jdk_42_method_56_code 2 (some .char) ({ frames := 3, cells := 0, slots := 0, locals := 40 } : Room) #[(.ref o), (.int 1)] h0 (Qca31 Z o ar kk v1 v2 v3 cs sf iso u8 h0 n0) := by
  refine own_mkG (plainFor_of_name pn_java_lang_String) ?_
  intro p e s m below meth c s₁ X0 hx hby hml hown hnm hret hlk hZ e0
  have N0 := Fr.nil n0
  rw [ef_RI2 m o (1 : Int32)]
  refine own_vF m s₁ 1 #[vR o, vI (1 : Int32)] [(.ref o)] (fun t k => XS.aloadN X0.here hx rfl (hb hby d17_0) rfl rfl k) ?_
  obtain ⟨_, T1, L1, X1, hQ1, st1⟩ := own_callV X0 hx hZ (y := (⟨"java/lang/String", "isLatin1", "()Z"⟩ : MethodName)) (W := 0) (C := "java/lang/String") hown (hw _ (own_mt 48 rfl)) (hw _ (own_mt 49 rfl)) (hw _ (own_mt 51 rfl)) (hw _ (own_mt 50 rfl)) (hw _ (own_mt 12 rfl)) (hw _ (own_mt 52 rfl)) (by decide) (rm_Ql1 l Z a0 hw o ar cs sf iso u8 h0 n0 Z0 Od SS Es Fc Fv) (by decide) (by decide) e0 Es (g := (mkF m 1 #[vR o, vI (1 : Int32)] [(.ref o)])) rfl (by rw [hml]; rfl) (argsL := []) (rest := []) rfl (lenOf pd___Z rfl) rfl own_w0 (hb hby d17_1) (by decide) (by decide)
  obtain ⟨rfl, N1q, e1⟩ := hQ1
  have N1 := Fr.app N0 N1q
  refine own_vF m T1 4 #[vR o, vI (1 : Int32)] [(.int 1)] (fun t k => st1 t k) ?_
  refine own_vF m T1 7 #[vR o, vI (1 : Int32)] [] (fun t k => XS.ifNo X1.here hx rfl (hb hby d17_4) rfl ((if0 _ _).trans (feq (by decide : ¬ ((1 : Int32) = (0 : Int32)))).1) k) ?_
  refine own_vF m T1 8 #[vR o, vI (1 : Int32)] [(.ref o)] (fun t k => XS.aloadN X1.here hx rfl (hb hby d17_7) rfl rfl k) ?_
  obtain ⟨T2, X2, e2, st2⟩ := getF (host := "") X1 hx hZ hown (Or.inl (hw _ (own_mt 36 rfl))) Via.refl e1 Fv (g := (mkF m 8 #[vR o, vI (1 : Int32)] [(.ref o)])) rfl rfl (hb hby d17_8)
  refine own_vF m T2 11 #[vR o, vI (1 : Int32)] [(.ref ar)] (fun t k => st2 t k) ?_
  refine own_vF m T2 12 #[vR o, vI (1 : Int32)] [(.int 1), (.ref ar)] (fun t k => XS.iloadN X2.here hx rfl (hb hby d17_11) rfl k) ?_
  obtain ⟨_, T3, L3, X3, hQ3, st3⟩ := own_callS X2 hx hZ (y := (⟨"java/lang/StringLatin1", "charAt", "([BI)C"⟩ : MethodName)) (W := 0) hown (hw _ (own_mt 137 rfl)) (hw _ (own_mt 138 rfl)) (hw _ (own_mt 66 rfl)) (hw _ (own_mt 139 rfl)) (by decide) (rm_Qlc31 l Z a0 hw ar kk v1 v2 v3 cs sf iso u8 h0 n0 Z0 Od SS Va) (by decide) (by decide) e2 (g := (mkF m 12 #[vR o, vI (1 : Int32)] [(.int 1), (.ref ar)])) rfl (by rw [hml]; rfl) (argsL := [(.ref ar), (.int 1)]) (rest := []) rfl (lenOf pd_ABI__C rfl) rfl own_w0 (hb hby d17_12) (by decide) (by decide)
  obtain ⟨rfl, N3q, e3⟩ := hQ3
  have N3 := Fr.app N1 N3q
  refine own_vF m T3 15 #[vR o, vI (1 : Int32)] [(.int ((v2 &&& (255 : Int32)).toUInt32.toUInt16.toUInt32.toInt32))] (fun t k => st3 t k) ?_
  exact own_ret X3 (v := some (.int (nar .char ((v2 &&& (255 : Int32)).toUInt32.toUInt16.toUInt32.toInt32)))) (fun h => by rw [hret] at h; cases h) hlk (fun fs hr => retN X3 hx (t := .char) hret (by simp) (hb hby d17_15) hr) (by rw [e3]; exact ⟨by rw [own_narc], N3, rfl⟩) (by decide) (by decide)
def Qlc32 (Z : State) (ar : Addr) (kk : ClassId) (v1 v2 v3 : Int32) (cs : Int32) (sf : Value) (iso u8 : Addr) (h0 : Heap) (n0 : Nat) (v : Option Value) (h : Heap) (L : List Loc) : Prop := v = some (.int ((v3 &&& (255 : Int32)).toUInt32.toUInt16.toUInt32.toInt32)) ∧ Fr n0 L ∧ h = h0
set_option maxRecDepth 65536 in
set_option maxHeartbeats 40000000 in
theorem rm_Qlc32 (l : Launch) (Z : State) (a0 : Array Value) (hw : ∀ d ∈ tables_1, d.before a0 Z = true) (ar : Addr) (kk : ClassId) (v1 v2 v3 : Int32) (cs : Int32) (sf : Value) (iso u8 : Addr) (h0 : Heap) (n0 : Nat) (Z0 : n0 ≤ h0.size) (Od : Old Z n0 h0) (SS : own_SS Z cs sf iso u8) (Va : Arv Z h0 ar kk .byte (3 : Int32) [(.int v1), (.int v2), (.int v3)] (.int 0)) :
    own_MG l Z ((⟨"java/lang/StringLatin1", "charAt", "([BI)C"⟩ : MethodName)) jdk_43_method_2_code 2 (some .char) ({ frames := 2, cells := 0, slots := 0, locals := 27 } : Room) #[(.ref ar), (.int 2)] h0 (Qlc32 Z ar kk v1 v2 v3 cs sf iso u8 h0 n0) := by
  refine own_mkG (plainFor_of_name pn_java_lang_StringLatin1) ?_
  intro p e s m below meth c s₁ X0 hx hby hml hown hnm hret hlk hZ e0
  have N0 := Fr.nil n0
  rw [ef_RI2 m ar (2 : Int32)]
  refine own_vF m s₁ 1 #[vR ar, vI (2 : Int32)] [(.int 2)] (fun t k => XS.iloadN X0.here hx rfl (hb hby d16_0) rfl k) ?_
  refine own_vF m s₁ 2 #[vR ar, vI (2 : Int32)] [(.ref ar), (.int 2)] (fun t k => XS.aloadN X0.here hx rfl (hb hby d16_1) rfl rfl k) ?_
  obtain ⟨c1, Ar1, q1a, q1b, q1c, q1d, q1e⟩ := id Va
  refine own_vF m s₁ 3 #[vR ar, vI (2 : Int32)] [(.int 3), (.int 2)] (fun t k => (fun t k => X0.arraylength hx (by rw [e0]; exact Ar1.1) (State.isArrayOf_alike hZ.alike Ar1.2.1) (g := (mkF m 2 #[vR ar, vI (2 : Int32)] [(.ref ar), (.int 2)])) rfl rfl (hb hby d16_2) t (by rw [len_of q1b q1c]; exact k)) t k) ?_
  obtain ⟨_, T2, L2, X2, hQ2, st2⟩ := own_callS X0 hx hZ (y := (⟨"java/lang/String", "checkIndex", "(II)V"⟩ : MethodName)) (W := 0) hown (hw _ (own_mt 140 rfl)) (hw _ (own_mt 141 rfl)) (hw _ (own_mt 12 rfl)) (hw _ (own_mt 142 rfl)) (by decide) (rm_Qsc l Z a0 hw (2 : Int32) (3 : Int32) cs sf iso u8 h0 n0 Z0 Od SS (by decide) (by decide)) (by decide) (by decide) e0 (g := (mkF m 3 #[vR ar, vI (2 : Int32)] [(.int 3), (.int 2)])) rfl (by rw [hml]; rfl) (argsL := [(.int 2), (.int 3)]) (rest := []) rfl (lenOf pd_II__V rfl) rfl own_w0 (hb hby d16_3) (by decide) (by decide)
  obtain ⟨rfl, N2q, e2⟩ := hQ2
  have N2 := Fr.app N0 N2q
  refine own_vF m T2 6 #[vR ar, vI (2 : Int32)] [] (fun t k => st2 t k) ?_
  refine own_vF m T2 7 #[vR ar, vI (2 : Int32)] [(.ref ar)] (fun t k => XS.aloadN X2.here hx rfl (hb hby d16_6) rfl rfl k) ?_
  refine own_vF m T2 8 #[vR ar, vI (2 : Int32)] [(.int 2), (.ref ar)] (fun t k => XS.iloadN X2.here hx rfl (hb hby d16_7) rfl k) ?_
  obtain ⟨c3, Ar3, q3a, q3b, q3c, q3d, q3e⟩ := id Va
  refine own_vF m T2 9 #[vR ar, vI (2 : Int32)] [(.int v3)] (fun t k => X2.baloadBytes hx (j := (2 : Int32)) (v := (.int v3)) (by rw [e2]; exact Ar3.1) (State.isArrayOf_alike hZ.alike Ar3.2.1) Ar3.2.2 (inb_of q3b (by decide)) (q3d.at (inb_of q3b (by decide)) rfl) (g := (mkF m 8 #[vR ar, vI (2 : Int32)] [(.int 2), (.ref ar)])) rfl rfl (hb hby d16_8) _ k) ?_
  refine own_vF m T2 12 #[vR ar, vI (2 : Int32)] [(.int 255), (.int v3)] (fun t k => XS.sipush X2.here hx rfl (hb hby d16_9) k) ?_
  refine own_vF m T2 13 #[vR ar, vI (2 : Int32)] [(.int (v3 &&& (255 : Int32)))] (fun t k => XS.iand X2.here hx rfl (hb hby d16_12) rfl k) ?_
  refine own_vF m T2 14 #[vR ar, vI (2 : Int32)] [(.int ((v3 &&& (255 : Int32)).toUInt32.toUInt16.toUInt32.toInt32))] (fun t k => XS.i2c X2.here hx rfl (hb hby d16_13) rfl k) ?_
  exact own_ret X2 (v := some (.int (nar .char ((v3 &&& (255 : Int32)).toUInt32.toUInt16.toUInt32.toInt32)))) (fun h => by rw [hret] at h; cases h) hlk (fun fs hr => retN X2 hx (t := .char) hret (by simp) (hb hby d16_14) hr) (by rw [e2]; exact ⟨by rw [own_narc], N2, rfl⟩) (by decide) (by decide)
def Qca32 (Z : State) (o ar : Addr) (kk : ClassId) (v1 v2 v3 : Int32) (cs : Int32) (sf : Value) (iso u8 : Addr) (h0 : Heap) (n0 : Nat) (v : Option Value) (h : Heap) (L : List Loc) : Prop := v = some (.int ((v3 &&& (255 : Int32)).toUInt32.toUInt16.toUInt32.toInt32)) ∧ Fr n0 L ∧ h = h0
set_option maxRecDepth 65536 in
set_option maxHeartbeats 40000000 in
theorem rm_Qca32 (l : Launch) (Z : State) (a0 : Array Value) (hw : ∀ d ∈ tables_1, d.before a0 Z = true) (o ar : Addr) (kk : ClassId) (v1 v2 v3 : Int32) (cs : Int32) (sf : Value) (iso u8 : Addr) (h0 : Heap) (n0 : Nat) (Z0 : n0 ≤ h0.size) (Od : Old Z n0 h0) (SS : own_SS Z cs sf iso u8) (Es : Exa Z h0 o "java/lang/String") (Fc : Fld Z h0 o "java/lang/String" "coder" "B" (.int 0)) (Fv : Fld Z h0 o "java/lang/String" "value" "[B" (.ref ar)) (Va : Arv Z h0 ar kk .byte (3 : Int32) [(.int v1), (.int v2), (.int v3)] (.int 0)) :
    own_MG l Z ((⟨"java/lang/String", "charAt", "(I)C"⟩ : MethodName)) jdk_42_method_56_code 2 (some .char) ({ frames := 3, cells := 0, slots := 0, locals := 40 } : Room) #[(.ref o), (.int 2)] h0 (Qca32 Z o ar kk v1 v2 v3 cs sf iso u8 h0 n0) := by
  refine own_mkG (plainFor_of_name pn_java_lang_String) ?_
  intro p e s m below meth c s₁ X0 hx hby hml hown hnm hret hlk hZ e0
  have N0 := Fr.nil n0
  rw [ef_RI2 m o (2 : Int32)]
  refine own_vF m s₁ 1 #[vR o, vI (2 : Int32)] [(.ref o)] (fun t k => XS.aloadN X0.here hx rfl (hb hby d17_0) rfl rfl k) ?_
  obtain ⟨_, T1, L1, X1, hQ1, st1⟩ := own_callV X0 hx hZ (y := (⟨"java/lang/String", "isLatin1", "()Z"⟩ : MethodName)) (W := 0) (C := "java/lang/String") hown (hw _ (own_mt 48 rfl)) (hw _ (own_mt 49 rfl)) (hw _ (own_mt 51 rfl)) (hw _ (own_mt 50 rfl)) (hw _ (own_mt 12 rfl)) (hw _ (own_mt 52 rfl)) (by decide) (rm_Ql1 l Z a0 hw o ar cs sf iso u8 h0 n0 Z0 Od SS Es Fc Fv) (by decide) (by decide) e0 Es (g := (mkF m 1 #[vR o, vI (2 : Int32)] [(.ref o)])) rfl (by rw [hml]; rfl) (argsL := []) (rest := []) rfl (lenOf pd___Z rfl) rfl own_w0 (hb hby d17_1) (by decide) (by decide)
  obtain ⟨rfl, N1q, e1⟩ := hQ1
  have N1 := Fr.app N0 N1q
  refine own_vF m T1 4 #[vR o, vI (2 : Int32)] [(.int 1)] (fun t k => st1 t k) ?_
  refine own_vF m T1 7 #[vR o, vI (2 : Int32)] [] (fun t k => XS.ifNo X1.here hx rfl (hb hby d17_4) rfl ((if0 _ _).trans (feq (by decide : ¬ ((1 : Int32) = (0 : Int32)))).1) k) ?_
  refine own_vF m T1 8 #[vR o, vI (2 : Int32)] [(.ref o)] (fun t k => XS.aloadN X1.here hx rfl (hb hby d17_7) rfl rfl k) ?_
  obtain ⟨T2, X2, e2, st2⟩ := getF (host := "") X1 hx hZ hown (Or.inl (hw _ (own_mt 36 rfl))) Via.refl e1 Fv (g := (mkF m 8 #[vR o, vI (2 : Int32)] [(.ref o)])) rfl rfl (hb hby d17_8)
  refine own_vF m T2 11 #[vR o, vI (2 : Int32)] [(.ref ar)] (fun t k => st2 t k) ?_
  refine own_vF m T2 12 #[vR o, vI (2 : Int32)] [(.int 2), (.ref ar)] (fun t k => XS.iloadN X2.here hx rfl (hb hby d17_11) rfl k) ?_
  obtain ⟨_, T3, L3, X3, hQ3, st3⟩ := own_callS X2 hx hZ (y := (⟨"java/lang/StringLatin1", "charAt", "([BI)C"⟩ : MethodName)) (W := 0) hown (hw _ (own_mt 137 rfl)) (hw _ (own_mt 138 rfl)) (hw _ (own_mt 66 rfl)) (hw _ (own_mt 139 rfl)) (by decide) (rm_Qlc32 l Z a0 hw ar kk v1 v2 v3 cs sf iso u8 h0 n0 Z0 Od SS Va) (by decide) (by decide) e2 (g := (mkF m 12 #[vR o, vI (2 : Int32)] [(.int 2), (.ref ar)])) rfl (by rw [hml]; rfl) (argsL := [(.ref ar), (.int 2)]) (rest := []) rfl (lenOf pd_ABI__C rfl) rfl own_w0 (hb hby d17_12) (by decide) (by decide)
  obtain ⟨rfl, N3q, e3⟩ := hQ3
  have N3 := Fr.app N1 N3q
  refine own_vF m T3 15 #[vR o, vI (2 : Int32)] [(.int ((v3 &&& (255 : Int32)).toUInt32.toUInt16.toUInt32.toInt32))] (fun t k => st3 t k) ?_
  exact own_ret X3 (v := some (.int (nar .char ((v3 &&& (255 : Int32)).toUInt32.toUInt16.toUInt32.toInt32)))) (fun h => by rw [hret] at h; cases h) hlk (fun fs hr => retN X3 hx (t := .char) hret (by simp) (hb hby d17_15) hr) (by rw [e3]; exact ⟨by rw [own_narc], N3, rfl⟩) (by decide) (by decide)
def Qrn (Z : State) (o : Addr) (h0 : Heap) (n0 : Nat) (v : Option Value) (h : Heap) (L : List Loc) : Prop := v = some (.ref o) ∧ Fr n0 L ∧ h = h0
theorem d18_0 : decode jdk_31_method_10_code 0 = .ok (.aload_n 0, 1) := by decide +kernel
theorem d18_1 : decode jdk_31_method_10_code 1 = .ok (.ifnonnull 11, 3) := by decide +kernel
theorem d18_12 : decode jdk_31_method_10_code 12 = .ok (.aload_n 0, 1) := by decide +kernel
theorem d18_13 : decode jdk_31_method_10_code 13 = .ok (.areturn, 1) := by decide +kernel
theorem pn_java_util_Objects : plainName "java/util/Objects" = true := by first | (simp [plainName, overriddenIn]; done) | decide +kernel
set_option maxRecDepth 65536 in
set_option maxHeartbeats 40000000 in
theorem rm_Qrn (l : Launch) (Z : State) (a0 : Array Value) (hw : ∀ d ∈ tables_1, d.before a0 Z = true) (o : Addr) (h0 : Heap) (n0 : Nat) (Z0 : n0 ≤ h0.size) :
    own_MG l Z ((⟨"java/util/Objects", "requireNonNull", "(Ljava/lang/Object;)Ljava/lang/Object;"⟩ : MethodName)) jdk_31_method_10_code 1 (some (.object "java/lang/Object")) ({ frames := 0, cells := 0, slots := 0, locals := 0 } : Room) #[(.ref o)] h0 (Qrn Z o h0 n0) := by
  refine own_mkG (plainFor_of_name pn_java_util_Objects) ?_
  intro p e s m below meth c s₁ X0 hx hby hml hown hnm hret hlk hZ e0
  have N0 := Fr.nil n0
  rw [ef_R1 m o]
  refine own_vF m s₁ 1 #[vR o] [(.ref o)] (fun t k => XS.aloadN X0.here hx rfl (hb hby d18_0) rfl rfl k) ?_
  refine own_vF m s₁ 12 #[vR o] [] (fun t k => XS.ifnonnullYes X0.here hx rfl (pc0 := 1) (pc' := 12) rfl (hb hby d18_1) rfl (by decide) (by decide) k) ?_
  refine own_vF m s₁ 13 #[vR o] [(.ref o)] (fun t k => XS.aloadN X0.here hx rfl (hb hby d18_12) rfl rfl k) ?_
  exact own_ret X0 (v := some (.ref o)) (fun h => by rw [hret] at h; cases h) hlk (fun fs hr => retOut X0 hx (t := (.object "java/lang/Object")) hret rfl (Or.inr (Or.inr (Or.inr (Or.inr ⟨rfl, rfl, rfl⟩)))) (hb hby d18_13) hr) (by rw [e0]; exact ⟨rfl, N0, rfl⟩) (by decide) (by decide)
def Qcl (Z : State) (x1 : Int32) (h0 : Heap) (n0 : Nat) (v : Option Value) (h : Heap) (L : List Loc) : Prop := v = none ∧ Fr n0 L ∧ h = h0
theorem d19_0 : decode jdk_65_method_131_code 0 = .ok (.iload_n 1, 1) := by decide +kernel
theorem d19_1 : decode jdk_65_method_131_code 1 = .ok (.iload_n 0, 1) := by decide +kernel
theorem d19_2 : decode jdk_65_method_131_code 2 = .ok (.if_icmp .ge 35, 3) := by decide +kernel
theorem d19_37 : decode jdk_65_method_131_code 37 = .ok (.return_, 1) := by decide +kernel
theorem pn_java_util_Arrays : plainName "java/util/Arrays" = true := by first | (simp [plainName, overriddenIn]; done) | decide +kernel
set_option maxRecDepth 65536 in
set_option maxHeartbeats 40000000 in
theorem rm_Qcl (l : Launch) (Z : State) (a0 : Array Value) (hw : ∀ d ∈ tables_1, d.before a0 Z = true) (x1 : Int32) (h0 : Heap) (n0 : Nat) (Z0 : n0 ≤ h0.size) (q1 : ¬ x1 < (0 : Int32)) :
    own_MG l Z ((⟨"java/util/Arrays", "checkLength", "(II)V"⟩ : MethodName)) jdk_65_method_131_code 2 none ({ frames := 0, cells := 0, slots := 0, locals := 0 } : Room) #[(.int 0), (.int x1)] h0 (Qcl Z x1 h0 n0) := by
  refine own_mkG (plainFor_of_name pn_java_util_Arrays) ?_
  intro p e s m below meth c s₁ X0 hx hby hml hown hnm hret hlk hZ e0
  have N0 := Fr.nil n0
  rw [ef_II2 m (0 : Int32) x1]
  refine own_vF m s₁ 1 #[vI (0 : Int32), vI x1] [(.int x1)] (fun t k => XS.iloadN X0.here hx rfl (hb hby d19_0) rfl k) ?_
  refine own_vF m s₁ 2 #[vI (0 : Int32), vI x1] [(.int 0), (.int x1)] (fun t k => XS.iloadN X0.here hx rfl (hb hby d19_1) rfl k) ?_
  refine own_vF m s₁ 37 #[vI (0 : Int32), vI x1] [] (fun t k => XS.icmpYes X0.here hx rfl (pc0 := 2) (pc' := 37) rfl (hb hby d19_2) rfl (flt q1).2.1 (by decide) (by decide) k) ?_
  exact own_ret X0 (v := none) (fun _ => rfl) hlk (fun fs hr => X0.returnOut hx hret (hb hby d19_37) hr) (by rw [e0]; exact ⟨rfl, N0, rfl⟩) (by decide) (by decide)
def Qcr11 (Z : State) (ar : Addr) (kk : ClassId) (v1 : Int32) (h0 : Heap) (n0 : Nat) (v : Option Value) (h : Heap) (L : List Loc) : Prop := ∃ r kr, v = some (.ref r) ∧ Fr n0 L ∧ Keep h0 h [] ∧ Exa Z h r "[B" ∧ Arv Z h r kr .byte (1 : Int32) [.int v1] (.int 0)
theorem d20_0 : decode jdk_65_method_132_code 0 = .ok (.iload_n 1, 1) := by decide +kernel
theorem d20_1 : decode jdk_65_method_132_code 1 = .ok (.ifCond .ne 9, 3) := by decide +kernel
theorem d20_4 : decode jdk_65_method_132_code 4 = .ok (.iload_n 2, 1) := by decide +kernel
theorem d20_5 : decode jdk_65_method_132_code 5 = .ok (.aload_n 0, 1) := by decide +kernel
theorem d20_6 : decode jdk_65_method_132_code 6 = .ok (.arraylength, 1) := by decide +kernel
theorem d20_7 : decode jdk_65_method_132_code 7 = .ok (.if_icmp .eq 10, 3) := by decide +kernel
theorem d20_17 : decode jdk_65_method_132_code 17 = .ok (.aload_n 0, 1) := by decide +kernel
theorem d20_18 : decode jdk_65_method_132_code 18 = .ok (.invokevirtual 310, 3) := by decide +kernel
theorem d20_21 : decode jdk_65_method_132_code 21 = .ok (.checkcast 311, 3) := by decide +kernel
theorem d20_24 : decode jdk_65_method_132_code 24 = .ok (.areturn, 1) := by decide +kernel
set_option maxRecDepth 65536 in
set_option maxHeartbeats 40000000 in
theorem rm_Qcr11 (l : Launch) (Z : State) (a0 : Array Value) (hw : ∀ d ∈ tables_1, d.before a0 Z = true) (ar : Addr) (kk : ClassId) (v1 : Int32) (h0 : Heap) (n0 : Nat) (Z0 : n0 ≤ h0.size) (Ea : Exa Z h0 ar "[B") (Va : Arv Z h0 ar kk .byte (1 : Int32) [(.int v1)] (.int 0)) :
    own_MG l Z ((⟨"java/util/Arrays", "copyOfRange", "([BII)[B"⟩ : MethodName)) jdk_65_method_132_code 3 (some (.array .byte)) ({ frames := 1, cells := 1, slots := 1, locals := 14 } : Room) #[(.ref ar), (.int 0), (.int 1)] h0 (Qcr11 Z ar kk v1 h0 n0) := by
  refine own_mkG (plainFor_of_name pn_java_util_Arrays) ?_
  intro p e s m below meth c s₁ X0 hx hby hml hown hnm hret hlk hZ e0
  have N0 := Fr.nil n0
  have K0 := Keep.refl h0 []
  rw [ef_RII3 m ar (0 : Int32) (1 : Int32)]
  refine own_vF m s₁ 1 #[vR ar, vI (0 : Int32), vI (1 : Int32)] [(.int 0)] (fun t k => XS.iloadN X0.here hx rfl (hb hby d20_0) rfl k) ?_
  refine own_vF m s₁ 4 #[vR ar, vI (0 : Int32), vI (1 : Int32)] [] (fun t k => XS.ifNo X0.here hx rfl (hb hby d20_1) rfl ((if0 _ _).trans (teq (by decide : ((0 : Int32) = (0 : Int32)))).2) k) ?_
  refine own_vF m s₁ 5 #[vR ar, vI (0 : Int32), vI (1 : Int32)] [(.int 1)] (fun t k => XS.iloadN X0.here hx rfl (hb hby d20_4) rfl k) ?_
  refine own_vF m s₁ 6 #[vR ar, vI (0 : Int32), vI (1 : Int32)] [(.ref ar), (.int 1)] (fun t k => XS.aloadN X0.here hx rfl (hb hby d20_5) rfl rfl k) ?_
  obtain ⟨c1, Ar1, q1a, q1b, q1c, q1d, q1e⟩ := id Va
  refine own_vF m s₁ 7 #[vR ar, vI (0 : Int32), vI (1 : Int32)] [(.int 1), (.int 1)] (fun t k => (fun t k => X0.arraylength hx (by rw [e0]; exact Ar1.1) (State.isArrayOf_alike hZ.alike Ar1.2.1) (g := (mkF m 6 #[vR ar, vI (0 : Int32), vI (1 : Int32)] [(.ref ar), (.int 1)])) rfl rfl (hb hby d20_6) t (by rw [len_of q1b q1c]; exact k)) t k) ?_
  refine own_vF m s₁ 17 #[vR ar, vI (0 : Int32), vI (1 : Int32)] [] (fun t k => XS.icmpYes X0.here hx rfl (pc0 := 7) (pc' := 17) rfl (hb hby d20_7) rfl (teq (by decide : ((1 : Int32) = (1 : Int32)))).1 (by decide) (by decide) k) ?_
  refine own_vF m s₁ 18 #[vR ar, vI (0 : Int32), vI (1 : Int32)] [(.ref ar)] (fun t k => XS.aloadN X0.here hx rfl (hb hby d20_17) rfl rfl k) ?_
  obtain ⟨T2, h2, X2, e2, E2, V2, B2, st2⟩ := cloneH (hs := []) (vs := [(.int v1)]) (dv := (.int 0)) (z := (1 : Int32)) X0 hx hZ hown (hw _ (own_mt 101 rfl)) (hw _ (own_mt 102 rfl)) (hw _ (own_mt 106 rfl)) (hw _ (own_mt 104 rfl)) (hw _ (own_mt 105 rfl)) (hw _ (own_mt 107 rfl)) e0 Va Ea (g := (mkF m 18 #[vR ar, vI (0 : Int32), vI (1 : Int32)] [(.ref ar)])) rfl (by rw [hml]; rfl) rfl (hb hby d20_18) (by decide) (W := 0) (cap := 1) own_w0 (by decide) (by decide) (by decide) (by decide)
  obtain ⟨b2, g2⟩ : ∃ z, z = h0.size := ⟨_, rfl⟩
  rw [← g2] at V2 B2 st2
  have V2 : Arv Z h2 b2 kk .byte (1 : Int32) [(.int v1)] (.int 0) := V2
  have K6 := K0.ext E2
  refine own_vF m T2 21 #[vR ar, vI (0 : Int32), vI (1 : Int32)] [(.ref b2)] (fun t k => st2 t k) ?_
  obtain ⟨T7, X7, e7, st7⟩ := castY X2 hx hZ hown (hw _ (own_mt 108 rfl)) e2 (Ins.self B2) (g := (mkF m 21 #[vR ar, vI (0 : Int32), vI (1 : Int32)] [(.ref b2)])) rfl rfl (hb hby d20_21)
  refine own_vF m T7 24 #[vR ar, vI (0 : Int32), vI (1 : Int32)] [(.ref b2)] (fun t k => st7 t k) ?_
  exact own_ret X7 (v := some (.ref b2)) (fun h => by rw [hret] at h; cases h) hlk (fun fs hr => retOut X7 hx (t := (.array .byte)) hret rfl (Or.inr (Or.inr (Or.inr (Or.inr ⟨rfl, rfl, rfl⟩)))) (hb hby d20_24) hr) (by rw [e7]; exact ⟨b2, _, rfl, N0, K6, B2, V2⟩) (by decide) (by decide)
def Qcy21 (Z : State) (ar : Addr) (kk : ClassId) (v1 v2 : Int32) (h0 : Heap) (n0 : Nat) (v : Option Value) (h : Heap) (L : List Loc) : Prop := ∃ r kr, v = some (.ref r) ∧ Fr n0 L ∧ Keep h0 h [] ∧ Exa Z h r "[B" ∧ Arv Z h r kr .byte (1 : Int32) [.int v1] (.int 0)
theorem d21_0 : decode jdk_65_method_133_code 0 = .ok (.iload_n 1, 1) := by decide +kernel
theorem d21_1 : decode jdk_65_method_133_code 1 = .ok (.iload_n 2, 1) := by decide +kernel
theorem d21_2 : decode jdk_65_method_133_code 2 = .ok (.invokestatic 343, 3) := by decide +kernel
theorem d21_5 : decode jdk_65_method_133_code 5 = .ok (.iload_n 2, 1) := by decide +kernel
theorem d21_6 : decode jdk_65_method_133_code 6 = .ok (.iload_n 1, 1) := by decide +kernel
theorem d21_7 : decode jdk_65_method_133_code 7 = .ok (.isub, 1) := by decide +kernel
theorem d21_8 : decode jdk_65_method_133_code 8 = .ok (.istore_n 3, 1) := by decide +kernel
theorem d21_9 : decode jdk_65_method_133_code 9 = .ok (.iload_n 3, 1) := by decide +kernel
theorem d21_10 : decode jdk_65_method_133_code 10 = .ok (.newarray .byte, 2) := by decide +kernel
theorem d21_12 : decode jdk_65_method_133_code 12 = .ok (.astore 4, 2) := by decide +kernel
theorem d21_14 : decode jdk_65_method_133_code 14 = .ok (.aload_n 0, 1) := by decide +kernel
theorem d21_15 : decode jdk_65_method_133_code 15 = .ok (.iload_n 1, 1) := by decide +kernel
theorem d21_16 : decode jdk_65_method_133_code 16 = .ok (.aload 4, 2) := by decide +kernel
theorem d21_18 : decode jdk_65_method_133_code 18 = .ok (.iconst 0, 1) := by decide +kernel
theorem d21_19 : decode jdk_65_method_133_code 19 = .ok (.aload_n 0, 1) := by decide +kernel
theorem d21_20 : decode jdk_65_method_133_code 20 = .ok (.arraylength, 1) := by decide +kernel
theorem d21_21 : decode jdk_65_method_133_code 21 = .ok (.iload_n 1, 1) := by decide +kernel
theorem d21_22 : decode jdk_65_method_133_code 22 = .ok (.isub, 1) := by decide +kernel
theorem d21_23 : decode jdk_65_method_133_code 23 = .ok (.iload_n 3, 1) := by decide +kernel
theorem d21_24 : decode jdk_65_method_133_code 24 = .ok (.invokestatic 304, 3) := by decide +kernel
theorem d21_27 : decode jdk_65_method_133_code 27 = .ok (.invokestatic 150, 3) := by decide +kernel
theorem d21_30 : decode jdk_65_method_133_code 30 = .ok (.aload 4, 2) := by decide +kernel
theorem d21_32 : decode jdk_65_method_133_code 32 = .ok (.areturn, 1) := by decide +kernel
theorem ef_RII5 (m : MethodId) (x0 : Addr) (x1 : Int32) (x2 : Int32) : entryFrame m #[(.ref x0), (.int x1), (.int x2)] 5 = mkF m 0 #[vR x0, vI x1, vI x2, .unset, .unset] [] := by first | (simp [entryFrame, mkF, argsToLocals, Value.category]; done) | rfl
set_option maxRecDepth 65536 in
set_option maxHeartbeats 40000000 in
theorem rm_Qcy21 (l : Launch) (Z : State) (a0 : Array Value) (hw : ∀ d ∈ tables_1, d.before a0 Z = true) (ar : Addr) (kk : ClassId) (v1 v2 : Int32) (h0 : Heap) (n0 : Nat) (Z0 : n0 ≤ h0.size) (Ea : Exa Z h0 ar "[B") (Va : Arv Z h0 ar kk .byte (2 : Int32) [(.int v1), (.int v2)] (.int 0)) :
    own_MG l Z ((⟨"java/util/Arrays", "copyOfRangeByte", "([BII)[B"⟩ : MethodName)) jdk_65_method_133_code 5 (some (.array .byte)) ({ frames := 1, cells := 1, slots := 1, locals := 60 } : Room) #[(.ref ar), (.int 0), (.int 1)] h0 (Qcy21 Z ar kk v1 v2 h0 n0) := by
  refine own_mkG (plainFor_of_name pn_java_util_Arrays) ?_
  intro p e s m below meth c s₁ X0 hx hby hml hown hnm hret hlk hZ e0
  have N0 := Fr.nil n0
  have K0 := Keep.refl h0 []
  rw [ef_RII5 m ar (0 : Int32) (1 : Int32)]
  refine own_vF m s₁ 1 #[vR ar, vI (0 : Int32), vI (1 : Int32), .unset, .unset] [(.int 0)] (fun t k => XS.iloadN X0.here hx rfl (hb hby d21_0) rfl k) ?_
  refine own_vF m s₁ 2 #[vR ar, vI (0 : Int32), vI (1 : Int32), .unset, .unset] [(.int 1), (.int 0)] (fun t k => XS.iloadN X0.here hx rfl (hb hby d21_1) rfl k) ?_
  obtain ⟨_, T1, L1, X1, hQ1, st1⟩ := own_callS X0 hx hZ (y := (⟨"java/util/Arrays", "checkLength", "(II)V"⟩ : MethodName)) (W := 0) hown (hw _ (own_mt 121 rfl)) (hw _ (own_mt 122 rfl)) (hw _ (own_mt 99 rfl)) (hw _ (own_mt 123 rfl)) (by decide) (rm_Qcl l Z a0 hw (1 : Int32) h0 n0 Z0 (by decide)) (by decide) (by decide) e0 (g := (mkF m 2 #[vR ar, vI (0 : Int32), vI (1 : Int32), .unset, .unset] [(.int 1), (.int 0)])) rfl (by rw [hml]; rfl) (argsL := [(.int 0), (.int 1)]) (rest := []) rfl (lenOf pd_II__V rfl) rfl own_w0 (hb hby d21_2) (by decide) (by decide)
  obtain ⟨rfl, N1q, e1⟩ := hQ1
  have N1 := Fr.app N0 N1q
  refine own_vF m T1 5 #[vR ar, vI (0 : Int32), vI (1 : Int32), .unset, .unset] [] (fun t k => st1 t k) ?_
  refine own_vF m T1 6 #[vR ar, vI (0 : Int32), vI (1 : Int32), .unset, .unset] [(.int 1)] (fun t k => XS.iloadN X1.here hx rfl (hb hby d21_5) rfl k) ?_
  refine own_vF m T1 7 #[vR ar, vI (0 : Int32), vI (1 : Int32), .unset, .unset] [(.int 0), (.int 1)] (fun t k => XS.iloadN X1.here hx rfl (hb hby d21_6) rfl k) ?_
  refine own_vF m T1 8 #[vR ar, vI (0 : Int32), vI (1 : Int32), .unset, .unset] [(.int ((1 : Int32) - (0 : Int32)))] (fun t k => XS.isub X1.here hx rfl (hb hby d21_7) rfl k) ?_
  rw [show ((1 : Int32) - (0 : Int32)) = (1 : Int32) from by decide]
  refine own_vF m T1 9 #[vR ar, vI (0 : Int32), vI (1 : Int32), vI (1 : Int32), .unset] [] (fun t k => XS.istoreN X1.here hx rfl (hb hby d21_8) rfl (l' := #[vR ar, vI (0 : Int32), vI (1 : Int32), vI (1 : Int32), .unset]) rfl k) ?_
  refine own_vF m T1 10 #[vR ar, vI (0 : Int32), vI (1 : Int32), vI (1 : Int32), .unset] [(.int 1)] (fun t k => XS.iloadN X1.here hx rfl (hb hby d21_9) rfl k) ?_
  obtain ⟨T2, h2, k2, X2, e2, E2, A2, B2, st2⟩ := newPE X1 hx hZ (hw _ (own_mt 5 rfl)) e1 (g := (mkF m 10 #[vR ar, vI (0 : Int32), vI (1 : Int32), vI (1 : Int32), .unset] [(.int 1)])) rfl (hb hby d21_10) rfl (by decide) (cap := 1) (by decide) (by decide) (by decide) (by decide) (ad := "[B") (by decide)
  obtain ⟨b2, g2⟩ : ∃ z, z = h0.size := ⟨_, rfl⟩
  rw [← g2] at A2 st2 B2
  have gn_b2 : n0 ≤ b2 := Nat.le_trans Z0 (Nat.le_of_eq g2.symm)
  have sz_b2 : h0.size ≤ b2 := Nat.le_trans K0.1 (Nat.le_of_eq g2.symm)
  have f5 := Va.ext E2
  have V2 : Arv Z h2 b2 k2 .byte (1 : Int32) [(.int 0)] (.int 0) := (Arv.new A2 (by decide)).pad (pad_rep [] (.int 0) 1)
  have Z6 : n0 ≤ h2.size := Nat.le_trans Z0 E2.1
  have K6 := K0.ext E2
  refine own_vF m T2 12 #[vR ar, vI (0 : Int32), vI (1 : Int32), vI (1 : Int32), .unset] [(.ref b2)] (fun t k => st2 t k) ?_
  refine own_vF m T2 14 #[vR ar, vI (0 : Int32), vI (1 : Int32), vI (1 : Int32), vR b2] [] (fun t k => XS.astore X2.here hx rfl (hb hby d21_12) rfl rfl (l' := #[vR ar, vI (0 : Int32), vI (1 : Int32), vI (1 : Int32), vR b2]) rfl k) ?_
  refine own_vF m T2 15 #[vR ar, vI (0 : Int32), vI (1 : Int32), vI (1 : Int32), vR b2] [(.ref ar)] (fun t k => XS.aloadN X2.here hx rfl (hb hby d21_14) rfl rfl k) ?_
  refine own_vF m T2 16 #[vR ar, vI (0 : Int32), vI (1 : Int32), vI (1 : Int32), vR b2] [(.int 0), (.ref ar)] (fun t k => XS.iloadN X2.here hx rfl (hb hby d21_15) rfl k) ?_
  refine own_vF m T2 18 #[vR ar, vI (0 : Int32), vI (1 : Int32), vI (1 : Int32), vR b2] [(.ref b2), (.int 0), (.ref ar)] (fun t k => XS.aload X2.here hx rfl (hb hby d21_16) rfl rfl k) ?_
  refine own_vF m T2 19 #[vR ar, vI (0 : Int32), vI (1 : Int32), vI (1 : Int32), vR b2] [(.int 0), (.ref b2), (.int 0), (.ref ar)] (fun t k => XS.iconst X2.here hx rfl (hb hby d21_18) k) ?_
  refine own_vF m T2 20 #[vR ar, vI (0 : Int32), vI (1 : Int32), vI (1 : Int32), vR b2] [(.ref ar), (.int 0), (.ref b2), (.int 0), (.ref ar)] (fun t k => XS.aloadN X2.here hx rfl (hb hby d21_19) rfl rfl k) ?_
  obtain ⟨c7, Ar7, q7a, q7b, q7c, q7d, q7e⟩ := id f5
  refine own_vF m T2 21 #[vR ar, vI (0 : Int32), vI (1 : Int32), vI (1 : Int32), vR b2] [(.int 2), (.int 0), (.ref b2), (.int 0), (.ref ar)] (fun t k => (fun t k => X2.arraylength hx (by rw [e2]; exact Ar7.1) (State.isArrayOf_alike hZ.alike Ar7.2.1) (g := (mkF m 20 #[vR ar, vI (0 : Int32), vI (1 : Int32), vI (1 : Int32), vR b2] [(.ref ar), (.int 0), (.ref b2), (.int 0), (.ref ar)])) rfl rfl (hb hby d21_20) t (by rw [len_of q7b q7c]; exact k)) t k) ?_
  refine own_vF m T2 22 #[vR ar, vI (0 : Int32), vI (1 : Int32), vI (1 : Int32), vR b2] [(.int 0), (.int 2), (.int 0), (.ref b2), (.int 0), (.ref ar)] (fun t k => XS.iloadN X2.here hx rfl (hb hby d21_21) rfl k) ?_
  refine own_vF m T2 23 #[vR ar, vI (0 : Int32), vI (1 : Int32), vI (1 : Int32), vR b2] [(.int ((2 : Int32) - (0 : Int32))), (.int 0), (.ref b2), (.int 0), (.ref ar)] (fun t k => XS.isub X2.here hx rfl (hb hby d21_22) rfl k) ?_
  rw [show ((2 : Int32) - (0 : Int32)) = (2 : Int32) from by decide]
  refine own_vF m T2 24 #[vR ar, vI (0 : Int32), vI (1 : Int32), vI (1 : Int32), vR b2] [(.int 1), (.int 2), (.int 0), (.ref b2), (.int 0), (.ref ar)] (fun t k => XS.iloadN X2.here hx rfl (hb hby d21_23) rfl k) ?_
  obtain ⟨_, T8, L8, X8, hQ8, st8⟩ := own_callS X2 hx hZ (y := (⟨"java/lang/Math", "min", "(II)I"⟩ : MethodName)) (W := 4) hown (hw _ (own_mt 124 rfl)) (hw _ (own_mt 76 rfl)) (hw _ (own_mt 73 rfl)) (hw _ (own_mt 77 rfl)) (by decide) (rm_Qmin l Z a0 hw (2 : Int32) (1 : Int32) h2 n0 Z6) (by decide) (by decide) e2 (g := (mkF m 24 #[vR ar, vI (0 : Int32), vI (1 : Int32), vI (1 : Int32), vR b2] [(.int 1), (.int 2), (.int 0), (.ref b2), (.int 0), (.ref ar)])) rfl (by rw [hml]; rfl) (argsL := [(.int 2), (.int 1)]) (rest := [(.int 0), (.ref b2), (.int 0), (.ref ar)]) rfl (lenOf pd_II__I rfl) rfl own_w0 (hb hby d21_24) (by decide) (by decide)
  obtain ⟨rfl, N8q, e8⟩ := hQ8
  have N8 := Fr.app N1 N8q
  refine own_vF m T8 27 #[vR ar, vI (0 : Int32), vI (1 : Int32), vI (1 : Int32), vR b2] [(.int (if (1 : Int32) < (2 : Int32) then (1 : Int32) else (2 : Int32))), (.int 0), (.ref b2), (.int 0), (.ref ar)] (fun t k => st8 t k) ?_
  rw [show (if (1 : Int32) < (2 : Int32) then (1 : Int32) else (2 : Int32)) = (1 : Int32) from by decide]
  obtain ⟨T9, h9, L9, X9, e9, N9, K9q, V9, st9⟩ := cpA (us := [(.int v1)]) X8 hx hZ hown (hw _ (own_mt 125 rfl)) (hw _ (own_mt 128 rfl)) (hw _ (own_mt 126 rfl)) (hw _ (own_mt 127 rfl)) e8 f5 V2 (Or.inl ⟨rfl, rfl⟩) (by decide) (by decide) (by decide) (by decide) (by decide) rfl (by decide) N8 gn_b2 (g := (mkF m 27 #[vR ar, vI (0 : Int32), vI (1 : Int32), vI (1 : Int32), vR b2] [(.int 1), (.int 0), (.ref b2), (.int 0), (.ref ar)])) rfl (by rw [hml]; rfl) rfl (hb hby d21_27) (by decide) (W := 0) own_w0 (by decide)
  have V9 : Arv Z h9 b2 k2 .byte (1 : Int32) [(.int v1)] (.int 0) := V9
  subst e9
  have f12 := B2.keep K9q
  have K13 := K6.trans K9q (allS (Or.inr sz_b2) all0)
  refine own_vF m T9 30 #[vR ar, vI (0 : Int32), vI (1 : Int32), vI (1 : Int32), vR b2] [] (fun t k => st9 t k) ?_
  refine own_vF m T9 32 #[vR ar, vI (0 : Int32), vI (1 : Int32), vI (1 : Int32), vR b2] [(.ref b2)] (fun t k => XS.aload X9.here hx rfl (hb hby d21_30) rfl rfl k) ?_
  exact own_ret X9 (v := some (.ref b2)) (fun h => by rw [hret] at h; cases h) hlk (fun fs hr => retOut X9 hx (t := (.array .byte)) hret rfl (Or.inr (Or.inr (Or.inr (Or.inr ⟨rfl, rfl, rfl⟩)))) (hb hby d21_32) hr) (by exact ⟨b2, _, rfl, N9, K13, f12, V9⟩) (by decide) (by decide)
def Qcr21 (Z : State) (ar : Addr) (kk : ClassId) (v1 v2 : Int32) (h0 : Heap) (n0 : Nat) (v : Option Value) (h : Heap) (L : List Loc) : Prop := ∃ r kr, v = some (.ref r) ∧ Fr n0 L ∧ Keep h0 h [] ∧ Exa Z h r "[B" ∧ Arv Z h r kr .byte (1 : Int32) [.int v1] (.int 0)
theorem d20_10 : decode jdk_65_method_132_code 10 = .ok (.aload_n 0, 1) := by decide +kernel
theorem d20_11 : decode jdk_65_method_132_code 11 = .ok (.iload_n 1, 1) := by decide +kernel
theorem d20_12 : decode jdk_65_method_132_code 12 = .ok (.iload_n 2, 1) := by decide +kernel
theorem pd_ABII__AB : parseMethodDescriptor "([BII)[B" = some ⟨[(.array .byte), .int, .int], some (.array .byte)⟩ := by decide +kernel
theorem d20_13 : decode jdk_65_method_132_code 13 = .ok (.invokestatic 339, 3) := by decide +kernel
theorem d20_16 : decode jdk_65_method_132_code 16 = .ok (.areturn, 1) := by decide +kernel
set_option maxRecDepth 65536 in
set_option maxHeartbeats 40000000 in
theorem rm_Qcr21 (l : Launch) (Z : State) (a0 : Array Value) (hw : ∀ d ∈ tables_1, d.before a0 Z = true) (ar : Addr) (kk : ClassId) (v1 v2 : Int32) (h0 : Heap) (n0 : Nat) (Z0 : n0 ≤ h0.size) (Ea : Exa Z h0 ar "[B") (Va : Arv Z h0 ar kk .byte (2 : Int32) [(.int v1), (.int v2)] (.int 0)) :
    own_MG l Z ((⟨"java/util/Arrays", "copyOfRange", "([BII)[B"⟩ : MethodName)) jdk_65_method_132_code 3 (some (.array .byte)) ({ frames := 2, cells := 1, slots := 1, locals := 76 } : Room) #[(.ref ar), (.int 0), (.int 1)] h0 (Qcr21 Z ar kk v1 v2 h0 n0) := by
  refine own_mkG (plainFor_of_name pn_java_util_Arrays) ?_
  intro p e s m below meth c s₁ X0 hx hby hml hown hnm hret hlk hZ e0
  have N0 := Fr.nil n0
  have K0 := Keep.refl h0 []
  rw [ef_RII3 m ar (0 : Int32) (1 : Int32)]
  refine own_vF m s₁ 1 #[vR ar, vI (0 : Int32), vI (1 : Int32)] [(.int 0)] (fun t k => XS.iloadN X0.here hx rfl (hb hby d20_0) rfl k) ?_
  refine own_vF m s₁ 4 #[vR ar, vI (0 : Int32), vI (1 : Int32)] [] (fun t k => XS.ifNo X0.here hx rfl (hb hby d20_1) rfl ((if0 _ _).trans (teq (by decide : ((0 : Int32) = (0 : Int32)))).2) k) ?_
  refine own_vF m s₁ 5 #[vR ar, vI (0 : Int32), vI (1 : Int32)] [(.int 1)] (fun t k => XS.iloadN X0.here hx rfl (hb hby d20_4) rfl k) ?_
  refine own_vF m s₁ 6 #[vR ar, vI (0 : Int32), vI (1 : Int32)] [(.ref ar), (.int 1)] (fun t k => XS.aloadN X0.here hx rfl (hb hby d20_5) rfl rfl k) ?_
  obtain ⟨c1, Ar1, q1a, q1b, q1c, q1d, q1e⟩ := id Va
  refine own_vF m s₁ 7 #[vR ar, vI (0 : Int32), vI (1 : Int32)] [(.int 2), (.int 1)] (fun t k => (fun t k => X0.arraylength hx (by rw [e0]; exact Ar1.1) (State.isArrayOf_alike hZ.alike Ar1.2.1) (g := (mkF m 6 #[vR ar, vI (0 : Int32), vI (1 : Int32)] [(.ref ar), (.int 1)])) rfl rfl (hb hby d20_6) t (by rw [len_of q1b q1c]; exact k)) t k) ?_
  refine own_vF m s₁ 10 #[vR ar, vI (0 : Int32), vI (1 : Int32)] [] (fun t k => XS.icmpNo X0.here hx rfl (hb hby d20_7) rfl (feq (by decide : ¬ ((1 : Int32) = (2 : Int32)))).1 k) ?_
  refine own_vF m s₁ 11 #[vR ar, vI (0 : Int32), vI (1 : Int32)] [(.ref ar)] (fun t k => XS.aloadN X0.here hx rfl (hb hby d20_10) rfl rfl k) ?_
  refine own_vF m s₁ 12 #[vR ar, vI (0 : Int32), vI (1 : Int32)] [(.int 0), (.ref ar)] (fun t k => XS.iloadN X0.here hx rfl (hb hby d20_11) rfl k) ?_
  refine own_vF m s₁ 13 #[vR ar, vI (0 : Int32), vI (1 : Int32)] [(.int 1), (.int 0), (.ref ar)] (fun t k => XS.iloadN X0.here hx rfl (hb hby d20_12) rfl k) ?_
  obtain ⟨_, T2, L2, X2, hQ2, st2⟩ := own_callS X0 hx hZ (y := (⟨"java/util/Arrays", "copyOfRangeByte", "([BII)[B"⟩ : MethodName)) (W := 0) hown (hw _ (own_mt 118 rfl)) (hw _ (own_mt 119 rfl)) (hw _ (own_mt 99 rfl)) (hw _ (own_mt 120 rfl)) (by decide) (rm_Qcy21 l Z a0 hw ar kk v1 v2 h0 n0 Z0 Ea Va) (by decide) (by decide) e0 (g := (mkF m 13 #[vR ar, vI (0 : Int32), vI (1 : Int32)] [(.int 1), (.int 0), (.ref ar)])) rfl (by rw [hml]; rfl) (argsL := [(.ref ar), (.int 0), (.int 1)]) (rest := []) rfl (lenOf pd_ABII__AB rfl) rfl own_w0 (hb hby d20_13) (by decide) (by decide)
  obtain ⟨b2r, kr2, rfl, N2q, K2q, B2, V2⟩ := hQ2
  have N2 := Fr.app N0 N2q
  have K5 := K0.trans K2q all0
  refine own_vF m T2 16 #[vR ar, vI (0 : Int32), vI (1 : Int32)] [(.ref b2r)] (fun t k => st2 t k) ?_
  exact own_ret X2 (v := some (.ref b2r)) (fun h => by rw [hret] at h; cases h) hlk (fun fs hr => retOut X2 hx (t := (.array .byte)) hret rfl (Or.inr (Or.inr (Or.inr (Or.inr ⟨rfl, rfl, rfl⟩)))) (hb hby d20_16) hr) (by exact ⟨b2r, _, rfl, N2, K5, B2, V2⟩) (by decide) (by decide)
def Qcr22 (Z : State) (ar : Addr) (kk : ClassId) (v1 v2 : Int32) (h0 : Heap) (n0 : Nat) (v : Option Value) (h : Heap) (L : List Loc) : Prop := ∃ r kr, v = some (.ref r) ∧ Fr n0 L ∧ Keep h0 h [] ∧ Exa Z h r "[B" ∧ Arv Z h r kr .byte (2 : Int32) [.int v1, .int v2] (.int 0)
set_option maxRecDepth 65536 in
set_option maxHeartbeats 40000000 in
theorem rm_Qcr22 (l : Launch) (Z : State) (a0 : Array Value) (hw : ∀ d ∈ tables_1, d.before a0 Z = true) (ar : Addr) (kk : ClassId) (v1 v2 : Int32) (h0 : Heap) (n0 : Nat) (Z0 : n0 ≤ h0.size) (Ea : Exa Z h0 ar "[B") (Va : Arv Z h0 ar kk .byte (2 : Int32) [(.int v1), (.int v2)] (.int 0)) :
    own_MG l Z ((⟨"java/util/Arrays", "copyOfRange", "([BII)[B"⟩ : MethodName)) jdk_65_method_132_code 3 (some (.array .byte)) ({ frames := 1, cells := 1, slots := 2, locals := 14 } : Room) #[(.ref ar), (.int 0), (.int 2)] h0 (Qcr22 Z ar kk v1 v2 h0 n0) := by
  refine own_mkG (plainFor_of_name pn_java_util_Arrays) ?_
  intro p e s m below meth c s₁ X0 hx hby hml hown hnm hret hlk hZ e0
  have N0 := Fr.nil n0
  have K0 := Keep.refl h0 []
  rw [ef_RII3 m ar (0 : Int32) (2 : Int32)]
  refine own_vF m s₁ 1 #[vR ar, vI (0 : Int32), vI (2 : Int32)] [(.int 0)] (fun t k => XS.iloadN X0.here hx rfl (hb hby d20_0) rfl k) ?_
  refine own_vF m s₁ 4 #[vR ar, vI (0 : Int32), vI (2 : Int32)] [] (fun t k => XS.ifNo X0.here hx rfl (hb hby d20_1) rfl ((if0 _ _).trans (teq (by decide : ((0 : Int32) = (0 : Int32)))).2) k) ?_
  refine own_vF m s₁ 5 #[vR ar, vI (0 : Int32), vI (2 : Int32)] [(.int 2)] (fun t k => XS.iloadN X0.here hx rfl (hb hby d20_4) rfl k) ?_
  refine own_vF m s₁ 6 #[vR ar, vI (0 : Int32), vI (2 : Int32)] [(.ref ar), (.int 2)] (fun t k => XS.aloadN X0.here hx rfl (hb hby d20_5) rfl rfl k) ?_
  obtain ⟨c1, Ar1, q1a, q1b, q1c, q1d, q1e⟩ := id Va
  refine own_vF m s₁ 7 #[vR ar, vI (0 : Int32), vI (2 : Int32)] [(.int 2), (.int 2)] (fun t k => (fun t k => X0.arraylength hx (by rw [e0]; exact Ar1.1) (State.isArrayOf_alike hZ.alike Ar1.2.1) (g := (mkF m 6 #[vR ar, vI (0 : Int32), vI (2 : Int32)] [(.ref ar), (.int 2)])) rfl rfl (hb hby d20_6) t (by rw [len_of q1b q1c]; exact k)) t k) ?_
  refine own_vF m s₁ 17 #[vR ar, vI (0 : Int32), vI (2 : Int32)] [] (fun t k => XS.icmpYes X0.here hx rfl (pc0 := 7) (pc' := 17) rfl (hb hby d20_7) rfl (teq (by decide : ((2 : Int32) = (2 : Int32)))).1 (by decide) (by decide) k) ?_
  refine own_vF m s₁ 18 #[vR ar, vI (0 : Int32), vI (2 : Int32)] [(.ref ar)] (fun t k => XS.aloadN X0.here hx rfl (hb hby d20_17) rfl rfl k) ?_
  obtain ⟨T2, h2, X2, e2, E2, V2, B2, st2⟩ := cloneH (hs := []) (vs := [(.int v1), (.int v2)]) (dv := (.int 0)) (z := (2 : Int32)) X0 hx hZ hown (hw _ (own_mt 101 rfl)) (hw _ (own_mt 102 rfl)) (hw _ (own_mt 106 rfl)) (hw _ (own_mt 104 rfl)) (hw _ (own_mt 105 rfl)) (hw _ (own_mt 107 rfl)) e0 Va Ea (g := (mkF m 18 #[vR ar, vI (0 : Int32), vI (2 : Int32)] [(.ref ar)])) rfl (by rw [hml]; rfl) rfl (hb hby d20_18) (by decide) (W := 0) (cap := 2) own_w0 (by decide) (by decide) (by decide) (by decide)
  obtain ⟨b2, g2⟩ : ∃ z, z = h0.size := ⟨_, rfl⟩
  rw [← g2] at V2 B2 st2
  have V2 : Arv Z h2 b2 kk .byte (2 : Int32) [(.int v1), (.int v2)] (.int 0) := V2
  have K6 := K0.ext E2
  refine own_vF m T2 21 #[vR ar, vI (0 : Int32), vI (2 : Int32)] [(.ref b2)] (fun t k => st2 t k) ?_
  obtain ⟨T7, X7, e7, st7⟩ := castY X2 hx hZ hown (hw _ (own_mt 108 rfl)) e2 (Ins.self B2) (g := (mkF m 21 #[vR ar, vI (0 : Int32), vI (2 : Int32)] [(.ref b2)])) rfl rfl (hb hby d20_21)
  refine own_vF m T7 24 #[vR ar, vI (0 : Int32), vI (2 : Int32)] [(.ref b2)] (fun t k => st7 t k) ?_
  exact own_ret X7 (v := some (.ref b2)) (fun h => by rw [hret] at h; cases h) hlk (fun fs hr => retOut X7 hx (t := (.array .byte)) hret rfl (Or.inr (Or.inr (Or.inr (Or.inr ⟨rfl, rfl, rfl⟩)))) (hb hby d20_24) hr) (by rw [e7]; exact ⟨b2, _, rfl, N0, K6, B2, V2⟩) (by decide) (by decide)
def Qcy31 (Z : State) (ar : Addr) (kk : ClassId) (v1 v2 v3 : Int32) (h0 : Heap) (n0 : Nat) (v : Option Value) (h : Heap) (L : List Loc) : Prop := ∃ r kr, v = some (.ref r) ∧ Fr n0 L ∧ Keep h0 h [] ∧ Exa Z h r "[B" ∧ Arv Z h r kr .byte (1 : Int32) [.int v1] (.int 0)
set_option maxRecDepth 65536 in
set_option maxHeartbeats 40000000 in
theorem rm_Qcy31 (l : Launch) (Z : State) (a0 : Array Value) (hw : ∀ d ∈ tables_1, d.before a0 Z = true) (ar : Addr) (kk : ClassId) (v1 v2 v3 : Int32) (h0 : Heap) (n0 : Nat) (Z0 : n0 ≤ h0.size) (Ea : Exa Z h0 ar "[B") (Va : Arv Z h0 ar kk .byte (3 : Int32) [(.int v1), (.int v2), (.int v3)] (.int 0)) :
    own_MG l Z ((⟨"java/util/Arrays", "copyOfRangeByte", "([BII)[B"⟩ : MethodName)) jdk_65_method_133_code 5 (some (.array .byte)) ({ frames := 1, cells := 1, slots := 1, locals := 60 } : Room) #[(.ref ar), (.int 0), (.int 1)] h0 (Qcy31 Z ar kk v1 v2 v3 h0 n0) := by
  refine own_mkG (plainFor_of_name pn_java_util_Arrays) ?_
  intro p e s m below meth c s₁ X0 hx hby hml hown hnm hret hlk hZ e0
  have N0 := Fr.nil n0
  have K0 := Keep.refl h0 []
  rw [ef_RII5 m ar (0 : Int32) (1 : Int32)]
  refine own_vF m s₁ 1 #[vR ar, vI (0 : Int32), vI (1 : Int32), .unset, .unset] [(.int 0)] (fun t k => XS.iloadN X0.here hx rfl (hb hby d21_0) rfl k) ?_
  refine own_vF m s₁ 2 #[vR ar, vI (0 : Int32), vI (1 : Int32), .unset, .unset] [(.int 1), (.int 0)] (fun t k => XS.iloadN X0.here hx rfl (hb hby d21_1) rfl k) ?_
  obtain ⟨_, T1, L1, X1, hQ1, st1⟩ := own_callS X0 hx hZ (y := (⟨"java/util/Arrays", "checkLength", "(II)V"⟩ : MethodName)) (W := 0) hown (hw _ (own_mt 121 rfl)) (hw _ (own_mt 122 rfl)) (hw _ (own_mt 99 rfl)) (hw _ (own_mt 123 rfl)) (by decide) (rm_Qcl l Z a0 hw (1 : Int32) h0 n0 Z0 (by decide)) (by decide) (by decide) e0 (g := (mkF m 2 #[vR ar, vI (0 : Int32), vI (1 : Int32), .unset, .unset] [(.int 1), (.int 0)])) rfl (by rw [hml]; rfl) (argsL := [(.int 0), (.int 1)]) (rest := []) rfl (lenOf pd_II__V rfl) rfl own_w0 (hb hby d21_2) (by decide) (by decide)
  obtain ⟨rfl, N1q, e1⟩ := hQ1
  have N1 := Fr.app N0 N1q
  refine own_vF m T1 5 #[vR ar, vI (0 : Int32), vI (1 : Int32), .unset, .unset] [] (fun t k => st1 t k) ?_
  refine own_vF m T1 6 #[vR ar, vI (0 : Int32), vI (1 : Int32), .unset, .unset] [(.int 1)] (fun t k => XS.iloadN X1.here hx rfl (hb hby d21_5) rfl k) ?_
  refine own_vF m T1 7 #[vR ar, vI (0 : Int32), vI (1 : Int32), .unset, .unset] [(.int 0), (.int 1)] (fun t k => XS.iloadN X1.here hx rfl (hb hby d21_6) rfl k) ?_
  refine own_vF m T1 8 #[vR ar, vI (0 : Int32), vI (1 : Int32), .unset, .unset] [(.int ((1 : Int32) - (0 : Int32)))] (fun t k => XS.isub X1.here hx rfl (hb hby d21_7) rfl k) ?_
  rw [show ((1 : Int32) - (0 : Int32)) = (1 : Int32) from by decide]
  refine own_vF m T1 9 #[vR ar, vI (0 : Int32), vI (1 : Int32), vI (1 : Int32), .unset] [] (fun t k => XS.istoreN X1.here hx rfl (hb hby d21_8) rfl (l' := #[vR ar, vI (0 : Int32), vI (1 : Int32), vI (1 : Int32), .unset]) rfl k) ?_
  refine own_vF m T1 10 #[vR ar, vI (0 : Int32), vI (1 : Int32), vI (1 : Int32), .unset] [(.int 1)] (fun t k => XS.iloadN X1.here hx rfl (hb hby d21_9) rfl k) ?_
  obtain ⟨T2, h2, k2, X2, e2, E2, A2, B2, st2⟩ := newPE X1 hx hZ (hw _ (own_mt 5 rfl)) e1 (g := (mkF m 10 #[vR ar, vI (0 : Int32), vI (1 : Int32), vI (1 : Int32), .unset] [(.int 1)])) rfl (hb hby d21_10) rfl (by decide) (cap := 1) (by decide) (by decide) (by decide) (by decide) (ad := "[B") (by decide)
  obtain ⟨b2, g2⟩ : ∃ z, z = h0.size := ⟨_, rfl⟩
  rw [← g2] at A2 st2 B2
  have gn_b2 : n0 ≤ b2 := Nat.le_trans Z0 (Nat.le_of_eq g2.symm)
  have sz_b2 : h0.size ≤ b2 := Nat.le_trans K0.1 (Nat.le_of_eq g2.symm)
  have f5 := Va.ext E2
  have V2 : Arv Z h2 b2 k2 .byte (1 : Int32) [(.int 0)] (.int 0) := (Arv.new A2 (by decide)).pad (pad_rep [] (.int 0) 1)
  have Z6 : n0 ≤ h2.size := Nat.le_trans Z0 E2.1
  have K6 := K0.ext E2
  refine own_vF m T2 12 #[vR ar, vI (0 : Int32), vI (1 : Int32), vI (1 : Int32), .unset] [(.ref b2)] (fun t k => st2 t k) ?_
  refine own_vF m T2 14 #[vR ar, vI (0 : Int32), vI (1 : Int32), vI (1 : Int32), vR b2] [] (fun t k => XS.astore X2.here hx rfl (hb hby d21_12) rfl rfl (l' := #[vR ar, vI (0 : Int32), vI (1 : Int32), vI (1 : Int32), vR b2]) rfl k) ?_
  refine own_vF m T2 15 #[vR ar, vI (0 : Int32), vI (1 : Int32), vI (1 : Int32), vR b2] [(.ref ar)] (fun t k => XS.aloadN X2.here hx rfl (hb hby d21_14) rfl rfl k) ?_
  refine own_vF m T2 16 #[vR ar, vI (0 : Int32), vI (1 : Int32), vI (1 : Int32), vR b2] [(.int 0), (.ref ar)] (fun t k => XS.iloadN X2.here hx rfl (hb hby d21_15) rfl k) ?_
  refine own_vF m T2 18 #[vR ar, vI (0 : Int32), vI (1 : Int32), vI (1 : Int32), vR b2] [(.ref b2), (.int 0), (.ref ar)] (fun t k => XS.aload X2.here hx rfl (hb hby d21_16) rfl rfl k) ?_
  refine own_vF m T2 19 #[vR ar, vI (0 : Int32), vI (1 : Int32), vI (1 : Int32), vR b2] [(.int 0), (.ref b2), (.int 0), (.ref ar)] (fun t k => XS.iconst X2.here hx rfl (hb hby d21_18) k) ?_
  refine own_vF m T2 20 #[vR ar, vI (0 : Int32), vI (1 : Int32), vI (1 : Int32), vR b2] [(.ref ar), (.int 0), (.ref b2), (.int 0), (.ref ar)] (fun t k => XS.aloadN X2.here hx rfl (hb hby d21_19) rfl rfl k) ?_
  obtain ⟨c7, Ar7, q7a, q7b, q7c, q7d, q7e⟩ := id f5
  refine own_vF m T2 21 #[vR ar, vI (0 : Int32), vI (1 : Int32), vI (1 : Int32), vR b2] [(.int 3), (.int 0), (.ref b2), (.int 0), (.ref ar)] (fun t k => (fun t k => X2.arraylength hx (by rw [e2]; exact Ar7.1) (State.isArrayOf_alike hZ.alike Ar7.2.1) (g := (mkF m 20 #[vR ar, vI (0 : Int32), vI (1 : Int32), vI (1 : Int32), vR b2] [(.ref ar), (.int 0), (.ref b2), (.int 0), (.ref ar)])) rfl rfl (hb hby d21_20) t (by rw [len_of q7b q7c]; exact k)) t k) ?_
  refine own_vF m T2 22 #[vR ar, vI (0 : Int32), vI (1 : Int32), vI (1 : Int32), vR b2] [(.int 0), (.int 3), (.int 0), (.ref b2), (.int 0), (.ref ar)] (fun t k => XS.iloadN X2.here hx rfl (hb hby d21_21) rfl k) ?_
  refine own_vF m T2 23 #[vR ar, vI (0 : Int32), vI (1 : Int32), vI (1 : Int32), vR b2] [(.int ((3 : Int32) - (0 : Int32))), (.int 0), (.ref b2), (.int 0), (.ref ar)] (fun t k => XS.isub X2.here hx rfl (hb hby d21_22) rfl k) ?_
  rw [show ((3 : Int32) - (0 : Int32)) = (3 : Int32) from by decide]
  refine own_vF m T2 24 #[vR ar, vI (0 : Int32), vI (1 : Int32), vI (1 : Int32), vR b2] [(.int 1), (.int 3), (.int 0), (.ref b2), (.int 0), (.ref ar)] (fun t k => XS.iloadN X2.here hx rfl (hb hby d21_23) rfl k) ?_
  obtain ⟨_, T8, L8, X8, hQ8, st8⟩ := own_callS X2 hx hZ (y := (⟨"java/lang/Math", "min", "(II)I"⟩ : MethodName)) (W := 4) hown (hw _ (own_mt 124 rfl)) (hw _ (own_mt 76 rfl)) (hw _ (own_mt 73 rfl)) (hw _ (own_mt 77 rfl)) (by decide) (rm_Qmin l Z a0 hw (3 : Int32) (1 : Int32) h2 n0 Z6) (by decide) (by decide) e2 (g := (mkF m 24 #[vR ar, vI (0 : Int32), vI (1 : Int32), vI (1 : Int32), vR b2] [(.int 1), (.int 3), (.int 0), (.ref b2), (.int 0), (.ref ar)])) rfl (by rw [hml]; rfl) (argsL := [(.int 3), (.int 1)]) (rest := [(.int 0), (.ref b2), (.int 0), (.ref ar)]) rfl (lenOf pd_II__I rfl) rfl own_w0 (hb hby d21_24) (by decide) (by decide)
  obtain ⟨rfl, N8q, e8⟩ := hQ8
  have N8 := Fr.app N1 N8q
  refine own_vF m T8 27 #[vR ar, vI (0 : Int32), vI (1 : Int32), vI (1 : Int32), vR b2] [(.int (if (1 : Int32) < (3 : Int32) then (1 : Int32) else (3 : Int32))), (.int 0), (.ref b2), (.int 0), (.ref ar)] (fun t k => st8 t k) ?_
  rw [show (if (1 : Int32) < (3 : Int32) then (1 : Int32) else (3 : Int32)) = (1 : Int32) from by decide]
  obtain ⟨T9, h9, L9, X9, e9, N9, K9q, V9, st9⟩ := cpA (us := [(.int v1)]) X8 hx hZ hown (hw _ (own_mt 125 rfl)) (hw _ (own_mt 128 rfl)) (hw _ (own_mt 126 rfl)) (hw _ (own_mt 127 rfl)) e8 f5 V2 (Or.inl ⟨rfl, rfl⟩) (by decide) (by decide) (by decide) (by decide) (by decide) rfl (by decide) N8 gn_b2 (g := (mkF m 27 #[vR ar, vI (0 : Int32), vI (1 : Int32), vI (1 : Int32), vR b2] [(.int 1), (.int 0), (.ref b2), (.int 0), (.ref ar)])) rfl (by rw [hml]; rfl) rfl (hb hby d21_27) (by decide) (W := 0) own_w0 (by decide)
  have V9 : Arv Z h9 b2 k2 .byte (1 : Int32) [(.int v1)] (.int 0) := V9
  subst e9
  have f12 := B2.keep K9q
  have K13 := K6.trans K9q (allS (Or.inr sz_b2) all0)
  refine own_vF m T9 30 #[vR ar, vI (0 : Int32), vI (1 : Int32), vI (1 : Int32), vR b2] [] (fun t k => st9 t k) ?_
  refine own_vF m T9 32 #[vR ar, vI (0 : Int32), vI (1 : Int32), vI (1 : Int32), vR b2] [(.ref b2)] (fun t k => XS.aload X9.here hx rfl (hb hby d21_30) rfl rfl k) ?_
  exact own_ret X9 (v := some (.ref b2)) (fun h => by rw [hret] at h; cases h) hlk (fun fs hr => retOut X9 hx (t := (.array .byte)) hret rfl (Or.inr (Or.inr (Or.inr (Or.inr ⟨rfl, rfl, rfl⟩)))) (hb hby d21_32) hr) (by exact ⟨b2, _, rfl, N9, K13, f12, V9⟩) (by decide) (by decide)
def Qcr31 (Z : State) (ar : Addr) (kk : ClassId) (v1 v2 v3 : Int32) (h0 : Heap) (n0 : Nat) (v : Option Value) (h : Heap) (L : List Loc) : Prop := ∃ r kr, v = some (.ref r) ∧ Fr n0 L ∧ Keep h0 h [] ∧ Exa Z h r "[B" ∧ Arv Z h r kr .byte (1 : Int32) [.int v1] (.int 0)
set_option maxRecDepth 65536 in
set_option maxHeartbeats 40000000 in
theorem rm_Qcr31 (l : Launch) (Z : State) (a0 : Array Value) (hw : ∀ d ∈ tables_1, d.before a0 Z = true) (ar : Addr) (kk : ClassId) (v1 v2 v3 : Int32) (h0 : Heap) (n0 : Nat) (Z0 : n0 ≤ h0.size) (Ea : Exa Z h0 ar "[B") (Va : Arv Z h0 ar kk .byte (3 : Int32) [(.int v1), (.int v2), (.int v3)] (.int 0)) :
    own_MG l Z ((⟨"java/util/Arrays", "copyOfRange", "([BII)[B"⟩ : MethodName)) jdk_65_method_132_code 3 (some (.array .byte)) ({ frames := 2, cells := 1, slots := 1, locals := 76 } : Room) #[(.ref ar), (.int 0), (.int 1)] h0 (Qcr31 Z ar kk v1 v2 v3 h0 n0) := by
  refine own_mkG (plainFor_of_name pn_java_util_Arrays) ?_
  intro p e s m below meth c s₁ X0 hx hby hml hown hnm hret hlk hZ e0
  have N0 := Fr.nil n0
  have K0 := Keep.refl h0 []
  rw [ef_RII3 m ar (0 : Int32) (1 : Int32)]
  refine own_vF m s₁ 1 #[vR ar, vI (0 : Int32), vI (1 : Int32)] [(.int 0)] (fun t k => XS.iloadN X0.here hx rfl (hb hby d20_0) rfl k) ?_
  refine own_vF m s₁ 4 #[vR ar, vI (0 : Int32), vI (1 : Int32)] [] (fun t k => XS.ifNo X0.here hx rfl (hb hby d20_1) rfl ((if0 _ _).trans (teq (by decide : ((0 : Int32) = (0 : Int32)))).2) k) ?_
  refine own_vF m s₁ 5 #[vR ar, vI (0 : Int32), vI (1 : Int32)] [(.int 1)] (fun t k => XS.iloadN X0.here hx rfl (hb hby d20_4) rfl k) ?_
  refine own_vF m s₁ 6 #[vR ar, vI (0 : Int32), vI (1 : Int32)] [(.ref ar), (.int 1)] (fun t k => XS.aloadN X0.here hx rfl (hb hby d20_5) rfl rfl k) ?_
  obtain ⟨c1, Ar1, q1a, q1b, q1c, q1d, q1e⟩ := id Va
  refine own_vF m s₁ 7 #[vR ar, vI (0 : Int32), vI (1 : Int32)] [(.int 3), (.int 1)] (fun t k => (fun t k => X0.arraylength hx (by rw [e0]; exact Ar1.1) (State.isArrayOf_alike hZ.alike Ar1.2.1) (g := (mkF m 6 #[vR ar, vI (0 : Int32), vI (1 : Int32)] [(.ref ar), (.int 1)])) rfl rfl (hb hby d20_6) t (by rw [len_of q1b q1c]; exact k)) t k) ?_
  refine own_vF m s₁ 10 #[vR ar, vI (0 : Int32), vI (1 : Int32)] [] (fun t k => XS.icmpNo X0.here hx rfl (hb hby d20_7) rfl (feq (by decide : ¬ ((1 : Int32) = (3 : Int32)))).1 k) ?_
  refine own_vF m s₁ 11 #[vR ar, vI (0 : Int32), vI (1 : Int32)] [(.ref ar)] (fun t k => XS.aloadN X0.here hx rfl (hb hby d20_10) rfl rfl k) ?_
  refine own_vF m s₁ 12 #[vR ar, vI (0 : Int32), vI (1 : Int32)] [(.int 0), (.ref ar)] (fun t k => XS.iloadN X0.here hx rfl (hb hby d20_11) rfl k) ?_
  refine own_vF m s₁ 13 #[vR ar, vI (0 : Int32), vI (1 : Int32)] [(.int 1), (.int 0), (.ref ar)] (fun t k => XS.iloadN X0.here hx rfl (hb hby d20_12) rfl k) ?_
  obtain ⟨_, T2, L2, X2, hQ2, st2⟩ := own_callS X0 hx hZ (y := (⟨"java/util/Arrays", "copyOfRangeByte", "([BII)[B"⟩ : MethodName)) (W := 0) hown (hw _ (own_mt 118 rfl)) (hw _ (own_mt 119 rfl)) (hw _ (own_mt 99 rfl)) (hw _ (own_mt 120 rfl)) (by decide) (rm_Qcy31 l Z a0 hw ar kk v1 v2 v3 h0 n0 Z0 Ea Va) (by decide) (by decide) e0 (g := (mkF m 13 #[vR ar, vI (0 : Int32), vI (1 : Int32)] [(.int 1), (.int 0), (.ref ar)])) rfl (by rw [hml]; rfl) (argsL := [(.ref ar), (.int 0), (.int 1)]) (rest := []) rfl (lenOf pd_ABII__AB rfl) rfl own_w0 (hb hby d20_13) (by decide) (by decide)
  obtain ⟨b2r, kr2, rfl, N2q, K2q, B2, V2⟩ := hQ2
  have N2 := Fr.app N0 N2q
  have K5 := K0.trans K2q all0
  refine own_vF m T2 16 #[vR ar, vI (0 : Int32), vI (1 : Int32)] [(.ref b2r)] (fun t k => st2 t k) ?_
  exact own_ret X2 (v := some (.ref b2r)) (fun h => by rw [hret] at h; cases h) hlk (fun fs hr => retOut X2 hx (t := (.array .byte)) hret rfl (Or.inr (Or.inr (Or.inr (Or.inr ⟨rfl, rfl, rfl⟩)))) (hb hby d20_16) hr) (by exact ⟨b2r, _, rfl, N2, K5, B2, V2⟩) (by decide) (by decide)
def Qcy32 (Z : State) (ar : Addr) (kk : ClassId) (v1 v2 v3 : Int32) (h0 : Heap) (n0 : Nat) (v : Option Value) (h : Heap) (L : List Loc) : Prop := ∃ r kr, v = some (.ref r) ∧ Fr n0 L ∧ Keep h0 h [] ∧ Exa Z h r "[B" ∧ Arv Z h r kr .byte (2 : Int32) [.int v1, .int v2] (.int 0)
set_option maxRecDepth 65536 in
set_option maxHeartbeats 40000000 in
theorem rm_Qcy32 (l : Launch) (Z : State) (a0 : Array Value) (hw : ∀ d ∈ tables_1, d.before a0 Z = true) (ar : Addr) (kk : ClassId) (v1 v2 v3 : Int32) (h0 : Heap) (n0 : Nat) (Z0 : n0 ≤ h0.size) (Ea : Exa Z h0 ar "[B") (Va : Arv Z h0 ar kk .byte (3 : Int32) [(.int v1), (.int v2), (.int v3)] (.int 0)) :
    own_MG l Z ((⟨"java/util/Arrays", "copyOfRangeByte", "([BII)[B"⟩ : MethodName)) jdk_65_method_133_code 5 (some (.array .byte)) ({ frames := 1, cells := 1, slots := 2, locals := 60 } : Room) #[(.ref ar), (.int 0), (.int 2)] h0 (Qcy32 Z ar kk v1 v2 v3 h0 n0) := by
  refine own_mkG (plainFor_of_name pn_java_util_Arrays) ?_
  intro p e s m below meth c s₁ X0 hx hby hml hown hnm hret hlk hZ e0
  have N0 := Fr.nil n0
  have K0 := Keep.refl h0 []
  rw [ef_RII5 m ar (0 : Int32) (2 : Int32)]
  refine own_vF m s₁ 1 #[vR ar, vI (0 : Int32), vI (2 : Int32), .unset, .unset] [(.int 0)] (fun t k => XS.iloadN X0.here hx rfl (hb hby d21_0) rfl k) ?_
  refine own_vF m s₁ 2 #[vR ar, vI (0 : Int32), vI (2 : Int32), .unset, .unset] [(.int 2), (.int 0)] (fun t k => XS.iloadN X0.here hx rfl (hb hby d21_1) rfl k) ?_
  obtain ⟨_, T1, L1, X1, hQ1, st1⟩ := own_callS X0 hx hZ (y := (⟨"java/util/Arrays", "checkLength", "(II)V"⟩ : MethodName)) (W := 0) hown (hw _ (own_mt 121 rfl)) (hw _ (own_mt 122 rfl)) (hw _ (own_mt 99 rfl)) (hw _ (own_mt 123 rfl)) (by decide) (rm_Qcl l Z a0 hw (2 : Int32) h0 n0 Z0 (by decide)) (by decide) (by decide) e0 (g := (mkF m 2 #[vR ar, vI (0 : Int32), vI (2 : Int32), .unset, .unset] [(.int 2), (.int 0)])) rfl (by rw [hml]; rfl) (argsL := [(.int 0), (.int 2)]) (rest := []) rfl (lenOf pd_II__V rfl) rfl own_w0 (hb hby d21_2) (by decide) (by decide)
  obtain ⟨rfl, N1q, e1⟩ := hQ1
  have N1 := Fr.app N0 N1q
  refine own_vF m T1 5 #[vR ar, vI (0 : Int32), vI (2 : Int32), .unset, .unset] [] (fun t k => st1 t k) ?_
  refine own_vF m T1 6 #[vR ar, vI (0 : Int32), vI (2 : Int32), .unset, .unset] [(.int 2)] (fun t k => XS.iloadN X1.here hx rfl (hb hby d21_5) rfl k) ?_
  refine own_vF m T1 7 #[vR ar, vI (0 : Int32), vI (2 : Int32), .unset, .unset] [(.int 0), (.int 2)] (fun t k => XS.iloadN X1.here hx rfl (hb hby d21_6) rfl k) ?_
  refine own_vF m T1 8 #[vR ar, vI (0 : Int32), vI (2 : Int32), .unset, .unset] [(.int ((2 : Int32) - (0 : Int32)))] (fun t k => XS.isub X1.here hx rfl (hb hby d21_7) rfl k) ?_
  rw [show ((2 : Int32) - (0 : Int32)) = (2 : Int32) from by decide]
  refine own_vF m T1 9 #[vR ar, vI (0 : Int32), vI (2 : Int32), vI (2 : Int32), .unset] [] (fun t k => XS.istoreN X1.here hx rfl (hb hby d21_8) rfl (l' := #[vR ar, vI (0 : Int32), vI (2 : Int32), vI (2 : Int32), .unset]) rfl k) ?_
  refine own_vF m T1 10 #[vR ar, vI (0 : Int32), vI (2 : Int32), vI (2 : Int32), .unset] [(.int 2)] (fun t k => XS.iloadN X1.here hx rfl (hb hby d21_9) rfl k) ?_
  obtain ⟨T2, h2, k2, X2, e2, E2, A2, B2, st2⟩ := newPE X1 hx hZ (hw _ (own_mt 5 rfl)) e1 (g := (mkF m 10 #[vR ar, vI (0 : Int32), vI (2 : Int32), vI (2 : Int32), .unset] [(.int 2)])) rfl (hb hby d21_10) rfl (by decide) (cap := 2) (by decide) (by decide) (by decide) (by decide) (ad := "[B") (by decide)
  obtain ⟨b2, g2⟩ : ∃ z, z = h0.size := ⟨_, rfl⟩
  rw [← g2] at A2 st2 B2
  have gn_b2 : n0 ≤ b2 := Nat.le_trans Z0 (Nat.le_of_eq g2.symm)
  have sz_b2 : h0.size ≤ b2 := Nat.le_trans K0.1 (Nat.le_of_eq g2.symm)
  have f5 := Va.ext E2
  have V2 : Arv Z h2 b2 k2 .byte (2 : Int32) [(.int 0), (.int 0)] (.int 0) := (Arv.new A2 (by decide)).pad (pad_rep [] (.int 0) 2)
  have Z6 : n0 ≤ h2.size := Nat.le_trans Z0 E2.1
  have K6 := K0.ext E2
  refine own_vF m T2 12 #[vR ar, vI (0 : Int32), vI (2 : Int32), vI (2 : Int32), .unset] [(.ref b2)] (fun t k => st2 t k) ?_
  refine own_vF m T2 14 #[vR ar, vI (0 : Int32), vI (2 : Int32), vI (2 : Int32), vR b2] [] (fun t k => XS.astore X2.here hx rfl (hb hby d21_12) rfl rfl (l' := #[vR ar, vI (0 : Int32), vI (2 : Int32), vI (2 : Int32), vR b2]) rfl k) ?_
  refine own_vF m T2 15 #[vR ar, vI (0 : Int32), vI (2 : Int32), vI (2 : Int32), vR b2] [(.ref ar)] (fun t k => XS.aloadN X2.here hx rfl (hb hby d21_14) rfl rfl k) ?_
  refine own_vF m T2 16 #[vR ar, vI (0 : Int32), vI (2 : Int32), vI (2 : Int32), vR b2] [(.int 0), (.ref ar)] (fun t k => XS.iloadN X2.here hx rfl (hb hby d21_15) rfl k) ?_
  refine own_vF m T2 18 #[vR ar, vI (0 : Int32), vI (2 : Int32), vI (2 : Int32), vR b2] [(.ref b2), (.int 0), (.ref ar)] (fun t k => XS.aload X2.here hx rfl (hb hby d21_16) rfl rfl k) ?_
  refine own_vF m T2 19 #[vR ar, vI (0 : Int32), vI (2 : Int32), vI (2 : Int32), vR b2] [(.int 0), (.ref b2), (.int 0), (.ref ar)] (fun t k => XS.iconst X2.here hx rfl (hb hby d21_18) k) ?_
  refine own_vF m T2 20 #[vR ar, vI (0 : Int32), vI (2 : Int32), vI (2 : Int32), vR b2] [(.ref ar), (.int 0), (.ref b2), (.int 0), (.ref ar)] (fun t k => XS.aloadN X2.here hx rfl (hb hby d21_19) rfl rfl k) ?_
  obtain ⟨c7, Ar7, q7a, q7b, q7c, q7d, q7e⟩ := id f5
  refine own_vF m T2 21 #[vR ar, vI (0 : Int32), vI (2 : Int32), vI (2 : Int32), vR b2] [(.int 3), (.int 0), (.ref b2), (.int 0), (.ref ar)] (fun t k => (fun t k => X2.arraylength hx (by rw [e2]; exact Ar7.1) (State.isArrayOf_alike hZ.alike Ar7.2.1) (g := (mkF m 20 #[vR ar, vI (0 : Int32), vI (2 : Int32), vI (2 : Int32), vR b2] [(.ref ar), (.int 0), (.ref b2), (.int 0), (.ref ar)])) rfl rfl (hb hby d21_20) t (by rw [len_of q7b q7c]; exact k)) t k) ?_
  refine own_vF m T2 22 #[vR ar, vI (0 : Int32), vI (2 : Int32), vI (2 : Int32), vR b2] [(.int 0), (.int 3), (.int 0), (.ref b2), (.int 0), (.ref ar)] (fun t k => XS.iloadN X2.here hx rfl (hb hby d21_21) rfl k) ?_
  refine own_vF m T2 23 #[vR ar, vI (0 : Int32), vI (2 : Int32), vI (2 : Int32), vR b2] [(.int ((3 : Int32) - (0 : Int32))), (.int 0), (.ref b2), (.int 0), (.ref ar)] (fun t k => XS.isub X2.here hx rfl (hb hby d21_22) rfl k) ?_
  rw [show ((3 : Int32) - (0 : Int32)) = (3 : Int32) from by decide]
  refine own_vF m T2 24 #[vR ar, vI (0 : Int32), vI (2 : Int32), vI (2 : Int32), vR b2] [(.int 2), (.int 3), (.int 0), (.ref b2), (.int 0), (.ref ar)] (fun t k => XS.iloadN X2.here hx rfl (hb hby d21_23) rfl k) ?_
  obtain ⟨_, T8, L8, X8, hQ8, st8⟩ := own_callS X2 hx hZ (y := (⟨"java/lang/Math", "min", "(II)I"⟩ : MethodName)) (W := 4) hown (hw _ (own_mt 124 rfl)) (hw _ (own_mt 76 rfl)) (hw _ (own_mt 73 rfl)) (hw _ (own_mt 77 rfl)) (by decide) (rm_Qmin l Z a0 hw (3 : Int32) (2 : Int32) h2 n0 Z6) (by decide) (by decide) e2 (g := (mkF m 24 #[vR ar, vI (0 : Int32), vI (2 : Int32), vI (2 : Int32), vR b2] [(.int 2), (.int 3), (.int 0), (.ref b2), (.int 0), (.ref ar)])) rfl (by rw [hml]; rfl) (argsL := [(.int 3), (.int 2)]) (rest := [(.int 0), (.ref b2), (.int 0), (.ref ar)]) rfl (lenOf pd_II__I rfl) rfl own_w0 (hb hby d21_24) (by decide) (by decide)
  obtain ⟨rfl, N8q, e8⟩ := hQ8
  have N8 := Fr.app N1 N8q
  refine own_vF m T8 27 #[vR ar, vI (0 : Int32), vI (2 : Int32), vI (2 : Int32), vR b2] [(.int (if (2 : Int32) < (3 : Int32) then (2 : Int32) else (3 : Int32))), (.int 0), (.ref b2), (.int 0), (.ref ar)] (fun t k => st8 t k) ?_
  rw [show (if (2 : Int32) < (3 : Int32) then (2 : Int32) else (3 : Int32)) = (2 : Int32) from by decide]
  obtain ⟨T9, h9, L9, X9, e9, N9, K9q, V9, st9⟩ := cpA (us := [(.int v1), (.int v2)]) X8 hx hZ hown (hw _ (own_mt 125 rfl)) (hw _ (own_mt 128 rfl)) (hw _ (own_mt 126 rfl)) (hw _ (own_mt 127 rfl)) e8 f5 V2 (Or.inl ⟨rfl, rfl⟩) (by decide) (by decide) (by decide) (by decide) (by decide) rfl (by decide) N8 gn_b2 (g := (mkF m 27 #[vR ar, vI (0 : Int32), vI (2 : Int32), vI (2 : Int32), vR b2] [(.int 2), (.int 0), (.ref b2), (.int 0), (.ref ar)])) rfl (by rw [hml]; rfl) rfl (hb hby d21_27) (by decide) (W := 0) own_w0 (by decide)
  have V9 : Arv Z h9 b2 k2 .byte (2 : Int32) [(.int v1), (.int v2)] (.int 0) := V9
  subst e9
  have f12 := B2.keep K9q
  have K13 := K6.trans K9q (allS (Or.inr sz_b2) all0)
  refine own_vF m T9 30 #[vR ar, vI (0 : Int32), vI (2 : Int32), vI (2 : Int32), vR b2] [] (fun t k => st9 t k) ?_
  refine own_vF m T9 32 #[vR ar, vI (0 : Int32), vI (2 : Int32), vI (2 : Int32), vR b2] [(.ref b2)] (fun t k => XS.aload X9.here hx rfl (hb hby d21_30) rfl rfl k) ?_
  exact own_ret X9 (v := some (.ref b2)) (fun h => by rw [hret] at h; cases h) hlk (fun fs hr => retOut X9 hx (t := (.array .byte)) hret rfl (Or.inr (Or.inr (Or.inr (Or.inr ⟨rfl, rfl, rfl⟩)))) (hb hby d21_32) hr) (by exact ⟨b2, _, rfl, N9, K13, f12, V9⟩) (by decide) (by decide)
def Qcr32 (Z : State) (ar : Addr) (kk : ClassId) (v1 v2 v3 : Int32) (h0 : Heap) (n0 : Nat) (v : Option Value) (h : Heap) (L : List Loc) : Prop := ∃ r kr, v = some (.ref r) ∧ Fr n0 L ∧ Keep h0 h [] ∧ Exa Z h r "[B" ∧ Arv Z h r kr .byte (2 : Int32) [.int v1, .int v2] (.int 0)
set_option maxRecDepth 65536 in
set_option maxHeartbeats 40000000 in
theorem rm_Qcr32 (l : Launch) (Z : State) (a0 : Array Value) (hw : ∀ d ∈ tables_1, d.before a0 Z = true) (ar : Addr) (kk : ClassId) (v1 v2 v3 : Int32) (h0 : Heap) (n0 : Nat) (Z0 : n0 ≤ h0.size) (Ea : Exa Z h0 ar "[B") (Va : Arv Z h0 ar kk .byte (3 : Int32) [(.int v1), (.int v2), (.int v3)] (.int 0)) :
    own_MG l Z ((⟨"java/util/Arrays", "copyOfRange", "([BII)[B"⟩ : MethodName)) jdk_65_method_132_code 3 (some (.array .byte)) ({ frames := 2, cells := 1, slots := 2, locals := 76 } : Room) #[(.ref ar), (.int 0), (.int 2)] h0 (Qcr32 Z ar kk v1 v2 v3 h0 n0) := by
  refine own_mkG (plainFor_of_name pn_java_util_Arrays) ?_
  intro p e s m below meth c s₁ X0 hx hby hml hown hnm hret hlk hZ e0
  have N0 := Fr.nil n0
  have K0 := Keep.refl h0 []
  rw [ef_RII3 m ar (0 : Int32) (2 : Int32)]
  refine own_vF m s₁ 1 #[vR ar, vI (0 : Int32), vI (2 : Int32)] [(.int 0)] (fun t k => XS.iloadN X0.here hx rfl (hb hby d20_0) rfl k) ?_
  refine own_vF m s₁ 4 #[vR ar, vI (0 : Int32), vI (2 : Int32)] [] (fun t k => XS.ifNo X0.here hx rfl (hb hby d20_1) rfl ((if0 _ _).trans (teq (by decide : ((0 : Int32) = (0 : Int32)))).2) k) ?_
  refine own_vF m s₁ 5 #[vR ar, vI (0 : Int32), vI (2 : Int32)] [(.int 2)] (fun t k => XS.iloadN X0.here hx rfl (hb hby d20_4) rfl k) ?_
  refine own_vF m s₁ 6 #[vR ar, vI (0 : Int32), vI (2 : Int32)] [(.ref ar), (.int 2)] (fun t k => XS.aloadN X0.here hx rfl (hb hby d20_5) rfl rfl k) ?_
  obtain ⟨c1, Ar1, q1a, q1b, q1c, q1d, q1e⟩ := id Va
  refine own_vF m s₁ 7 #[vR ar, vI (0 : Int32), vI (2 : Int32)] [(.int 3), (.int 2)] (fun t k => (fun t k => X0.arraylength hx (by rw [e0]; exact Ar1.1) (State.isArrayOf_alike hZ.alike Ar1.2.1) (g := (mkF m 6 #[vR ar, vI (0 : Int32), vI (2 : Int32)] [(.ref ar), (.int 2)])) rfl rfl (hb hby d20_6) t (by rw [len_of q1b q1c]; exact k)) t k) ?_
  refine own_vF m s₁ 10 #[vR ar, vI (0 : Int32), vI (2 : Int32)] [] (fun t k => XS.icmpNo X0.here hx rfl (hb hby d20_7) rfl (feq (by decide : ¬ ((2 : Int32) = (3 : Int32)))).1 k) ?_
  refine own_vF m s₁ 11 #[vR ar, vI (0 : Int32), vI (2 : Int32)] [(.ref ar)] (fun t k => XS.aloadN X0.here hx rfl (hb hby d20_10) rfl rfl k) ?_
  refine own_vF m s₁ 12 #[vR ar, vI (0 : Int32), vI (2 : Int32)] [(.int 0), (.ref ar)] (fun t k => XS.iloadN X0.here hx rfl (hb hby d20_11) rfl k) ?_
  refine own_vF m s₁ 13 #[vR ar, vI (0 : Int32), vI (2 : Int32)] [(.int 2), (.int 0), (.ref ar)] (fun t k => XS.iloadN X0.here hx rfl (hb hby d20_12) rfl k) ?_
  obtain ⟨_, T2, L2, X2, hQ2, st2⟩ := own_callS X0 hx hZ (y := (⟨"java/util/Arrays", "copyOfRangeByte", "([BII)[B"⟩ : MethodName)) (W := 0) hown (hw _ (own_mt 118 rfl)) (hw _ (own_mt 119 rfl)) (hw _ (own_mt 99 rfl)) (hw _ (own_mt 120 rfl)) (by decide) (rm_Qcy32 l Z a0 hw ar kk v1 v2 v3 h0 n0 Z0 Ea Va) (by decide) (by decide) e0 (g := (mkF m 13 #[vR ar, vI (0 : Int32), vI (2 : Int32)] [(.int 2), (.int 0), (.ref ar)])) rfl (by rw [hml]; rfl) (argsL := [(.ref ar), (.int 0), (.int 2)]) (rest := []) rfl (lenOf pd_ABII__AB rfl) rfl own_w0 (hb hby d20_13) (by decide) (by decide)
  obtain ⟨b2r, kr2, rfl, N2q, K2q, B2, V2⟩ := hQ2
  have N2 := Fr.app N0 N2q
  have K5 := K0.trans K2q all0
  refine own_vF m T2 16 #[vR ar, vI (0 : Int32), vI (2 : Int32)] [(.ref b2r)] (fun t k => st2 t k) ?_
  exact own_ret X2 (v := some (.ref b2r)) (fun h => by rw [hret] at h; cases h) hlk (fun fs hr => retOut X2 hx (t := (.array .byte)) hret rfl (Or.inr (Or.inr (Or.inr (Or.inr ⟨rfl, rfl, rfl⟩)))) (hb hby d20_16) hr) (by exact ⟨b2r, _, rfl, N2, K5, B2, V2⟩) (by decide) (by decide)
def Qcr33 (Z : State) (ar : Addr) (kk : ClassId) (v1 v2 v3 : Int32) (h0 : Heap) (n0 : Nat) (v : Option Value) (h : Heap) (L : List Loc) : Prop := ∃ r kr, v = some (.ref r) ∧ Fr n0 L ∧ Keep h0 h [] ∧ Exa Z h r "[B" ∧ Arv Z h r kr .byte (3 : Int32) [.int v1, .int v2, .int v3] (.int 0)
set_option maxRecDepth 65536 in
set_option maxHeartbeats 40000000 in
theorem rm_Qcr33 (l : Launch) (Z : State) (a0 : Array Value) (hw : ∀ d ∈ tables_1, d.before a0 Z = true) (ar : Addr) (kk : ClassId) (v1 v2 v3 : Int32) (h0 : Heap) (n0 : Nat) (Z0 : n0 ≤ h0.size) (Ea : Exa Z h0 ar "[B") (Va : Arv Z h0 ar kk .byte (3 : Int32) [(.int v1), (.int v2), (.int v3)] (.int 0)) :
    own_MG l Z ((⟨"java/util/Arrays", "copyOfRange", "([BII)[B"⟩ : MethodName)) jdk_65_method_132_code 3 (some (.array .byte)) ({ frames := 1, cells := 1, slots := 3, locals := 14 } : Room) #[(.ref ar), (.int 0), (.int 3)] h0 (Qcr33 Z ar kk v1 v2 v3 h0 n0) := by
  refine own_mkG (plainFor_of_name pn_java_util_Arrays) ?_
  intro p e s m below meth c s₁ X0 hx hby hml hown hnm hret hlk hZ e0
  have N0 := Fr.nil n0
  have K0 := Keep.refl h0 []
  rw [ef_RII3 m ar (0 : Int32) (3 : Int32)]
  refine own_vF m s₁ 1 #[vR ar, vI (0 : Int32), vI (3 : Int32)] [(.int 0)] (fun t k => XS.iloadN X0.here hx rfl (hb hby d20_0) rfl k) ?_
  refine own_vF m s₁ 4 #[vR ar, vI (0 : Int32), vI (3 : Int32)] [] (fun t k => XS.ifNo X0.here hx rfl (hb hby d20_1) rfl ((if0 _ _).trans (teq (by decide : ((0 : Int32) = (0 : Int32)))).2) k) ?_
  refine own_vF m s₁ 5 #[vR ar, vI (0 : Int32), vI (3 : Int32)] [(.int 3)] (fun t k => XS.iloadN X0.here hx rfl (hb hby d20_4) rfl k) ?_
  refine own_vF m s₁ 6 #[vR ar, vI (0 : Int32), vI (3 : Int32)] [(.ref ar), (.int 3)] (fun t k => XS.aloadN X0.here hx rfl (hb hby d20_5) rfl rfl k) ?_
  obtain ⟨c1, Ar1, q1a, q1b, q1c, q1d, q1e⟩ := id Va
  refine own_vF m s₁ 7 #[vR ar, vI (0 : Int32), vI (3 : Int32)] [(.int 3), (.int 3)] (fun t k => (fun t k => X0.arraylength hx (by rw [e0]; exact Ar1.1) (State.isArrayOf_alike hZ.alike Ar1.2.1) (g := (mkF m 6 #[vR ar, vI (0 : Int32), vI (3 : Int32)] [(.ref ar), (.int 3)])) rfl rfl (hb hby d20_6) t (by rw [len_of q1b q1c]; exact k)) t k) ?_
  refine own_vF m s₁ 17 #[vR ar, vI (0 : Int32), vI (3 : Int32)] [] (fun t k => XS.icmpYes X0.here hx rfl (pc0 := 7) (pc' := 17) rfl (hb hby d20_7) rfl (teq (by decide : ((3 : Int32) = (3 : Int32)))).1 (by decide) (by decide) k) ?_
  refine own_vF m s₁ 18 #[vR ar, vI (0 : Int32), vI (3 : Int32)] [(.ref ar)] (fun t k => XS.aloadN X0.here hx rfl (hb hby d20_17) rfl rfl k) ?_
  obtain ⟨T2, h2, X2, e2, E2, V2, B2, st2⟩ := cloneH (hs := []) (vs := [(.int v1), (.int v2), (.int v3)]) (dv := (.int 0)) (z := (3 : Int32)) X0 hx hZ hown (hw _ (own_mt 101 rfl)) (hw _ (own_mt 102 rfl)) (hw _ (own_mt 106 rfl)) (hw _ (own_mt 104 rfl)) (hw _ (own_mt 105 rfl)) (hw _ (own_mt 107 rfl)) e0 Va Ea (g := (mkF m 18 #[vR ar, vI (0 : Int32), vI (3 : Int32)] [(.ref ar)])) rfl (by rw [hml]; rfl) rfl (hb hby d20_18) (by decide) (W := 0) (cap := 3) own_w0 (by decide) (by decide) (by decide) (by decide)
  obtain ⟨b2, g2⟩ : ∃ z, z = h0.size := ⟨_, rfl⟩
  rw [← g2] at V2 B2 st2
  have V2 : Arv Z h2 b2 kk .byte (3 : Int32) [(.int v1), (.int v2), (.int v3)] (.int 0) := V2
  have K6 := K0.ext E2
  refine own_vF m T2 21 #[vR ar, vI (0 : Int32), vI (3 : Int32)] [(.ref b2)] (fun t k => st2 t k) ?_
  obtain ⟨T7, X7, e7, st7⟩ := castY X2 hx hZ hown (hw _ (own_mt 108 rfl)) e2 (Ins.self B2) (g := (mkF m 21 #[vR ar, vI (0 : Int32), vI (3 : Int32)] [(.ref b2)])) rfl rfl (hb hby d20_21)
  refine own_vF m T7 24 #[vR ar, vI (0 : Int32), vI (3 : Int32)] [(.ref b2)] (fun t k => st7 t k) ?_
  exact own_ret X7 (v := some (.ref b2)) (fun h => by rw [hret] at h; cases h) hlk (fun fs hr => retOut X7 hx (t := (.array .byte)) hret rfl (Or.inr (Or.inr (Or.inr (Or.inr ⟨rfl, rfl, rfl⟩)))) (hb hby d20_24) hr) (by rw [e7]; exact ⟨b2, _, rfl, N0, K6, B2, V2⟩) (by decide) (by decide)
def Qcy41 (Z : State) (ar : Addr) (kk : ClassId) (v1 v2 v3 v4 : Int32) (h0 : Heap) (n0 : Nat) (v : Option Value) (h : Heap) (L : List Loc) : Prop := ∃ r kr, v = some (.ref r) ∧ Fr n0 L ∧ Keep h0 h [] ∧ Exa Z h r "[B" ∧ Arv Z h r kr .byte (1 : Int32) [.int v1] (.int 0)
set_option maxRecDepth 65536 in
set_option maxHeartbeats 40000000 in
theorem rm_Qcy41 (l : Launch) (Z : State) (a0 : Array Value) (hw : ∀ d ∈ tables_1, d.before a0 Z = true) (ar : Addr) (kk : ClassId) (v1 v2 v3 v4 : Int32) (h0 : Heap) (n0 : Nat) (Z0 : n0 ≤ h0.size) (Ea : Exa Z h0 ar "[B") (Va : Arv Z h0 ar kk .byte (4 : Int32) [(.int v1), (.int v2), (.int v3), (.int v4)] (.int 0)) :
    own_MG l Z ((⟨"java/util/Arrays", "copyOfRangeByte", "([BII)[B"⟩ : MethodName)) jdk_65_method_133_code 5 (some (.array .byte)) ({ frames := 1, cells := 1, slots := 1, locals := 60 } : Room) #[(.ref ar), (.int 0), (.int 1)] h0 (Qcy41 Z ar kk v1 v2 v3 v4 h0 n0) := by
  refine own_mkG (plainFor_of_name pn_java_util_Arrays) ?_
  intro p e s m below meth c s₁ X0 hx hby hml hown hnm hret hlk hZ e0
  have N0 := Fr.nil n0
  have K0 := Keep.refl h0 []
  rw [ef_RII5 m ar (0 : Int32) (1 : Int32)]
  refine own_vF m s₁ 1 #[vR ar, vI (0 : Int32), vI (1 : Int32), .unset, .unset] [(.int 0)] (fun t k => XS.iloadN X0.here hx rfl (hb hby d21_0) rfl k) ?_
  refine own_vF m s₁ 2 #[vR ar, vI (0 : Int32), vI (1 : Int32), .unset, .unset] [(.int 1), (.int 0)] (fun t k => XS.iloadN X0.here hx rfl (hb hby d21_1) rfl k) ?_
  obtain ⟨_, T1, L1, X1, hQ1, st1⟩ := own_callS X0 hx hZ (y := (⟨"java/util/Arrays", "checkLength", "(II)V"⟩ : MethodName)) (W := 0) hown (hw _ (own_mt 121 rfl)) (hw _ (own_mt 122 rfl)) (hw _ (own_mt 99 rfl)) (hw _ (own_mt 123 rfl)) (by decide) (rm_Qcl l Z a0 hw (1 : Int32) h0 n0 Z0 (by decide)) (by decide) (by decide) e0 (g := (mkF m 2 #[vR ar, vI (0 : Int32), vI (1 : Int32), .unset, .unset] [(.int 1), (.int 0)])) rfl (by rw [hml]; rfl) (argsL := [(.int 0), (.int 1)]) (rest := []) rfl (lenOf pd_II__V rfl) rfl own_w0 (hb hby d21_2) (by decide) (by decide)
  obtain ⟨rfl, N1q, e1⟩ := hQ1
  have N1 := Fr.app N0 N1q
  refine own_vF m T1 5 #[vR ar, vI (0 : Int32), vI (1 : Int32), .unset, .unset] [] (fun t k => st1 t k) ?_
  refine own_vF m T1 6 #[vR ar, vI (0 : Int32), vI (1 : Int32), .unset, .unset] [(.int 1)] (fun t k => XS.iloadN X1.here hx rfl (hb hby d21_5) rfl k) ?_
  refine own_vF m T1 7 #[vR ar, vI (0 : Int32), vI (1 : Int32), .unset, .unset] [(.int 0), (.int 1)] (fun t k => XS.iloadN X1.here hx rfl (hb hby d21_6) rfl k) ?_
  refine own_vF m T1 8 #[vR ar, vI (0 : Int32), vI (1 : Int32), .unset, .unset] [(.int ((1 : Int32) - (0 : Int32)))] (fun t k => XS.isub X1.here hx rfl (hb hby d21_7) rfl k) ?_
  rw [show ((1 : Int32) - (0 : Int32)) = (1 : Int32) from by decide]
  refine own_vF m T1 9 #[vR ar, vI (0 : Int32), vI (1 : Int32), vI (1 : Int32), .unset] [] (fun t k => XS.istoreN X1.here hx rfl (hb hby d21_8) rfl (l' := #[vR ar, vI (0 : Int32), vI (1 : Int32), vI (1 : Int32), .unset]) rfl k) ?_
  refine own_vF m T1 10 #[vR ar, vI (0 : Int32), vI (1 : Int32), vI (1 : Int32), .unset] [(.int 1)] (fun t k => XS.iloadN X1.here hx rfl (hb hby d21_9) rfl k) ?_
  obtain ⟨T2, h2, k2, X2, e2, E2, A2, B2, st2⟩ := newPE X1 hx hZ (hw _ (own_mt 5 rfl)) e1 (g := (mkF m 10 #[vR ar, vI (0 : Int32), vI (1 : Int32), vI (1 : Int32), .unset] [(.int 1)])) rfl (hb hby d21_10) rfl (by decide) (cap := 1) (by decide) (by decide) (by decide) (by decide) (ad := "[B") (by decide)
  obtain ⟨b2, g2⟩ : ∃ z, z = h0.size := ⟨_, rfl⟩
  rw [← g2] at A2 st2 B2
  have gn_b2 : n0 ≤ b2 := Nat.le_trans Z0 (Nat.le_of_eq g2.symm)
  have sz_b2 : h0.size ≤ b2 := Nat.le_trans K0.1 (Nat.le_of_eq g2.symm)
  have f5 := Va.ext E2
  have V2 : Arv Z h2 b2 k2 .byte (1 : Int32) [(.int 0)] (.int 0) := (Arv.new A2 (by decide)).pad (pad_rep [] (.int 0) 1)
  have Z6 : n0 ≤ h2.size := Nat.le_trans Z0 E2.1
  have K6 := K0.ext E2
  refine own_vF m T2 12 #[vR ar, vI (0 : Int32), vI (1 : Int32), vI (1 : Int32), .unset] [(.ref b2)] (fun t k => st2 t k) ?_
  refine own_vF m T2 14 #[vR ar, vI (0 : Int32), vI (1 : Int32), vI (1 : Int32), vR b2] [] (fun t k => XS.astore X2.here hx rfl (hb hby d21_12) rfl rfl (l' := #[vR ar, vI (0 : Int32), vI (1 : Int32), vI (1 : Int32), vR b2]) rfl k) ?_
  refine own_vF m T2 15 #[vR ar, vI (0 : Int32), vI (1 : Int32), vI (1 : Int32), vR b2] [(.ref ar)] (fun t k => XS.aloadN X2.here hx rfl (hb hby d21_14) rfl rfl k) ?_
  refine own_vF m T2 16 #[vR ar, vI (0 : Int32), vI (1 : Int32), vI (1 : Int32), vR b2] [(.int 0), (.ref ar)] (fun t k => XS.iloadN X2.here hx rfl (hb hby d21_15) rfl k) ?_
  refine own_vF m T2 18 #[vR ar, vI (0 : Int32), vI (1 : Int32), vI (1 : Int32), vR b2] [(.ref b2), (.int 0), (.ref ar)] (fun t k => XS.aload X2.here hx rfl (hb hby d21_16) rfl rfl k) ?_
  refine own_vF m T2 19 #[vR ar, vI (0 : Int32), vI (1 : Int32), vI (1 : Int32), vR b2] [(.int 0), (.ref b2), (.int 0), (.ref ar)] (fun t k => XS.iconst X2.here hx rfl (hb hby d21_18) k) ?_
  refine own_vF m T2 20 #[vR ar, vI (0 : Int32), vI (1 : Int32), vI (1 : Int32), vR b2] [(.ref ar), (.int 0), (.ref b2), (.int 0), (.ref ar)] (fun t k => XS.aloadN X2.here hx rfl (hb hby d21_19) rfl rfl k) ?_
  obtain ⟨c7, Ar7, q7a, q7b, q7c, q7d, q7e⟩ := id f5
  refine own_vF m T2 21 #[vR ar, vI (0 : Int32), vI (1 : Int32), vI (1 : Int32), vR b2] [(.int 4), (.int 0), (.ref b2), (.int 0), (.ref ar)] (fun t k => (fun t k => X2.arraylength hx (by rw [e2]; exact Ar7.1) (State.isArrayOf_alike hZ.alike Ar7.2.1) (g := (mkF m 20 #[vR ar, vI (0 : Int32), vI (1 : Int32), vI (1 : Int32), vR b2] [(.ref ar), (.int 0), (.ref b2), (.int 0), (.ref ar)])) rfl rfl (hb hby d21_20) t (by rw [len_of q7b q7c]; exact k)) t k) ?_
  refine own_vF m T2 22 #[vR ar, vI (0 : Int32), vI (1 : Int32), vI (1 : Int32), vR b2] [(.int 0), (.int 4), (.int 0), (.ref b2), (.int 0), (.ref ar)] (fun t k => XS.iloadN X2.here hx rfl (hb hby d21_21) rfl k) ?_
  refine own_vF m T2 23 #[vR ar, vI (0 : Int32), vI (1 : Int32), vI (1 : Int32), vR b2] [(.int ((4 : Int32) - (0 : Int32))), (.int 0), (.ref b2), (.int 0), (.ref ar)] (fun t k => XS.isub X2.here hx rfl (hb hby d21_22) rfl k) ?_
  rw [show ((4 : Int32) - (0 : Int32)) = (4 : Int32) from by decide]
  refine own_vF m T2 24 #[vR ar, vI (0 : Int32), vI (1 : Int32), vI (1 : Int32), vR b2] [(.int 1), (.int 4), (.int 0), (.ref b2), (.int 0), (.ref ar)] (fun t k => XS.iloadN X2.here hx rfl (hb hby d21_23) rfl k) ?_
  obtain ⟨_, T8, L8, X8, hQ8, st8⟩ := own_callS X2 hx hZ (y := (⟨"java/lang/Math", "min", "(II)I"⟩ : MethodName)) (W := 4) hown (hw _ (own_mt 124 rfl)) (hw _ (own_mt 76 rfl)) (hw _ (own_mt 73 rfl)) (hw _ (own_mt 77 rfl)) (by decide) (rm_Qmin l Z a0 hw (4 : Int32) (1 : Int32) h2 n0 Z6) (by decide) (by decide) e2 (g := (mkF m 24 #[vR ar, vI (0 : Int32), vI (1 : Int32), vI (1 : Int32), vR b2] [(.int 1), (.int 4), (.int 0), (.ref b2), (.int 0), (.ref ar)])) rfl (by rw [hml]; rfl) (argsL := [(.int 4), (.int 1)]) (rest := [(.int 0), (.ref b2), (.int 0), (.ref ar)]) rfl (lenOf pd_II__I rfl) rfl own_w0 (hb hby d21_24) (by decide) (by decide)
  obtain ⟨rfl, N8q, e8⟩ := hQ8
  have N8 := Fr.app N1 N8q
  refine own_vF m T8 27 #[vR ar, vI (0 : Int32), vI (1 : Int32), vI (1 : Int32), vR b2] [(.int (if (1 : Int32) < (4 : Int32) then (1 : Int32) else (4 : Int32))), (.int 0), (.ref b2), (.int 0), (.ref ar)] (fun t k => st8 t k) ?_
  rw [show (if (1 : Int32) < (4 : Int32) then (1 : Int32) else (4 : Int32)) = (1 : Int32) from by decide]
  obtain ⟨T9, h9, L9, X9, e9, N9, K9q, V9, st9⟩ := cpA (us := [(.int v1)]) X8 hx hZ hown (hw _ (own_mt 125 rfl)) (hw _ (own_mt 128 rfl)) (hw _ (own_mt 126 rfl)) (hw _ (own_mt 127 rfl)) e8 f5 V2 (Or.inl ⟨rfl, rfl⟩) (by decide) (by decide) (by decide) (by decide) (by decide) rfl (by decide) N8 gn_b2 (g := (mkF m 27 #[vR ar, vI (0 : Int32), vI (1 : Int32), vI (1 : Int32), vR b2] [(.int 1), (.int 0), (.ref b2), (.int 0), (.ref ar)])) rfl (by rw [hml]; rfl) rfl (hb hby d21_27) (by decide) (W := 0) own_w0 (by decide)
  have V9 : Arv Z h9 b2 k2 .byte (1 : Int32) [(.int v1)] (.int 0) := V9
  subst e9
  have f12 := B2.keep K9q
  have K13 := K6.trans K9q (allS (Or.inr sz_b2) all0)
  refine own_vF m T9 30 #[vR ar, vI (0 : Int32), vI (1 : Int32), vI (1 : Int32), vR b2] [] (fun t k => st9 t k) ?_
  refine own_vF m T9 32 #[vR ar, vI (0 : Int32), vI (1 : Int32), vI (1 : Int32), vR b2] [(.ref b2)] (fun t k => XS.aload X9.here hx rfl (hb hby d21_30) rfl rfl k) ?_
  exact own_ret X9 (v := some (.ref b2)) (fun h => by rw [hret] at h; cases h) hlk (fun fs hr => retOut X9 hx (t := (.array .byte)) hret rfl (Or.inr (Or.inr (Or.inr (Or.inr ⟨rfl, rfl, rfl⟩)))) (hb hby d21_32) hr) (by exact ⟨b2, _, rfl, N9, K13, f12, V9⟩) (by decide) (by decide)
def Qcr41 (Z : State) (ar : Addr) (kk : ClassId) (v1 v2 v3 v4 : Int32) (h0 : Heap) (n0 : Nat) (v : Option Value) (h : Heap) (L : List Loc) : Prop := ∃ r kr, v = some (.ref r) ∧ Fr n0 L ∧ Keep h0 h [] ∧ Exa Z h r "[B" ∧ Arv Z h r kr .byte (1 : Int32) [.int v1] (.int 0)
set_option maxRecDepth 65536 in
set_option maxHeartbeats 40000000 in
theorem rm_Qcr41 (l : Launch) (Z : State) (a0 : Array Value) (hw : ∀ d ∈ tables_1, d.before a0 Z = true) (ar : Addr) (kk : ClassId) (v1 v2 v3 v4 : Int32) (h0 : Heap) (n0 : Nat) (Z0 : n0 ≤ h0.size) (Ea : Exa Z h0 ar "[B") (Va : Arv Z h0 ar kk .byte (4 : Int32) [(.int v1), (.int v2), (.int v3), (.int v4)] (.int 0)) :
    own_MG l Z ((⟨"java/util/Arrays", "copyOfRange", "([BII)[B"⟩ : MethodName)) jdk_65_method_132_code 3 (some (.array .byte)) ({ frames := 2, cells := 1, slots := 1, locals := 76 } : Room) #[(.ref ar), (.int 0), (.int 1)] h0 (Qcr41 Z ar kk v1 v2 v3 v4 h0 n0) := by
  refine own_mkG (plainFor_of_name pn_java_util_Arrays) ?_
  intro p e s m below meth c s₁ X0 hx hby hml hown hnm hret hlk hZ e0
  have N0 := Fr.nil n0
  have K0 := Keep.refl h0 []
  rw [ef_RII3 m ar (0 : Int32) (1 : Int32)]
  refine own_vF m s₁ 1 #[vR ar, vI (0 : Int32), vI (1 : Int32)] [(.int 0)] (fun t k => XS.iloadN X0.here hx rfl (hb hby d20_0) rfl k) ?_
  refine own_vF m s₁ 4 #[vR ar, vI (0 : Int32), vI (1 : Int32)] [] (fun t k => XS.ifNo X0.here hx rfl (hb hby d20_1) rfl ((if0 _ _).trans (teq (by decide : ((0 : Int32) = (0 : Int32)))).2) k) ?_
  refine own_vF m s₁ 5 #[vR ar, vI (0 : Int32), vI (1 : Int32)] [(.int 1)] (fun t k => XS.iloadN X0.here hx rfl (hb hby d20_4) rfl k) ?_
  refine own_vF m s₁ 6 #[vR ar, vI (0 : Int32), vI (1 : Int32)] [(.ref ar), (.int 1)] (fun t k => XS.aloadN X0.here hx rfl (hb hby d20_5) rfl rfl k) ?_
  obtain ⟨c1, Ar1, q1a, q1b, q1c, q1d, q1e⟩ := id Va
  refine own_vF m s₁ 7 #[vR ar, vI (0 : Int32), vI (1 : Int32)] [(.int 4), (.int 1)] (fun t k => (fun t k => X0.arraylength hx (by rw [e0]; exact Ar1.1) (State.isArrayOf_alike hZ.alike Ar1.2.1) (g := (mkF m 6 #[vR ar, vI (0 : Int32), vI (1 : Int32)] [(.ref ar), (.int 1)])) rfl rfl (hb hby d20_6) t (by rw [len_of q1b q1c]; exact k)) t k) ?_
  refine own_vF m s₁ 10 #[vR ar, vI (0 : Int32), vI (1 : Int32)] [] (fun t k => XS.icmpNo X0.here hx rfl (hb hby d20_7) rfl (feq (by decide : ¬ ((1 : Int32) = (4 : Int32)))).1 k) ?_
  refine own_vF m s₁ 11 #[vR ar, vI (0 : Int32), vI (1 : Int32)] [(.ref ar)] (fun t k => XS.aloadN X0.here hx rfl (hb hby d20_10) rfl rfl k) ?_
  refine own_vF m s₁ 12 #[vR ar, vI (0 : Int32), vI (1 : Int32)] [(.int 0), (.ref ar)] (fun t k => XS.iloadN X0.here hx rfl (hb hby d20_11) rfl k) ?_
  refine own_vF m s₁ 13 #[vR ar, vI (0 : Int32), vI (1 : Int32)] [(.int 1), (.int 0), (.ref ar)] (fun t k => XS.iloadN X0.here hx rfl (hb hby d20_12) rfl k) ?_
  obtain ⟨_, T2, L2, X2, hQ2, st2⟩ := own_callS X0 hx hZ (y := (⟨"java/util/Arrays", "copyOfRangeByte", "([BII)[B"⟩ : MethodName)) (W := 0) hown (hw _ (own_mt 118 rfl)) (hw _ (own_mt 119 rfl)) (hw _ (own_mt 99 rfl)) (hw _ (own_mt 120 rfl)) (by decide) (rm_Qcy41 l Z a0 hw ar kk v1 v2 v3 v4 h0 n0 Z0 Ea Va) (by decide) (by decide) e0 (g := (mkF m 13 #[vR ar, vI (0 : Int32), vI (1 : Int32)] [(.int 1), (.int 0), (.ref ar)])) rfl (by rw [hml]; rfl) (argsL := [(.ref ar), (.int 0), (.int 1)]) (rest := []) rfl (lenOf pd_ABII__AB rfl) rfl own_w0 (hb hby d20_13) (by decide) (by decide)
  obtain ⟨b2r, kr2, rfl, N2q, K2q, B2, V2⟩ := hQ2
  have N2 := Fr.app N0 N2q
  have K5 := K0.trans K2q all0
  refine own_vF m T2 16 #[vR ar, vI (0 : Int32), vI (1 : Int32)] [(.ref b2r)] (fun t k => st2 t k) ?_
  exact own_ret X2 (v := some (.ref b2r)) (fun h => by rw [hret] at h; cases h) hlk (fun fs hr => retOut X2 hx (t := (.array .byte)) hret rfl (Or.inr (Or.inr (Or.inr (Or.inr ⟨rfl, rfl, rfl⟩)))) (hb hby d20_16) hr) (by exact ⟨b2r, _, rfl, N2, K5, B2, V2⟩) (by decide) (by decide)
def Qcy42 (Z : State) (ar : Addr) (kk : ClassId) (v1 v2 v3 v4 : Int32) (h0 : Heap) (n0 : Nat) (v : Option Value) (h : Heap) (L : List Loc) : Prop := ∃ r kr, v = some (.ref r) ∧ Fr n0 L ∧ Keep h0 h [] ∧ Exa Z h r "[B" ∧ Arv Z h r kr .byte (2 : Int32) [.int v1, .int v2] (.int 0)
set_option maxRecDepth 65536 in
set_option maxHeartbeats 40000000 in
theorem rm_Qcy42 (l : Launch) (Z : State) (a0 : Array Value) (hw : ∀ d ∈ tables_1, d.before a0 Z = true) (ar : Addr) (kk : ClassId) (v1 v2 v3 v4 : Int32) (h0 : Heap) (n0 : Nat) (Z0 : n0 ≤ h0.size) (Ea : Exa Z h0 ar "[B") (Va : Arv Z h0 ar kk .byte (4 : Int32) [(.int v1), (.int v2), (.int v3), (.int v4)] (.int 0)) :
    own_MG l Z ((⟨"java/util/Arrays", "copyOfRangeByte", "([BII)[B"⟩ : MethodName)) jdk_65_method_133_code 5 (some (.array .byte)) ({ frames := 1, cells := 1, slots := 2, locals := 60 } : Room) #[(.ref ar), (.int 0), (.int 2)] h0 (Qcy42 Z ar kk v1 v2 v3 v4 h0 n0) := by
  refine own_mkG (plainFor_of_name pn_java_util_Arrays) ?_
  intro p e s m below meth c s₁ X0 hx hby hml hown hnm hret hlk hZ e0
  have N0 := Fr.nil n0
  have K0 := Keep.refl h0 []
  rw [ef_RII5 m ar (0 : Int32) (2 : Int32)]
  refine own_vF m s₁ 1 #[vR ar, vI (0 : Int32), vI (2 : Int32), .unset, .unset] [(.int 0)] (fun t k => XS.iloadN X0.here hx rfl (hb hby d21_0) rfl k) ?_
  refine own_vF m s₁ 2 #[vR ar, vI (0 : Int32), vI (2 : Int32), .unset, .unset] [(.int 2), (.int 0)] (fun t k => XS.iloadN X0.here hx rfl (hb hby d21_1) rfl k) ?_
  obtain ⟨_, T1, L1, X1, hQ1, st1⟩ := own_callS X0 hx hZ (y := (⟨"java/util/Arrays", "checkLength", "(II)V"⟩ : MethodName)) (W := 0) hown (hw _ (own_mt 121 rfl)) (hw _ (own_mt 122 rfl)) (hw _ (own_mt 99 rfl)) (hw _ (own_mt 123 rfl)) (by decide) (rm_Qcl l Z a0 hw (2 : Int32) h0 n0 Z0 (by decide)) (by decide) (by decide) e0 (g := (mkF m 2 #[vR ar, vI (0 : Int32), vI (2 : Int32), .unset, .unset] [(.int 2), (.int 0)])) rfl (by rw [hml]; rfl) (argsL := [(.int 0), (.int 2)]) (rest := []) rfl (lenOf pd_II__V rfl) rfl own_w0 (hb hby d21_2) (by decide) (by decide)
  obtain ⟨rfl, N1q, e1⟩ := hQ1
  have N1 := Fr.app N0 N1q
  refine own_vF m T1 5 #[vR ar, vI (0 : Int32), vI (2 : Int32), .unset, .unset] [] (fun t k => st1 t k) ?_
  refine own_vF m T1 6 #[vR ar, vI (0 : Int32), vI (2 : Int32), .unset, .unset] [(.int 2)] (fun t k => XS.iloadN X1.here hx rfl (hb hby d21_5) rfl k) ?_
  refine own_vF m T1 7 #[vR ar, vI (0 : Int32), vI (2 : Int32), .unset, .unset] [(.int 0), (.int 2)] (fun t k => XS.iloadN X1.here hx rfl (hb hby d21_6) rfl k) ?_
  refine own_vF m T1 8 #[vR ar, vI (0 : Int32), vI (2 : Int32), .unset, .unset] [(.int ((2 : Int32) - (0 : Int32)))] (fun t k => XS.isub X1.here hx rfl (hb hby d21_7) rfl k) ?_
  rw [show ((2 : Int32) - (0 : Int32)) = (2 : Int32) from by decide]
  refine own_vF m T1 9 #[vR ar, vI (0 : Int32), vI (2 : Int32), vI (2 : Int32), .unset] [] (fun t k => XS.istoreN X1.here hx rfl (hb hby d21_8) rfl (l' := #[vR ar, vI (0 : Int32), vI (2 : Int32), vI (2 : Int32), .unset]) rfl k) ?_
  refine own_vF m T1 10 #[vR ar, vI (0 : Int32), vI (2 : Int32), vI (2 : Int32), .unset] [(.int 2)] (fun t k => XS.iloadN X1.here hx rfl (hb hby d21_9) rfl k) ?_
  obtain ⟨T2, h2, k2, X2, e2, E2, A2, B2, st2⟩ := newPE X1 hx hZ (hw _ (own_mt 5 rfl)) e1 (g := (mkF m 10 #[vR ar, vI (0 : Int32), vI (2 : Int32), vI (2 : Int32), .unset] [(.int 2)])) rfl (hb hby d21_10) rfl (by decide) (cap := 2) (by decide) (by decide) (by decide) (by decide) (ad := "[B") (by decide)
  obtain ⟨b2, g2⟩ : ∃ z, z = h0.size := ⟨_, rfl⟩
  rw [← g2] at A2 st2 B2
  have gn_b2 : n0 ≤ b2 := Nat.le_trans Z0 (Nat.le_of_eq g2.symm)
  have sz_b2 : h0.size ≤ b2 := Nat.le_trans K0.1 (Nat.le_of_eq g2.symm)
  have f5 := Va.ext E2
  have V2 : Arv Z h2 b2 k2 .byte (2 : Int32) [(.int 0), (.int 0)] (.int 0) := (Arv.new A2 (by decide)).pad (pad_rep [] (.int 0) 2)
  have Z6 : n0 ≤ h2.size := Nat.le_trans Z0 E2.1
  have K6 := K0.ext E2
  refine own_vF m T2 12 #[vR ar, vI (0 : Int32), vI (2 : Int32), vI (2 : Int32), .unset] [(.ref b2)] (fun t k => st2 t k) ?_
  refine own_vF m T2 14 #[vR ar, vI (0 : Int32), vI (2 : Int32), vI (2 : Int32), vR b2] [] (fun t k => XS.astore X2.here hx rfl (hb hby d21_12) rfl rfl (l' := #[vR ar, vI (0 : Int32), vI (2 : Int32), vI (2 : Int32), vR b2]) rfl k) ?_
  refine own_vF m T2 15 #[vR ar, vI (0 : Int32), vI (2 : Int32), vI (2 : Int32), vR b2] [(.ref ar)] (fun t k => XS.aloadN X2.here hx rfl (hb hby d21_14) rfl rfl k) ?_
  refine own_vF m T2 16 #[vR ar, vI (0 : Int32), vI (2 : Int32), vI (2 : Int32), vR b2] [(.int 0), (.ref ar)] (fun t k => XS.iloadN X2.here hx rfl (hb hby d21_15) rfl k) ?_
  refine own_vF m T2 18 #[vR ar, vI (0 : Int32), vI (2 : Int32), vI (2 : Int32), vR b2] [(.ref b2), (.int 0), (.ref ar)] (fun t k => XS.aload X2.here hx rfl (hb hby d21_16) rfl rfl k) ?_
  refine own_vF m T2 19 #[vR ar, vI (0 : Int32), vI (2 : Int32), vI (2 : Int32), vR b2] [(.int 0), (.ref b2), (.int 0), (.ref ar)] (fun t k => XS.iconst X2.here hx rfl (hb hby d21_18) k) ?_
  refine own_vF m T2 20 #[vR ar, vI (0 : Int32), vI (2 : Int32), vI (2 : Int32), vR b2] [(.ref ar), (.int 0), (.ref b2), (.int 0), (.ref ar)] (fun t k => XS.aloadN X2.here hx rfl (hb hby d21_19) rfl rfl k) ?_
  obtain ⟨c7, Ar7, q7a, q7b, q7c, q7d, q7e⟩ := id f5
  refine own_vF m T2 21 #[vR ar, vI (0 : Int32), vI (2 : Int32), vI (2 : Int32), vR b2] [(.int 4), (.int 0), (.ref b2), (.int 0), (.ref ar)] (fun t k => (fun t k => X2.arraylength hx (by rw [e2]; exact Ar7.1) (State.isArrayOf_alike hZ.alike Ar7.2.1) (g := (mkF m 20 #[vR ar, vI (0 : Int32), vI (2 : Int32), vI (2 : Int32), vR b2] [(.ref ar), (.int 0), (.ref b2), (.int 0), (.ref ar)])) rfl rfl (hb hby d21_20) t (by rw [len_of q7b q7c]; exact k)) t k) ?_
  refine own_vF m T2 22 #[vR ar, vI (0 : Int32), vI (2 : Int32), vI (2 : Int32), vR b2] [(.int 0), (.int 4), (.int 0), (.ref b2), (.int 0), (.ref ar)] (fun t k => XS.iloadN X2.here hx rfl (hb hby d21_21) rfl k) ?_
  refine own_vF m T2 23 #[vR ar, vI (0 : Int32), vI (2 : Int32), vI (2 : Int32), vR b2] [(.int ((4 : Int32) - (0 : Int32))), (.int 0), (.ref b2), (.int 0), (.ref ar)] (fun t k => XS.isub X2.here hx rfl (hb hby d21_22) rfl k) ?_
  rw [show ((4 : Int32) - (0 : Int32)) = (4 : Int32) from by decide]
  refine own_vF m T2 24 #[vR ar, vI (0 : Int32), vI (2 : Int32), vI (2 : Int32), vR b2] [(.int 2), (.int 4), (.int 0), (.ref b2), (.int 0), (.ref ar)] (fun t k => XS.iloadN X2.here hx rfl (hb hby d21_23) rfl k) ?_
  obtain ⟨_, T8, L8, X8, hQ8, st8⟩ := own_callS X2 hx hZ (y := (⟨"java/lang/Math", "min", "(II)I"⟩ : MethodName)) (W := 4) hown (hw _ (own_mt 124 rfl)) (hw _ (own_mt 76 rfl)) (hw _ (own_mt 73 rfl)) (hw _ (own_mt 77 rfl)) (by decide) (rm_Qmin l Z a0 hw (4 : Int32) (2 : Int32) h2 n0 Z6) (by decide) (by decide) e2 (g := (mkF m 24 #[vR ar, vI (0 : Int32), vI (2 : Int32), vI (2 : Int32), vR b2] [(.int 2), (.int 4), (.int 0), (.ref b2), (.int 0), (.ref ar)])) rfl (by rw [hml]; rfl) (argsL := [(.int 4), (.int 2)]) (rest := [(.int 0), (.ref b2), (.int 0), (.ref ar)]) rfl (lenOf pd_II__I rfl) rfl own_w0 (hb hby d21_24) (by decide) (by decide)
  obtain ⟨rfl, N8q, e8⟩ := hQ8
  have N8 := Fr.app N1 N8q
  refine own_vF m T8 27 #[vR ar, vI (0 : Int32), vI (2 : Int32), vI (2 : Int32), vR b2] [(.int (if (2 : Int32) < (4 : Int32) then (2 : Int32) else (4 : Int32))), (.int 0), (.ref b2), (.int 0), (.ref ar)] (fun t k => st8 t k) ?_
  rw [show (if (2 : Int32) < (4 : Int32) then (2 : Int32) else (4 : Int32)) = (2 : Int32) from by decide]
  obtain ⟨T9, h9, L9, X9, e9, N9, K9q, V9, st9⟩ := cpA (us := [(.int v1), (.int v2)]) X8 hx hZ hown (hw _ (own_mt 125 rfl)) (hw _ (own_mt 128 rfl)) (hw _ (own_mt 126 rfl)) (hw _ (own_mt 127 rfl)) e8 f5 V2 (Or.inl ⟨rfl, rfl⟩) (by decide) (by decide) (by decide) (by decide) (by decide) rfl (by decide) N8 gn_b2 (g := (mkF m 27 #[vR ar, vI (0 : Int32), vI (2 : Int32), vI (2 : Int32), vR b2] [(.int 2), (.int 0), (.ref b2), (.int 0), (.ref ar)])) rfl (by rw [hml]; rfl) rfl (hb hby d21_27) (by decide) (W := 0) own_w0 (by decide)
  have V9 : Arv Z h9 b2 k2 .byte (2 : Int32) [(.int v1), (.int v2)] (.int 0) := V9
  subst e9
  have f12 := B2.keep K9q
  have K13 := K6.trans K9q (allS (Or.inr sz_b2) all0)
  refine own_vF m T9 30 #[vR ar, vI (0 : Int32), vI (2 : Int32), vI (2 : Int32), vR b2] [] (fun t k => st9 t k) ?_
  refine own_vF m T9 32 #[vR ar, vI (0 : Int32), vI (2 : Int32), vI (2 : Int32), vR b2] [(.ref b2)] (fun t k => XS.aload X9.here hx rfl (hb hby d21_30) rfl rfl k) ?_
  exact own_ret X9 (v := some (.ref b2)) (fun h => by rw [hret] at h; cases h) hlk (fun fs hr => retOut X9 hx (t := (.array .byte)) hret rfl (Or.inr (Or.inr (Or.inr (Or.inr ⟨rfl, rfl, rfl⟩)))) (hb hby d21_32) hr) (by exact ⟨b2, _, rfl, N9, K13, f12, V9⟩) (by decide) (by decide)
def Qcr42 (Z : State) (ar : Addr) (kk : ClassId) (v1 v2 v3 v4 : Int32) (h0 : Heap) (n0 : Nat) (v : Option Value) (h : Heap) (L : List Loc) : Prop := ∃ r kr, v = some (.ref r) ∧ Fr n0 L ∧ Keep h0 h [] ∧ Exa Z h r "[B" ∧ Arv Z h r kr .byte (2 : Int32) [.int v1, .int v2] (.int 0)
set_option maxRecDepth 65536 in
set_option maxHeartbeats 40000000 in
theorem rm_Qcr42 (l : Launch) (Z : State) (a0 : Array Value) (hw : ∀ d ∈ tables_1, d.before a0 Z = true) (ar : Addr) (kk : ClassId) (v1 v2 v3 v4 : Int32) (h0 : Heap) (n0 : Nat) (Z0 : n0 ≤ h0.size) (Ea : Exa Z h0 ar "[B") (Va : Arv Z h0 ar kk .byte (4 : Int32) [(.int v1), (.int v2), (.int v3), (.int v4)] (.int 0)) :
    own_MG l Z ((⟨"java/util/Arrays", "copyOfRange", "([BII)[B"⟩ : MethodName)) jdk_65_method_132_code 3 (some (.array .byte)) ({ frames := 2, cells := 1, slots := 2, locals := 76 } : Room) #[(.ref ar), (.int 0), (.int 2)] h0 (Qcr42 Z ar kk v1 v2 v3 v4 h0 n0) := by
  refine own_mkG (plainFor_of_name pn_java_util_Arrays) ?_
  intro p e s m below meth c s₁ X0 hx hby hml hown hnm hret hlk hZ e0
  have N0 := Fr.nil n0
  have K0 := Keep.refl h0 []
  rw [ef_RII3 m ar (0 : Int32) (2 : Int32)]
  refine own_vF m s₁ 1 #[vR ar, vI (0 : Int32), vI (2 : Int32)] [(.int 0)] (fun t k => XS.iloadN X0.here hx rfl (hb hby d20_0) rfl k) ?_
  refine own_vF m s₁ 4 #[vR ar, vI (0 : Int32), vI (2 : Int32)] [] (fun t k => XS.ifNo X0.here hx rfl (hb hby d20_1) rfl ((if0 _ _).trans (teq (by decide : ((0 : Int32) = (0 : Int32)))).2) k) ?_
  refine own_vF m s₁ 5 #[vR ar, vI (0 : Int32), vI (2 : Int32)] [(.int 2)] (fun t k => XS.iloadN X0.here hx rfl (hb hby d20_4) rfl k) ?_
  refine own_vF m s₁ 6 #[vR ar, vI (0 : Int32), vI (2 : Int32)] [(.ref ar), (.int 2)] (fun t k => XS.aloadN X0.here hx rfl (hb hby d20_5) rfl rfl k) ?_
  obtain ⟨c1, Ar1, q1a, q1b, q1c, q1d, q1e⟩ := id Va
  refine own_vF m s₁ 7 #[vR ar, vI (0 : Int32), vI (2 : Int32)] [(.int 4), (.int 2)] (fun t k => (fun t k => X0.arraylength hx (by rw [e0]; exact Ar1.1) (State.isArrayOf_alike hZ.alike Ar1.2.1) (g := (mkF m 6 #[vR ar, vI (0 : Int32), vI (2 : Int32)] [(.ref ar), (.int 2)])) rfl rfl (hb hby d20_6) t (by rw [len_of q1b q1c]; exact k)) t k) ?_
  refine own_vF m s₁ 10 #[vR ar, vI (0 : Int32), vI (2 : Int32)] [] (fun t k => XS.icmpNo X0.here hx rfl (hb hby d20_7) rfl (feq (by decide : ¬ ((2 : Int32) = (4 : Int32)))).1 k) ?_
  refine own_vF m s₁ 11 #[vR ar, vI (0 : Int32), vI (2 : Int32)] [(.ref ar)] (fun t k => XS.aloadN X0.here hx rfl (hb hby d20_10) rfl rfl k) ?_
  refine own_vF m s₁ 12 #[vR ar, vI (0 : Int32), vI (2 : Int32)] [(.int 0), (.ref ar)] (fun t k => XS.iloadN X0.here hx rfl (hb hby d20_11) rfl k) ?_
  refine own_vF m s₁ 13 #[vR ar, vI (0 : Int32), vI (2 : Int32)] [(.int 2), (.int 0), (.ref ar)] (fun t k => XS.iloadN X0.here hx rfl (hb hby d20_12) rfl k) ?_
  obtain ⟨_, T2, L2, X2, hQ2, st2⟩ := own_callS X0 hx hZ (y := (⟨"java/util/Arrays", "copyOfRangeByte", "([BII)[B"⟩ : MethodName)) (W := 0) hown (hw _ (own_mt 118 rfl)) (hw _ (own_mt 119 rfl)) (hw _ (own_mt 99 rfl)) (hw _ (own_mt 120 rfl)) (by decide) (rm_Qcy42 l Z a0 hw ar kk v1 v2 v3 v4 h0 n0 Z0 Ea Va) (by decide) (by decide) e0 (g := (mkF m 13 #[vR ar, vI (0 : Int32), vI (2 : Int32)] [(.int 2), (.int 0), (.ref ar)])) rfl (by rw [hml]; rfl) (argsL := [(.ref ar), (.int 0), (.int 2)]) (rest := []) rfl (lenOf pd_ABII__AB rfl) rfl own_w0 (hb hby d20_13) (by decide) (by decide)
  obtain ⟨b2r, kr2, rfl, N2q, K2q, B2, V2⟩ := hQ2
  have N2 := Fr.app N0 N2q
  have K5 := K0.trans K2q all0
  refine own_vF m T2 16 #[vR ar, vI (0 : Int32), vI (2 : Int32)] [(.ref b2r)] (fun t k => st2 t k) ?_
  exact own_ret X2 (v := some (.ref b2r)) (fun h => by rw [hret] at h; cases h) hlk (fun fs hr => retOut X2 hx (t := (.array .byte)) hret rfl (Or.inr (Or.inr (Or.inr (Or.inr ⟨rfl, rfl, rfl⟩)))) (hb hby d20_16) hr) (by exact ⟨b2r, _, rfl, N2, K5, B2, V2⟩) (by decide) (by decide)
def Qcy43 (Z : State) (ar : Addr) (kk : ClassId) (v1 v2 v3 v4 : Int32) (h0 : Heap) (n0 : Nat) (v : Option Value) (h : Heap) (L : List Loc) : Prop := ∃ r kr, v = some (.ref r) ∧ Fr n0 L ∧ Keep h0 h [] ∧ Exa Z h r "[B" ∧ Arv Z h r kr .byte (3 : Int32) [.int v1, .int v2, .int v3] (.int 0)
set_option maxRecDepth 65536 in
set_option maxHeartbeats 40000000 in
theorem rm_Qcy43 (l : Launch) (Z : State) (a0 : Array Value) (hw : ∀ d ∈ tables_1, d.before a0 Z = true) (ar : Addr) (kk : ClassId) (v1 v2 v3 v4 : Int32) (h0 : Heap) (n0 : Nat) (Z0 : n0 ≤ h0.size) (Ea : Exa Z h0 ar "[B") (Va : Arv Z h0 ar kk .byte (4 : Int32) [(.int v1), (.int v2), (.int v3), (.int v4)] (.int 0)) :
    own_MG l Z ((⟨"java/util/Arrays", "copyOfRangeByte", "([BII)[B"⟩ : MethodName)) jdk_65_method_133_code 5 (some (.array .byte)) ({ frames := 1, cells := 1, slots := 3, locals := 60 } : Room) #[(.ref ar), (.int 0), (.int 3)] h0 (Qcy43 Z ar kk v1 v2 v3 v4 h0 n0) := by
  refine own_mkG (plainFor_of_name pn_java_util_Arrays) ?_
  intro p e s m below meth c s₁ X0 hx hby hml hown hnm hret hlk hZ e0
  have N0 := Fr.nil n0
  have K0 := Keep.refl h0 []
  rw [ef_RII5 m ar (0 : Int32) (3 : Int32)]
  refine own_vF m s₁ 1 #[vR ar, vI (0 : Int32), vI (3 : Int32), .unset, .unset] [(.int 0)] (fun t k => XS.iloadN X0.here hx rfl (hb hby d21_0) rfl k) ?_
  refine own_vF m s₁ 2 #[vR ar, vI (0 : Int32), vI (3 : Int32), .unset, .unset] [(.int 3), (.int 0)] (fun t k => XS.iloadN X0.here hx rfl (hb hby d21_1) rfl k) ?_
  obtain ⟨_, T1, L1, X1, hQ1, st1⟩ := own_callS X0 hx hZ (y := (⟨"java/util/Arrays", "checkLength", "(II)V"⟩ : MethodName)) (W := 0) hown (hw _ (own_mt 121 rfl)) (hw _ (own_mt 122 rfl)) (hw _ (own_mt 99 rfl)) (hw _ (own_mt 123 rfl)) (by decide) (rm_Qcl l Z a0 hw (3 : Int32) h0 n0 Z0 (by decide)) (by decide) (by decide) e0 (g := (mkF m 2 #[vR ar, vI (0 : Int32), vI (3 : Int32), .unset, .unset] [(.int 3), (.int 0)])) rfl (by rw [hml]; rfl) (argsL := [(.int 0), (.int 3)]) (rest := []) rfl (lenOf pd_II__V rfl) rfl own_w0 (hb hby d21_2) (by decide) (by decide)
  obtain ⟨rfl, N1q, e1⟩ := hQ1
  have N1 := Fr.app N0 N1q
  refine own_vF m T1 5 #[vR ar, vI (0 : Int32), vI (3 : Int32), .unset, .unset] [] (fun t k => st1 t k) ?_
  refine own_vF m T1 6 #[vR ar, vI (0 : Int32), vI (3 : Int32), .unset, .unset] [(.int 3)] (fun t k => XS.iloadN X1.here hx rfl (hb hby d21_5) rfl k) ?_
  refine own_vF m T1 7 #[vR ar, vI (0 : Int32), vI (3 : Int32), .unset, .unset] [(.int 0), (.int 3)] (fun t k => XS.iloadN X1.here hx rfl (hb hby d21_6) rfl k) ?_
  refine own_vF m T1 8 #[vR ar, vI (0 : Int32), vI (3 : Int32), .unset, .unset] [(.int ((3 : Int32) - (0 : Int32)))] (fun t k => XS.isub X1.here hx rfl (hb hby d21_7) rfl k) ?_
  rw [show ((3 : Int32) - (0 : Int32)) = (3 : Int32) from by decide]
  refine own_vF m T1 9 #[vR ar, vI (0 : Int32), vI (3 : Int32), vI (3 : Int32), .unset] [] (fun t k => XS.istoreN X1.here hx rfl (hb hby d21_8) rfl (l' := #[vR ar, vI (0 : Int32), vI (3 : Int32), vI (3 : Int32), .unset]) rfl k) ?_
  refine own_vF m T1 10 #[vR ar, vI (0 : Int32), vI (3 : Int32), vI (3 : Int32), .unset] [(.int 3)] (fun t k => XS.iloadN X1.here hx rfl (hb hby d21_9) rfl k) ?_
  obtain ⟨T2, h2, k2, X2, e2, E2, A2, B2, st2⟩ := newPE X1 hx hZ (hw _ (own_mt 5 rfl)) e1 (g := (mkF m 10 #[vR ar, vI (0 : Int32), vI (3 : Int32), vI (3 : Int32), .unset] [(.int 3)])) rfl (hb hby d21_10) rfl (by decide) (cap := 3) (by decide) (by decide) (by decide) (by decide) (ad := "[B") (by decide)
  obtain ⟨b2, g2⟩ : ∃ z, z = h0.size := ⟨_, rfl⟩
  rw [← g2] at A2 st2 B2
  have gn_b2 : n0 ≤ b2 := Nat.le_trans Z0 (Nat.le_of_eq g2.symm)
  have sz_b2 : h0.size ≤ b2 := Nat.le_trans K0.1 (Nat.le_of_eq g2.symm)
  have f5 := Va.ext E2
  have V2 : Arv Z h2 b2 k2 .byte (3 : Int32) [(.int 0), (.int 0), (.int 0)] (.int 0) := (Arv.new A2 (by decide)).pad (pad_rep [] (.int 0) 3)
  have Z6 : n0 ≤ h2.size := Nat.le_trans Z0 E2.1
  have K6 := K0.ext E2
  refine own_vF m T2 12 #[vR ar, vI (0 : Int32), vI (3 : Int32), vI (3 : Int32), .unset] [(.ref b2)] (fun t k => st2 t k) ?_
  refine own_vF m T2 14 #[vR ar, vI (0 : Int32), vI (3 : Int32), vI (3 : Int32), vR b2] [] (fun t k => XS.astore X2.here hx rfl (hb hby d21_12) rfl rfl (l' := #[vR ar, vI (0 : Int32), vI (3 : Int32), vI (3 : Int32), vR b2]) rfl k) ?_
  refine own_vF m T2 15 #[vR ar, vI (0 : Int32), vI (3 : Int32), vI (3 : Int32), vR b2] [(.ref ar)] (fun t k => XS.aloadN X2.here hx rfl (hb hby d21_14) rfl rfl k) ?_
  refine own_vF m T2 16 #[vR ar, vI (0 : Int32), vI (3 : Int32), vI (3 : Int32), vR b2] [(.int 0), (.ref ar)] (fun t k => XS.iloadN X2.here hx rfl (hb hby d21_15) rfl k) ?_
  refine own_vF m T2 18 #[vR ar, vI (0 : Int32), vI (3 : Int32), vI (3 : Int32), vR b2] [(.ref b2), (.int 0), (.ref ar)] (fun t k => XS.aload X2.here hx rfl (hb hby d21_16) rfl rfl k) ?_
  refine own_vF m T2 19 #[vR ar, vI (0 : Int32), vI (3 : Int32), vI (3 : Int32), vR b2] [(.int 0), (.ref b2), (.int 0), (.ref ar)] (fun t k => XS.iconst X2.here hx rfl (hb hby d21_18) k) ?_
  refine own_vF m T2 20 #[vR ar, vI (0 : Int32), vI (3 : Int32), vI (3 : Int32), vR b2] [(.ref ar), (.int 0), (.ref b2), (.int 0), (.ref ar)] (fun t k => XS.aloadN X2.here hx rfl (hb hby d21_19) rfl rfl k) ?_
  obtain ⟨c7, Ar7, q7a, q7b, q7c, q7d, q7e⟩ := id f5
  refine own_vF m T2 21 #[vR ar, vI (0 : Int32), vI (3 : Int32), vI (3 : Int32), vR b2] [(.int 4), (.int 0), (.ref b2), (.int 0), (.ref ar)] (fun t k => (fun t k => X2.arraylength hx (by rw [e2]; exact Ar7.1) (State.isArrayOf_alike hZ.alike Ar7.2.1) (g := (mkF m 20 #[vR ar, vI (0 : Int32), vI (3 : Int32), vI (3 : Int32), vR b2] [(.ref ar), (.int 0), (.ref b2), (.int 0), (.ref ar)])) rfl rfl (hb hby d21_20) t (by rw [len_of q7b q7c]; exact k)) t k) ?_
  refine own_vF m T2 22 #[vR ar, vI (0 : Int32), vI (3 : Int32), vI (3 : Int32), vR b2] [(.int 0), (.int 4), (.int 0), (.ref b2), (.int 0), (.ref ar)] (fun t k => XS.iloadN X2.here hx rfl (hb hby d21_21) rfl k) ?_
  refine own_vF m T2 23 #[vR ar, vI (0 : Int32), vI (3 : Int32), vI (3 : Int32), vR b2] [(.int ((4 : Int32) - (0 : Int32))), (.int 0), (.ref b2), (.int 0), (.ref ar)] (fun t k => XS.isub X2.here hx rfl (hb hby d21_22) rfl k) ?_
  rw [show ((4 : Int32) - (0 : Int32)) = (4 : Int32) from by decide]
  refine own_vF m T2 24 #[vR ar, vI (0 : Int32), vI (3 : Int32), vI (3 : Int32), vR b2] [(.int 3), (.int 4), (.int 0), (.ref b2), (.int 0), (.ref ar)] (fun t k => XS.iloadN X2.here hx rfl (hb hby d21_23) rfl k) ?_
  obtain ⟨_, T8, L8, X8, hQ8, st8⟩ := own_callS X2 hx hZ (y := (⟨"java/lang/Math", "min", "(II)I"⟩ : MethodName)) (W := 4) hown (hw _ (own_mt 124 rfl)) (hw _ (own_mt 76 rfl)) (hw _ (own_mt 73 rfl)) (hw _ (own_mt 77 rfl)) (by decide) (rm_Qmin l Z a0 hw (4 : Int32) (3 : Int32) h2 n0 Z6) (by decide) (by decide) e2 (g := (mkF m 24 #[vR ar, vI (0 : Int32), vI (3 : Int32), vI (3 : Int32), vR b2] [(.int 3), (.int 4), (.int 0), (.ref b2), (.int 0), (.ref ar)])) rfl (by rw [hml]; rfl) (argsL := [(.int 4), (.int 3)]) (rest := [(.int 0), (.ref b2), (.int 0), (.ref ar)]) rfl (lenOf pd_II__I rfl) rfl own_w0 (hb hby d21_24) (by decide) (by decide)
  obtain ⟨rfl, N8q, e8⟩ := hQ8
  have N8 := Fr.app N1 N8q
  refine own_vF m T8 27 #[vR ar, vI (0 : Int32), vI (3 : Int32), vI (3 : Int32), vR b2] [(.int (if (3 : Int32) < (4 : Int32) then (3 : Int32) else (4 : Int32))), (.int 0), (.ref b2), (.int 0), (.ref ar)] (fun t k => st8 t k) ?_
  rw [show (if (3 : Int32) < (4 : Int32) then (3 : Int32) else (4 : Int32)) = (3 : Int32) from by decide]
  obtain ⟨T9, h9, L9, X9, e9, N9, K9q, V9, st9⟩ := cpA (us := [(.int v1), (.int v2), (.int v3)]) X8 hx hZ hown (hw _ (own_mt 125 rfl)) (hw _ (own_mt 128 rfl)) (hw _ (own_mt 126 rfl)) (hw _ (own_mt 127 rfl)) e8 f5 V2 (Or.inl ⟨rfl, rfl⟩) (by decide) (by decide) (by decide) (by decide) (by decide) rfl (by decide) N8 gn_b2 (g := (mkF m 27 #[vR ar, vI (0 : Int32), vI (3 : Int32), vI (3 : Int32), vR b2] [(.int 3), (.int 0), (.ref b2), (.int 0), (.ref ar)])) rfl (by rw [hml]; rfl) rfl (hb hby d21_27) (by decide) (W := 0) own_w0 (by decide)
  have V9 : Arv Z h9 b2 k2 .byte (3 : Int32) [(.int v1), (.int v2), (.int v3)] (.int 0) := V9
  subst e9
  have f12 := B2.keep K9q
  have K13 := K6.trans K9q (allS (Or.inr sz_b2) all0)
  refine own_vF m T9 30 #[vR ar, vI (0 : Int32), vI (3 : Int32), vI (3 : Int32), vR b2] [] (fun t k => st9 t k) ?_
  refine own_vF m T9 32 #[vR ar, vI (0 : Int32), vI (3 : Int32), vI (3 : Int32), vR b2] [(.ref b2)] (fun t k => XS.aload X9.here hx rfl (hb hby d21_30) rfl rfl k) ?_
  exact own_ret X9 (v := some (.ref b2)) (fun h => by rw [hret] at h; cases h) hlk (fun fs hr => retOut X9 hx (t := (.array .byte)) hret rfl (Or.inr (Or.inr (Or.inr (Or.inr ⟨rfl, rfl, rfl⟩)))) (hb hby d21_32) hr) (by exact ⟨b2, _, rfl, N9, K13, f12, V9⟩) (by decide) (by decide)
def Qcr43 (Z : State) (ar : Addr) (kk : ClassId) (v1 v2 v3 v4 : Int32) (h0 : Heap) (n0 : Nat) (v : Option Value) (h : Heap) (L : List Loc) : Prop := ∃ r kr, v = some (.ref r) ∧ Fr n0 L ∧ Keep h0 h [] ∧ Exa Z h r "[B" ∧ Arv Z h r kr .byte (3 : Int32) [.int v1, .int v2, .int v3] (.int 0)
set_option maxRecDepth 65536 in
set_option maxHeartbeats 40000000 in
theorem rm_Qcr43 (l : Launch) (Z : State) (a0 : Array Value) (hw : ∀ d ∈ tables_1, d.before a0 Z = true) (ar : Addr) (kk : ClassId) (v1 v2 v3 v4 : Int32) (h0 : Heap) (n0 : Nat) (Z0 : n0 ≤ h0.size) (Ea : Exa Z h0 ar "[B") (Va : Arv Z h0 ar kk .byte (4 : Int32) [(.int v1), (.int v2), (.int v3), (.int v4)] (.int 0)) :
    own_MG l Z ((⟨"java/util/Arrays", "copyOfRange", "([BII)[B"⟩ : MethodName)) jdk_65_method_132_code 3 (some (.array .byte)) ({ frames := 2, cells := 1, slots := 3, locals := 76 } : Room) #[(.ref ar), (.int 0), (.int 3)] h0 (Qcr43 Z ar kk v1 v2 v3 v4 h0 n0) := by
  refine own_mkG (plainFor_of_name pn_java_util_Arrays) ?_
  intro p e s m below meth c s₁ X0 hx hby hml hown hnm hret hlk hZ e0
  have N0 := Fr.nil n0
  have K0 := Keep.refl h0 []
  rw [ef_RII3 m ar (0 : Int32) (3 : Int32)]
  refine own_vF m s₁ 1 #[vR ar, vI (0 : Int32), vI (3 : Int32)] [(.int 0)] (fun t k => XS.iloadN X0.here hx rfl (hb hby d20_0) rfl k) ?_
  refine own_vF m s₁ 4 #[vR ar, vI (0 : Int32), vI (3 : Int32)] [] (fun t k => XS.ifNo X0.here hx rfl (hb hby d20_1) rfl ((if0 _ _).trans (teq (by decide : ((0 : Int32) = (0 : Int32)))).2) k) ?_
  refine own_vF m s₁ 5 #[vR ar, vI (0 : Int32), vI (3 : Int32)] [(.int 3)] (fun t k => XS.iloadN X0.here hx rfl (hb hby d20_4) rfl k) ?_
  refine own_vF m s₁ 6 #[vR ar, vI (0 : Int32), vI (3 : Int32)] [(.ref ar), (.int 3)] (fun t k => XS.aloadN X0.here hx rfl (hb hby d20_5) rfl rfl k) ?_
  obtain ⟨c1, Ar1, q1a, q1b, q1c, q1d, q1e⟩ := id Va
  refine own_vF m s₁ 7 #[vR ar, vI (0 : Int32), vI (3 : Int32)] [(.int 4), (.int 3)] (fun t k => (fun t k => X0.arraylength hx (by rw [e0]; exact Ar1.1) (State.isArrayOf_alike hZ.alike Ar1.2.1) (g := (mkF m 6 #[vR ar, vI (0 : Int32), vI (3 : Int32)] [(.ref ar), (.int 3)])) rfl rfl (hb hby d20_6) t (by rw [len_of q1b q1c]; exact k)) t k) ?_
  refine own_vF m s₁ 10 #[vR ar, vI (0 : Int32), vI (3 : Int32)] [] (fun t k => XS.icmpNo X0.here hx rfl (hb hby d20_7) rfl (feq (by decide : ¬ ((3 : Int32) = (4 : Int32)))).1 k) ?_
  refine own_vF m s₁ 11 #[vR ar, vI (0 : Int32), vI (3 : Int32)] [(.ref ar)] (fun t k => XS.aloadN X0.here hx rfl (hb hby d20_10) rfl rfl k) ?_
  refine own_vF m s₁ 12 #[vR ar, vI (0 : Int32), vI (3 : Int32)] [(.int 0), (.ref ar)] (fun t k => XS.iloadN X0.here hx rfl (hb hby d20_11) rfl k) ?_
  refine own_vF m s₁ 13 #[vR ar, vI (0 : Int32), vI (3 : Int32)] [(.int 3), (.int 0), (.ref ar)] (fun t k => XS.iloadN X0.here hx rfl (hb hby d20_12) rfl k) ?_
  obtain ⟨_, T2, L2, X2, hQ2, st2⟩ := own_callS X0 hx hZ (y := (⟨"java/util/Arrays", "copyOfRangeByte", "([BII)[B"⟩ : MethodName)) (W := 0) hown (hw _ (own_mt 118 rfl)) (hw _ (own_mt 119 rfl)) (hw _ (own_mt 99 rfl)) (hw _ (own_mt 120 rfl)) (by decide) (rm_Qcy43 l Z a0 hw ar kk v1 v2 v3 v4 h0 n0 Z0 Ea Va) (by decide) (by decide) e0 (g := (mkF m 13 #[vR ar, vI (0 : Int32), vI (3 : Int32)] [(.int 3), (.int 0), (.ref ar)])) rfl (by rw [hml]; rfl) (argsL := [(.ref ar), (.int 0), (.int 3)]) (rest := []) rfl (lenOf pd_ABII__AB rfl) rfl own_w0 (hb hby d20_13) (by decide) (by decide)
  obtain ⟨b2r, kr2, rfl, N2q, K2q, B2, V2⟩ := hQ2
  have N2 := Fr.app N0 N2q
  have K5 := K0.trans K2q all0
  refine own_vF m T2 16 #[vR ar, vI (0 : Int32), vI (3 : Int32)] [(.ref b2r)] (fun t k => st2 t k) ?_
  exact own_ret X2 (v := some (.ref b2r)) (fun h => by rw [hret] at h; cases h) hlk (fun fs hr => retOut X2 hx (t := (.array .byte)) hret rfl (Or.inr (Or.inr (Or.inr (Or.inr ⟨rfl, rfl, rfl⟩)))) (hb hby d20_16) hr) (by exact ⟨b2r, _, rfl, N2, K5, B2, V2⟩) (by decide) (by decide)
def Qcr44 (Z : State) (ar : Addr) (kk : ClassId) (v1 v2 v3 v4 : Int32) (h0 : Heap) (n0 : Nat) (v : Option Value) (h : Heap) (L : List Loc) : Prop := ∃ r kr, v = some (.ref r) ∧ Fr n0 L ∧ Keep h0 h [] ∧ Exa Z h r "[B" ∧ Arv Z h r kr .byte (4 : Int32) [.int v1, .int v2, .int v3, .int v4] (.int 0)
set_option maxRecDepth 65536 in
set_option maxHeartbeats 40000000 in
theorem rm_Qcr44 (l : Launch) (Z : State) (a0 : Array Value) (hw : ∀ d ∈ tables_1, d.before a0 Z = true) (ar : Addr) (kk : ClassId) (v1 v2 v3 v4 : Int32) (h0 : Heap) (n0 : Nat) (Z0 : n0 ≤ h0.size) (Ea : Exa Z h0 ar "[B") (Va : Arv Z h0 ar kk .byte (4 : Int32) [(.int v1), (.int v2), (.int v3), (.int v4)] (.int 0)) :
    own_MG l Z ((⟨"java/util/Arrays", "copyOfRange", "([BII)[B"⟩ : MethodName)) jdk_65_method_132_code 3 (some (.array .byte)) ({ frames := 1, cells := 1, slots := 4, locals := 14 } : Room) #[(.ref ar), (.int 0), (.int 4)] h0 (Qcr44 Z ar kk v1 v2 v3 v4 h0 n0) := by
  refine own_mkG (plainFor_of_name pn_java_util_Arrays) ?_
  intro p e s m below meth c s₁ X0 hx hby hml hown hnm hret hlk hZ e0
  have N0 := Fr.nil n0
  have K0 := Keep.refl h0 []
  rw [ef_RII3 m ar (0 : Int32) (4 : Int32)]
  refine own_vF m s₁ 1 #[vR ar, vI (0 : Int32), vI (4 : Int32)] [(.int 0)] (fun t k => XS.iloadN X0.here hx rfl (hb hby d20_0) rfl k) ?_
  refine own_vF m s₁ 4 #[vR ar, vI (0 : Int32), vI (4 : Int32)] [] (fun t k => XS.ifNo X0.here hx rfl (hb hby d20_1) rfl ((if0 _ _).trans (teq (by decide : ((0 : Int32) = (0 : Int32)))).2) k) ?_
  refine own_vF m s₁ 5 #[vR ar, vI (0 : Int32), vI (4 : Int32)] [(.int 4)] (fun t k => XS.iloadN X0.here hx rfl (hb hby d20_4) rfl k) ?_
  refine own_vF m s₁ 6 #[vR ar, vI (0 : Int32), vI (4 : Int32)] [(.ref ar), (.int 4)] (fun t k => XS.aloadN X0.here hx rfl (hb hby d20_5) rfl rfl k) ?_
  obtain ⟨c1, Ar1, q1a, q1b, q1c, q1d, q1e⟩ := id Va
  refine own_vF m s₁ 7 #[vR ar, vI (0 : Int32), vI (4 : Int32)] [(.int 4), (.int 4)] (fun t k => (fun t k => X0.arraylength hx (by rw [e0]; exact Ar1.1) (State.isArrayOf_alike hZ.alike Ar1.2.1) (g := (mkF m 6 #[vR ar, vI (0 : Int32), vI (4 : Int32)] [(.ref ar), (.int 4)])) rfl rfl (hb hby d20_6) t (by rw [len_of q1b q1c]; exact k)) t k) ?_
  refine own_vF m s₁ 17 #[vR ar, vI (0 : Int32), vI (4 : Int32)] [] (fun t k => XS.icmpYes X0.here hx rfl (pc0 := 7) (pc' := 17) rfl (hb hby d20_7) rfl (teq (by decide : ((4 : Int32) = (4 : Int32)))).1 (by decide) (by decide) k) ?_
  refine own_vF m s₁ 18 #[vR ar, vI (0 : Int32), vI (4 : Int32)] [(.ref ar)] (fun t k => XS.aloadN X0.here hx rfl (hb hby d20_17) rfl rfl k) ?_
  obtain ⟨T2, h2, X2, e2, E2, V2, B2, st2⟩ := cloneH (hs := []) (vs := [(.int v1), (.int v2), (.int v3), (.int v4)]) (dv := (.int 0)) (z := (4 : Int32)) X0 hx hZ hown (hw _ (own_mt 101 rfl)) (hw _ (own_mt 102 rfl)) (hw _ (own_mt 106 rfl)) (hw _ (own_mt 104 rfl)) (hw _ (own_mt 105 rfl)) (hw _ (own_mt 107 rfl)) e0 Va Ea (g := (mkF m 18 #[vR ar, vI (0 : Int32), vI (4 : Int32)] [(.ref ar)])) rfl (by rw [hml]; rfl) rfl (hb hby d20_18) (by decide) (W := 0) (cap := 4) own_w0 (by decide) (by decide) (by decide) (by decide)
  obtain ⟨b2, g2⟩ : ∃ z, z = h0.size := ⟨_, rfl⟩
  rw [← g2] at V2 B2 st2
  have V2 : Arv Z h2 b2 kk .byte (4 : Int32) [(.int v1), (.int v2), (.int v3), (.int v4)] (.int 0) := V2
  have K6 := K0.ext E2
  refine own_vF m T2 21 #[vR ar, vI (0 : Int32), vI (4 : Int32)] [(.ref b2)] (fun t k => st2 t k) ?_
  obtain ⟨T7, X7, e7, st7⟩ := castY X2 hx hZ hown (hw _ (own_mt 108 rfl)) e2 (Ins.self B2) (g := (mkF m 21 #[vR ar, vI (0 : Int32), vI (4 : Int32)] [(.ref b2)])) rfl rfl (hb hby d20_21)
  refine own_vF m T7 24 #[vR ar, vI (0 : Int32), vI (4 : Int32)] [(.ref b2)] (fun t k => st7 t k) ?_
  exact own_ret X7 (v := some (.ref b2)) (fun h => by rw [hret] at h; cases h) hlk (fun fs hr => retOut X7 hx (t := (.array .byte)) hret rfl (Or.inr (Or.inr (Or.inr (Or.inr ⟨rfl, rfl, rfl⟩)))) (hb hby d20_24) hr) (by rw [e7]; exact ⟨b2, _, rfl, N0, K6, B2, V2⟩) (by decide) (by decide)
def Qi50 (Z : State) (o ar : Addr) (kk : ClassId)  (cs : Int32) (sf : Value) (iso u8 : Addr) (h0 : Heap) (n0 : Nat) (v : Option Value) (h : Heap) (L : List Loc) : Prop := v = none ∧ Fr n0 L ∧ Keep h0 h [o] ∧ Exa Z h o "java/lang/String" ∧ Fld Z h o "java/lang/String" "coder" "B" (.int 0) ∧ ∃ b kb, Fld Z h o "java/lang/String" "value" "[B" (.ref b) ∧ Arv Z h b kb .byte (0 : Int32) [] (.int 0)
theorem d22_0 : decode jdk_42_method_11_code 0 = .ok (.aload_n 0, 1) := by decide +kernel
theorem d22_1 : decode jdk_42_method_11_code 1 = .ok (.invokespecial 1, 3) := by decide +kernel
theorem d22_4 : decode jdk_42_method_11_code 4 = .ok (.iload 4, 2) := by decide +kernel
theorem d22_6 : decode jdk_42_method_11_code 6 = .ok (.ifCond .ne 24, 3) := by decide +kernel
theorem d22_9 : decode jdk_42_method_11_code 9 = .ok (.aload_n 0, 1) := by decide +kernel
theorem d22_10 : decode jdk_42_method_11_code 10 = .ok (.ldc 7, 2) := by decide +kernel
theorem d22_12 : decode jdk_42_method_11_code 12 = .ok (.getfield 9, 3) := by decide +kernel
theorem d22_15 : decode jdk_42_method_11_code 15 = .ok (.putfield 9, 3) := by decide +kernel
theorem d22_18 : decode jdk_42_method_11_code 18 = .ok (.aload_n 0, 1) := by decide +kernel
theorem d22_19 : decode jdk_42_method_11_code 19 = .ok (.ldc 7, 2) := by decide +kernel
theorem d22_21 : decode jdk_42_method_11_code 21 = .ok (.getfield 15, 3) := by decide +kernel
theorem d22_24 : decode jdk_42_method_11_code 24 = .ok (.putfield 15, 3) := by decide +kernel
theorem d22_27 : decode jdk_42_method_11_code 27 = .ok (.goto 852, 3) := by decide +kernel
theorem d22_879 : decode jdk_42_method_11_code 879 = .ok (.return_, 1) := by decide +kernel
theorem ef_RRRII11 (m : MethodId) (x0 : Addr) (x1 : Addr) (x2 : Addr) (x3 : Int32) (x4 : Int32) : entryFrame m #[(.ref x0), (.ref x1), (.ref x2), (.int x3), (.int x4)] 11 = mkF m 0 #[vR x0, vR x1, vR x2, vI x3, vI x4, .unset, .unset, .unset, .unset, .unset, .unset] [] := by first | (simp [entryFrame, mkF, argsToLocals, Value.category]; done) | rfl
set_option maxRecDepth 65536 in
set_option maxHeartbeats 40000000 in
theorem rm_Qi50 (l : Launch) (Z : State) (a0 : Array Value) (hw : ∀ d ∈ tables_1, d.before a0 Z = true) (o ar : Addr) (kk : ClassId)  (cs : Int32) (sf : Value) (iso u8 : Addr) (h0 : Heap) (n0 : Nat) (Z0 : n0 ≤ h0.size) (Od : Old Z n0 h0) (SS : own_SS Z cs sf iso u8) (Eo : Exa Z h0 o "java/lang/String") (F_v : Fld Z h0 o "java/lang/String" "value" "[B" .null) (F_c : Fld Z h0 o "java/lang/String" "coder" "B" (.int 0)) (gn_o : n0 ≤ o) (ne_a : ar ≠ o) (Ea : Exa Z h0 ar "[B") (Va : Arv Z h0 ar kk .byte (0 : Int32) [] (.int 0)) :
    own_MWH l Z ((⟨"java/lang/String", "<init>", "(Ljava/nio/charset/Charset;[BII)V"⟩ : MethodName)) jdk_42_method_11_code 11 none ({ frames := 1, cells := 2, slots := 4, locals := 12 } : Room) [(800, 813, 816, 202)] #[(.ref o), (.ref iso), (.ref ar), (.int 0), (.int 0)] h0 (Qi50 Z o ar kk  cs sf iso u8 h0 n0) := by
  refine own_mkWH (plainFor_of_name pn_java_lang_String) ?_
  intro p e s m below meth c s₁ X0 hx hby hml hown hnm hret hlk hZ e0 hCH
  have hEL := own_hEL hw
  have N0 := Fr.nil n0
  have K0 := Keep.refl h0 [o]
  rw [ef_RRRII11 m o iso ar (0 : Int32) (0 : Int32)]
  refine own_vFW m s₁ 1 #[vR o, vR iso, vR ar, vI (0 : Int32), vI (0 : Int32), .unset, .unset, .unset, .unset, .unset, .unset] [(.ref o)] (fun t k => XS.aloadN X0.here hx rfl (hb hby d22_0) rfl rfl k) ?_
  obtain ⟨T1, X1, e1, st1⟩ := initO X0 hx hZ hown (hw _ (own_mt 28 rfl)) (hw _ (own_mt 29 rfl)) (hw _ (own_mt 30 rfl)) e0 (g := (mkF m 1 #[vR o, vR iso, vR ar, vI (0 : Int32), vI (0 : Int32), .unset, .unset, .unset, .unset, .unset, .unset] [(.ref o)])) rfl (by rw [hml]; rfl) rfl (hb hby d22_1) (by decide) (W := 0) own_w0 (by decide)
  refine own_vFW m T1 4 #[vR o, vR iso, vR ar, vI (0 : Int32), vI (0 : Int32), .unset, .unset, .unset, .unset, .unset, .unset] [] (fun t k => st1 t k) ?_
  refine own_vFW m T1 6 #[vR o, vR iso, vR ar, vI (0 : Int32), vI (0 : Int32), .unset, .unset, .unset, .unset, .unset, .unset] [(.int 0)] (fun t k => XS.iload X1.here hx rfl (hb hby d22_4) rfl k) ?_
  refine own_vFW m T1 9 #[vR o, vR iso, vR ar, vI (0 : Int32), vI (0 : Int32), .unset, .unset, .unset, .unset, .unset, .unset] [] (fun t k => XS.ifNo X1.here hx rfl (hb hby d22_6) rfl ((if0 _ _).trans (teq (by decide : ((0 : Int32) = (0 : Int32)))).2) k) ?_
  refine own_vFW m T1 10 #[vR o, vR iso, vR ar, vI (0 : Int32), vI (0 : Int32), .unset, .unset, .unset, .unset, .unset, .unset] [(.ref o)] (fun t k => XS.aloadN X1.here hx rfl (hb hby d22_9) rfl rfl k) ?_
  obtain ⟨b2a, T2, h2, k1_2, b2v, k2, X2, e2, E2, hS, hk2, hZ, hown, A2, Fc2, Fv2, V2, -, -, hC2, Li2, hne2, st2⟩ := ldcCH (s := s) (vm0 := s.vm) (vs := []) (z := (0 : Int32)) X1 hx hZ hown (hw _ (own_mt 31 rfl)) (own_wS hw) e1 ((State.WarmedH.refl s).since 0) (Nat.zero_le _) hEL (own_mt 0 rfl) (hCH.ext Od.2) ⟨fun c hc => by simp at hc, rfl⟩ (by decide) rfl (g := (mkF m 10 #[vR o, vR iso, vR ar, vI (0 : Int32), vI (0 : Int32), .unset, .unset, .unset, .unset, .unset, .unset] [(.ref o)])) rfl (hb hby d22_10) (n := 0) (by decide) (by decide) (by decide) (by decide)
  have f9 := Eo.ext E2
  have f10 := F_v.ext E2
  have f11 := F_c.ext E2
  have K14 := K0.ext E2
  refine own_vFW m T2 12 #[vR o, vR iso, vR ar, vI (0 : Int32), vI (0 : Int32), .unset, .unset, .unset, .unset, .unset, .unset] [(.ref b2a), (.ref o)] (fun t k => st2 t k) ?_
  have hso := hne2 o (hC2.safe Eo.lt ((Safe.new (Nat.le_trans (Nat.le_of_eq Od.1) gn_o)).ext Od.2 hCH))
  obtain ⟨T15, X15, e15, st15⟩ := getF (host := "") X2 hx hZ hown (Or.inl (hw _ (own_mt 36 rfl))) Via.refl e2 Fv2 (g := (mkF m 12 #[vR o, vR iso, vR ar, vI (0 : Int32), vI (0 : Int32), .unset, .unset, .unset, .unset, .unset, .unset] [(.ref b2a), (.ref o)])) rfl rfl (hb hby d22_12)
  refine own_vFW m T15 15 #[vR o, vR iso, vR ar, vI (0 : Int32), vI (0 : Int32), .unset, .unset, .unset, .unset, .unset, .unset] [(.ref b2v), (.ref o)] (fun t k => st15 t k) ?_
  obtain ⟨T16, h16, X16, e16, W16, st16⟩ := putF (host := "") X15 hx hZ hown (Or.inl (hw _ (own_mt 36 rfl))) Via.refl e15 f10 f9 (Or.inr ⟨(hw _ (own_mt 32 rfl)), rfl, hnm⟩) (hw _ (own_mt 11 rfl)) (ty := (.array .byte)) (by decide) rfl rfl (g := (mkF m 15 #[vR o, vR iso, vR ar, vI (0 : Int32), vI (0 : Int32), .unset, .unset, .unset, .unset, .unset, .unset] [(.ref b2v), (.ref o)])) rfl rfl (hb hby d22_15)
  have f16w := f10.same W16
  have f23 := f9.wr W16
  have f24 := f11.other W16 (Or.inr (slot_ne (Or.inr (hw _ (own_mt 33 rfl))) (Or.inr (hw _ (own_mt 32 rfl))) (by decide) (t := .byte) (t' := (.array .byte)) (by decide) (by decide)))
  have f28 := Fc2.other W16 (Or.inl (Ne.symm hso.1))
  have f30 := V2.other W16 (Ne.symm hso.2)
  have K31 := K14.wr W16 (Or.inl (own_mt 0 rfl))
  have hk31 := Nat.le_trans hk2 (Keep.of_wr W16).1
  have N16 := Fr.snoc X16 N0 gn_o
  refine own_vFW m T16 18 #[vR o, vR iso, vR ar, vI (0 : Int32), vI (0 : Int32), .unset, .unset, .unset, .unset, .unset, .unset] [] (fun t k => st16 t k) ?_
  refine own_vFW m T16 19 #[vR o, vR iso, vR ar, vI (0 : Int32), vI (0 : Int32), .unset, .unset, .unset, .unset, .unset, .unset] [(.ref o)] (fun t k => XS.aloadN X16.here hx rfl (hb hby d22_18) rfl rfl k) ?_
  refine own_vFW m T16 21 #[vR o, vR iso, vR ar, vI (0 : Int32), vI (0 : Int32), .unset, .unset, .unset, .unset, .unset, .unset] [(.ref b2a), (.ref o)] (fun t k => ldcAgain (s := s) X16 hx hZ hown (hw _ (own_mt 31 rfl)) Li2 (g := (mkF m 19 #[vR o, vR iso, vR ar, vI (0 : Int32), vI (0 : Int32), .unset, .unset, .unset, .unset, .unset, .unset] [(.ref o)])) rfl (hb hby d22_19) _ k) ?_
  obtain ⟨T33, X33, e33, st33⟩ := getF (host := "") X16 hx hZ hown (Or.inl (hw _ (own_mt 37 rfl))) Via.refl e16 f28 (g := (mkF m 21 #[vR o, vR iso, vR ar, vI (0 : Int32), vI (0 : Int32), .unset, .unset, .unset, .unset, .unset, .unset] [(.ref b2a), (.ref o)])) rfl rfl (hb hby d22_21)
  refine own_vFW m T33 24 #[vR o, vR iso, vR ar, vI (0 : Int32), vI (0 : Int32), .unset, .unset, .unset, .unset, .unset, .unset] [(.int 0), (.ref o)] (fun t k => st33 t k) ?_
  obtain ⟨T34, h34, X34, e34, W34, st34⟩ := putF (host := "") X33 hx hZ hown (Or.inl (hw _ (own_mt 37 rfl))) Via.refl e33 f24 f23 (Or.inr ⟨(hw _ (own_mt 33 rfl)), rfl, hnm⟩) (hw _ (own_mt 11 rfl)) (ty := .byte) (by decide) rfl rfl (g := (mkF m 24 #[vR o, vR iso, vR ar, vI (0 : Int32), vI (0 : Int32), .unset, .unset, .unset, .unset, .unset, .unset] [(.int 0), (.ref o)])) rfl rfl (hb hby d22_24)
  have f34w := f24.same W34
  have f41 := f23.wr W34
  have f47 := f30.other W34 (Ne.symm hso.2)
  have f48 := f16w.other W34 (Or.inr (slot_ne (Or.inr (hw _ (own_mt 32 rfl))) (Or.inr (hw _ (own_mt 33 rfl))) (by decide) (t := (.array .byte)) (t' := .byte) (by decide) (by decide)))
  have K49 := K31.wr W34 (Or.inl (own_mt 0 rfl))
  have hk49 := Nat.le_trans hk31 (Keep.of_wr W34).1
  have N34 := Fr.snoc X34 N16 gn_o
  refine own_vFW m T34 27 #[vR o, vR iso, vR ar, vI (0 : Int32), vI (0 : Int32), .unset, .unset, .unset, .unset, .unset, .unset] [] (fun t k => st34 t k) ?_
  refine own_vFW m T34 879 #[vR o, vR iso, vR ar, vI (0 : Int32), vI (0 : Int32), .unset, .unset, .unset, .unset, .unset, .unset] [] (fun t k => XS.goto X34.here hx rfl (pc0 := 27) (pc' := 879) rfl (hb hby d22_27) (by decide) (by decide) k) ?_
  exact own_retW (s := s) X34 hS (by rw [e34]; exact hk49) (v := none) (fun _ => rfl) hlk (fun fs hr => X34.returnOut hx hret (hb hby d22_879) hr) (by rw [e34]; exact ⟨rfl, N34, K49, f41, f34w, b2v, _, f48, f47⟩) (by decide) (by decide)
def Qi51 (Z : State) (o ar : Addr) (kk : ClassId) (v1 : Int32) (cs : Int32) (sf : Value) (iso u8 : Addr) (h0 : Heap) (n0 : Nat) (v : Option Value) (h : Heap) (L : List Loc) : Prop := v = none ∧ Fr n0 L ∧ Keep h0 h [o] ∧ Exa Z h o "java/lang/String" ∧ Fld Z h o "java/lang/String" "coder" "B" (.int 0) ∧ ∃ b kb, Fld Z h o "java/lang/String" "value" "[B" (.ref b) ∧ Exa Z h b "[B" ∧ Arv Z h b kb .byte (1 : Int32) [.int v1] (.int 0)
theorem d22_30 : decode jdk_42_method_11_code 30 = .ok (.aload_n 1, 1) := by decide +kernel
theorem d22_31 : decode jdk_42_method_11_code 31 = .ok (.getstatic 86, 3) := by decide +kernel
theorem d22_34 : decode jdk_42_method_11_code 34 = .ok (.if_acmp .ne 312, 3) := by decide +kernel
theorem d22_346 : decode jdk_42_method_11_code 346 = .ok (.aload_n 1, 1) := by decide +kernel
theorem d22_347 : decode jdk_42_method_11_code 347 = .ok (.getstatic 116, 3) := by decide +kernel
theorem d22_350 : decode jdk_42_method_11_code 350 = .ok (.if_acmp .ne 49, 3) := by decide +kernel
theorem d22_353 : decode jdk_42_method_11_code 353 = .ok (.getstatic 38, 3) := by decide +kernel
theorem d22_356 : decode jdk_42_method_11_code 356 = .ok (.ifCond .eq 24, 3) := by decide +kernel
theorem d22_359 : decode jdk_42_method_11_code 359 = .ok (.aload_n 0, 1) := by decide +kernel
theorem d22_360 : decode jdk_42_method_11_code 360 = .ok (.aload_n 2, 1) := by decide +kernel
theorem d22_361 : decode jdk_42_method_11_code 361 = .ok (.iload_n 3, 1) := by decide +kernel
theorem d22_362 : decode jdk_42_method_11_code 362 = .ok (.iload_n 3, 1) := by decide +kernel
theorem d22_363 : decode jdk_42_method_11_code 363 = .ok (.iload 4, 2) := by decide +kernel
theorem d22_365 : decode jdk_42_method_11_code 365 = .ok (.iadd, 1) := by decide +kernel
theorem d22_366 : decode jdk_42_method_11_code 366 = .ok (.invokestatic 54, 3) := by decide +kernel
theorem d22_369 : decode jdk_42_method_11_code 369 = .ok (.putfield 9, 3) := by decide +kernel
theorem d22_372 : decode jdk_42_method_11_code 372 = .ok (.aload_n 0, 1) := by decide +kernel
theorem d22_373 : decode jdk_42_method_11_code 373 = .ok (.iconst 0, 1) := by decide +kernel
theorem d22_374 : decode jdk_42_method_11_code 374 = .ok (.putfield 15, 3) := by decide +kernel
theorem d22_377 : decode jdk_42_method_11_code 377 = .ok (.goto 502, 3) := by decide +kernel
set_option maxRecDepth 65536 in
set_option maxHeartbeats 40000000 in
theorem rm_Qi51 (l : Launch) (Z : State) (a0 : Array Value) (hw : ∀ d ∈ tables_1, d.before a0 Z = true) (o ar : Addr) (kk : ClassId) (v1 : Int32) (cs : Int32) (sf : Value) (iso u8 : Addr) (h0 : Heap) (n0 : Nat) (Z0 : n0 ≤ h0.size) (Od : Old Z n0 h0) (SS : own_SS Z cs sf iso u8) (Eo : Exa Z h0 o "java/lang/String") (F_v : Fld Z h0 o "java/lang/String" "value" "[B" .null) (F_c : Fld Z h0 o "java/lang/String" "coder" "B" (.int 0)) (gn_o : n0 ≤ o) (ne_a : ar ≠ o) (Ea : Exa Z h0 ar "[B") (Va : Arv Z h0 ar kk .byte (1 : Int32) [(.int v1)] (.int 0)) :
    own_MGH l Z ((⟨"java/lang/String", "<init>", "(Ljava/nio/charset/Charset;[BII)V"⟩ : MethodName)) jdk_42_method_11_code 11 none ({ frames := 2, cells := 1, slots := 1, locals := 29 } : Room) [(800, 813, 816, 202)] #[(.ref o), (.ref iso), (.ref ar), (.int 0), (.int 1)] h0 (Qi51 Z o ar kk v1 cs sf iso u8 h0 n0) := by
  refine own_mkGH (plainFor_of_name pn_java_lang_String) ?_
  intro p e s m below meth c s₁ X0 hx hby hml hown hnm hret hlk hZ e0
  have N0 := Fr.nil n0
  have K0 := Keep.refl h0 [o]
  rw [ef_RRRII11 m o iso ar (0 : Int32) (1 : Int32)]
  have Scs := SS.1.ext Od.2
  have Sins := SS.2.2.2.2.2.1.ext Od.2
  have Eiso := SS.2.2.2.2.2.2.1.ext Od.2
  have Su8 := SS.2.2.2.2.2.2.2.1.ext Od.2
  have Eu8 := SS.2.2.2.2.2.2.2.2.ext Od.2
  refine own_vF m s₁ 1 #[vR o, vR iso, vR ar, vI (0 : Int32), vI (1 : Int32), .unset, .unset, .unset, .unset, .unset, .unset] [(.ref o)] (fun t k => XS.aloadN X0.here hx rfl (hb hby d22_0) rfl rfl k) ?_
  obtain ⟨T1, X1, e1, st1⟩ := initO X0 hx hZ hown (hw _ (own_mt 28 rfl)) (hw _ (own_mt 29 rfl)) (hw _ (own_mt 30 rfl)) e0 (g := (mkF m 1 #[vR o, vR iso, vR ar, vI (0 : Int32), vI (1 : Int32), .unset, .unset, .unset, .unset, .unset, .unset] [(.ref o)])) rfl (by rw [hml]; rfl) rfl (hb hby d22_1) (by decide) (W := 0) own_w0 (by decide)
  refine own_vF m T1 4 #[vR o, vR iso, vR ar, vI (0 : Int32), vI (1 : Int32), .unset, .unset, .unset, .unset, .unset, .unset] [] (fun t k => st1 t k) ?_
  refine own_vF m T1 6 #[vR o, vR iso, vR ar, vI (0 : Int32), vI (1 : Int32), .unset, .unset, .unset, .unset, .unset, .unset] [(.int 1)] (fun t k => XS.iload X1.here hx rfl (hb hby d22_4) rfl k) ?_
  refine own_vF m T1 30 #[vR o, vR iso, vR ar, vI (0 : Int32), vI (1 : Int32), .unset, .unset, .unset, .unset, .unset, .unset] [] (fun t k => XS.ifYes X1.here hx rfl (pc0 := 6) (pc' := 30) rfl (hb hby d22_6) rfl ((if0 _ _).trans (feq (by decide : ¬ ((1 : Int32) = (0 : Int32)))).2) (by decide) (by decide) k) ?_
  refine own_vF m T1 31 #[vR o, vR iso, vR ar, vI (0 : Int32), vI (1 : Int32), .unset, .unset, .unset, .unset, .unset, .unset] [(.ref iso)] (fun t k => XS.aloadN X1.here hx rfl (hb hby d22_30) rfl rfl k) ?_
  obtain ⟨T2, X2, e2, st2⟩ := getS2 (host := "") X1 hx hZ hown (Or.inl (hw _ (own_mt 93 rfl))) Via.refl e1 Su8 (g := (mkF m 31 #[vR o, vR iso, vR ar, vI (0 : Int32), vI (1 : Int32), .unset, .unset, .unset, .unset, .unset, .unset] [(.ref iso)])) rfl (hb hby d22_31)
  refine own_vF m T2 34 #[vR o, vR iso, vR ar, vI (0 : Int32), vI (1 : Int32), .unset, .unset, .unset, .unset, .unset, .unset] [(.ref u8), (.ref iso)] (fun t k => st2 t k) ?_
  refine own_vF m T2 346 #[vR o, vR iso, vR ar, vI (0 : Int32), vI (1 : Int32), .unset, .unset, .unset, .unset, .unset, .unset] [] (fun t k => Jvm.RoadKit.acmp (g := (mkF m 34 #[vR o, vR iso, vR ar, vI (0 : Int32), vI (1 : Int32), .unset, .unset, .unset, .unset, .unset, .unset] [(.ref u8), (.ref iso)])) X2 hx rfl rfl rfl (pc0 := 34) (pc' := 346) (same := false) rfl (hb hby d22_34) rfl (decide_eq_false fun q => (Exa.ne Eiso Eu8 (by decide)) (Value.ref.inj q)) (by decide) (by decide) k) ?_
  refine own_vF m T2 347 #[vR o, vR iso, vR ar, vI (0 : Int32), vI (1 : Int32), .unset, .unset, .unset, .unset, .unset, .unset] [(.ref iso)] (fun t k => XS.aloadN X2.here hx rfl (hb hby d22_346) rfl rfl k) ?_
  obtain ⟨T3, X3, e3, st3⟩ := getS2 (host := "") X2 hx hZ hown (Or.inl (hw _ (own_mt 95 rfl))) Via.refl e2 Sins (g := (mkF m 347 #[vR o, vR iso, vR ar, vI (0 : Int32), vI (1 : Int32), .unset, .unset, .unset, .unset, .unset, .unset] [(.ref iso)])) rfl (hb hby d22_347)
  refine own_vF m T3 350 #[vR o, vR iso, vR ar, vI (0 : Int32), vI (1 : Int32), .unset, .unset, .unset, .unset, .unset, .unset] [(.ref iso), (.ref iso)] (fun t k => st3 t k) ?_
  refine own_vF m T3 353 #[vR o, vR iso, vR ar, vI (0 : Int32), vI (1 : Int32), .unset, .unset, .unset, .unset, .unset, .unset] [] (fun t k => Jvm.RoadKit.acmp (g := (mkF m 350 #[vR o, vR iso, vR ar, vI (0 : Int32), vI (1 : Int32), .unset, .unset, .unset, .unset, .unset, .unset] [(.ref iso), (.ref iso)])) X3 hx rfl rfl rfl (pc0 := 350) (pc' := 353) (same := true) rfl (hb hby d22_350) rfl (decide_eq_true rfl) (by decide) (by decide) k) ?_
  obtain ⟨T4, X4, e4, st4⟩ := getS2 (host := "") X3 hx hZ hown (Or.inl (hw _ (own_mt 53 rfl))) Via.refl e3 Scs (g := (mkF m 353 #[vR o, vR iso, vR ar, vI (0 : Int32), vI (1 : Int32), .unset, .unset, .unset, .unset, .unset, .unset] [])) rfl (hb hby d22_353)
  refine own_vF m T4 356 #[vR o, vR iso, vR ar, vI (0 : Int32), vI (1 : Int32), .unset, .unset, .unset, .unset, .unset, .unset] [(.int cs)] (fun t k => st4 t k) ?_
  refine own_vF m T4 359 #[vR o, vR iso, vR ar, vI (0 : Int32), vI (1 : Int32), .unset, .unset, .unset, .unset, .unset, .unset] [] (fun t k => XS.ifNo X4.here hx rfl (hb hby d22_356) rfl ((if0 _ _).trans (feq SS.2.1).1) k) ?_
  refine own_vF m T4 360 #[vR o, vR iso, vR ar, vI (0 : Int32), vI (1 : Int32), .unset, .unset, .unset, .unset, .unset, .unset] [(.ref o)] (fun t k => XS.aloadN X4.here hx rfl (hb hby d22_359) rfl rfl k) ?_
  refine own_vF m T4 361 #[vR o, vR iso, vR ar, vI (0 : Int32), vI (1 : Int32), .unset, .unset, .unset, .unset, .unset, .unset] [(.ref ar), (.ref o)] (fun t k => XS.aloadN X4.here hx rfl (hb hby d22_360) rfl rfl k) ?_
  refine own_vF m T4 362 #[vR o, vR iso, vR ar, vI (0 : Int32), vI (1 : Int32), .unset, .unset, .unset, .unset, .unset, .unset] [(.int 0), (.ref ar), (.ref o)] (fun t k => XS.iloadN X4.here hx rfl (hb hby d22_361) rfl k) ?_
  refine own_vF m T4 363 #[vR o, vR iso, vR ar, vI (0 : Int32), vI (1 : Int32), .unset, .unset, .unset, .unset, .unset, .unset] [(.int 0), (.int 0), (.ref ar), (.ref o)] (fun t k => XS.iloadN X4.here hx rfl (hb hby d22_362) rfl k) ?_
  refine own_vF m T4 365 #[vR o, vR iso, vR ar, vI (0 : Int32), vI (1 : Int32), .unset, .unset, .unset, .unset, .unset, .unset] [(.int 1), (.int 0), (.int 0), (.ref ar), (.ref o)] (fun t k => XS.iload X4.here hx rfl (hb hby d22_363) rfl k) ?_
  refine own_vF m T4 366 #[vR o, vR iso, vR ar, vI (0 : Int32), vI (1 : Int32), .unset, .unset, .unset, .unset, .unset, .unset] [(.int ((0 : Int32) + (1 : Int32))), (.int 0), (.ref ar), (.ref o)] (fun t k => XS.iadd X4.here hx rfl (hb hby d22_365) rfl k) ?_
  rw [show ((0 : Int32) + (1 : Int32)) = (1 : Int32) from by decide]
  obtain ⟨_, T5, L5, X5, hQ5, st5⟩ := own_callS X4 hx hZ (y := (⟨"java/util/Arrays", "copyOfRange", "([BII)[B"⟩ : MethodName)) (W := 1) hown (hw _ (own_mt 97 rfl)) (hw _ (own_mt 98 rfl)) (hw _ (own_mt 99 rfl)) (hw _ (own_mt 100 rfl)) (by decide) (rm_Qcr11 l Z a0 hw ar kk v1 h0 n0 Z0 Ea Va) (by decide) (by decide) e4 (g := (mkF m 366 #[vR o, vR iso, vR ar, vI (0 : Int32), vI (1 : Int32), .unset, .unset, .unset, .unset, .unset, .unset] [(.int 1), (.int 0), (.ref ar), (.ref o)])) rfl (by rw [hml]; rfl) (argsL := [(.ref ar), (.int 0), (.int 1)]) (rest := [(.ref o)]) rfl (lenOf pd_ABII__AB rfl) rfl own_w0 (hb hby d22_366) (by decide) (by decide)
  obtain ⟨b5r, kr5, rfl, N5q, K5q, B5, V5⟩ := hQ5
  have N5 := Fr.app N0 N5q
  have f12 := Eo.keep K5q
  have f13 := F_v.keep K5q nin0
  have f14 := F_c.keep K5q nin0
  have ne17 := Exa.ne B5 f12 (by decide)
  have K18 := K0.trans K5q all0
  refine own_vF m T5 369 #[vR o, vR iso, vR ar, vI (0 : Int32), vI (1 : Int32), .unset, .unset, .unset, .unset, .unset, .unset] [(.ref b5r), (.ref o)] (fun t k => st5 t k) ?_
  obtain ⟨T19, h19, X19, e19, W19, st19⟩ := putF (host := "") X5 hx hZ hown (Or.inl (hw _ (own_mt 36 rfl))) Via.refl rfl f13 f12 (Or.inr ⟨(hw _ (own_mt 32 rfl)), rfl, hnm⟩) (hw _ (own_mt 11 rfl)) (ty := (.array .byte)) (by decide) rfl rfl (g := (mkF m 369 #[vR o, vR iso, vR ar, vI (0 : Int32), vI (1 : Int32), .unset, .unset, .unset, .unset, .unset, .unset] [(.ref b5r), (.ref o)])) rfl rfl (hb hby d22_369)
  have f19w := f13.same W19
  have f26 := f12.wr W19
  have f27 := f14.other W19 (Or.inr (slot_ne (Or.inr (hw _ (own_mt 33 rfl))) (Or.inr (hw _ (own_mt 32 rfl))) (by decide) (t := .byte) (t' := (.array .byte)) (by decide) (by decide)))
  have f30 := B5.wr W19
  have f31 := V5.other W19 ne17
  have K32 := K18.wr W19 (Or.inl (own_mt 0 rfl))
  have N19 := Fr.snoc X19 N5 gn_o
  refine own_vF m T19 372 #[vR o, vR iso, vR ar, vI (0 : Int32), vI (1 : Int32), .unset, .unset, .unset, .unset, .unset, .unset] [] (fun t k => st19 t k) ?_
  refine own_vF m T19 373 #[vR o, vR iso, vR ar, vI (0 : Int32), vI (1 : Int32), .unset, .unset, .unset, .unset, .unset, .unset] [(.ref o)] (fun t k => XS.aloadN X19.here hx rfl (hb hby d22_372) rfl rfl k) ?_
  refine own_vF m T19 374 #[vR o, vR iso, vR ar, vI (0 : Int32), vI (1 : Int32), .unset, .unset, .unset, .unset, .unset, .unset] [(.int 0), (.ref o)] (fun t k => XS.iconst X19.here hx rfl (hb hby d22_373) k) ?_
  obtain ⟨T33, h33, X33, e33, W33, st33⟩ := putF (host := "") X19 hx hZ hown (Or.inl (hw _ (own_mt 37 rfl))) Via.refl e19 f27 f26 (Or.inr ⟨(hw _ (own_mt 33 rfl)), rfl, hnm⟩) (hw _ (own_mt 11 rfl)) (ty := .byte) (by decide) rfl rfl (g := (mkF m 374 #[vR o, vR iso, vR ar, vI (0 : Int32), vI (1 : Int32), .unset, .unset, .unset, .unset, .unset, .unset] [(.int 0), (.ref o)])) rfl rfl (hb hby d22_374)
  have f33w := f27.same W33
  have f40 := f26.wr W33
  have f43 := f30.wr W33
  have f44 := f31.other W33 ne17
  have f45 := f19w.other W33 (Or.inr (slot_ne (Or.inr (hw _ (own_mt 32 rfl))) (Or.inr (hw _ (own_mt 33 rfl))) (by decide) (t := (.array .byte)) (t' := .byte) (by decide) (by decide)))
  have K46 := K32.wr W33 (Or.inl (own_mt 0 rfl))
  have N33 := Fr.snoc X33 N19 gn_o
  refine own_vF m T33 377 #[vR o, vR iso, vR ar, vI (0 : Int32), vI (1 : Int32), .unset, .unset, .unset, .unset, .unset, .unset] [] (fun t k => st33 t k) ?_
  refine own_vF m T33 879 #[vR o, vR iso, vR ar, vI (0 : Int32), vI (1 : Int32), .unset, .unset, .unset, .unset, .unset, .unset] [] (fun t k => XS.goto X33.here hx rfl (pc0 := 377) (pc' := 879) rfl (hb hby d22_377) (by decide) (by decide) k) ?_
  exact own_ret X33 (v := none) (fun _ => rfl) hlk (fun fs hr => X33.returnOut hx hret (hb hby d22_879) hr) (by rw [e33]; exact ⟨rfl, N33, K46, f40, f33w, b5r, _, f45, f43, f44⟩) (by decide) (by decide)
def Qi52 (Z : State) (o ar : Addr) (kk : ClassId) (v1 v2 : Int32) (cs : Int32) (sf : Value) (iso u8 : Addr) (h0 : Heap) (n0 : Nat) (v : Option Value) (h : Heap) (L : List Loc) : Prop := v = none ∧ Fr n0 L ∧ Keep h0 h [o] ∧ Exa Z h o "java/lang/String" ∧ Fld Z h o "java/lang/String" "coder" "B" (.int 0) ∧ ∃ b kb, Fld Z h o "java/lang/String" "value" "[B" (.ref b) ∧ Exa Z h b "[B" ∧ Arv Z h b kb .byte (2 : Int32) [.int v1, .int v2] (.int 0)
set_option maxRecDepth 65536 in
set_option maxHeartbeats 40000000 in
theorem rm_Qi52 (l : Launch) (Z : State) (a0 : Array Value) (hw : ∀ d ∈ tables_1, d.before a0 Z = true) (o ar : Addr) (kk : ClassId) (v1 v2 : Int32) (cs : Int32) (sf : Value) (iso u8 : Addr) (h0 : Heap) (n0 : Nat) (Z0 : n0 ≤ h0.size) (Od : Old Z n0 h0) (SS : own_SS Z cs sf iso u8) (Eo : Exa Z h0 o "java/lang/String") (F_v : Fld Z h0 o "java/lang/String" "value" "[B" .null) (F_c : Fld Z h0 o "java/lang/String" "coder" "B" (.int 0)) (gn_o : n0 ≤ o) (ne_a : ar ≠ o) (Ea : Exa Z h0 ar "[B") (Va : Arv Z h0 ar kk .byte (2 : Int32) [(.int v1), (.int v2)] (.int 0)) :
    own_MGH l Z ((⟨"java/lang/String", "<init>", "(Ljava/nio/charset/Charset;[BII)V"⟩ : MethodName)) jdk_42_method_11_code 11 none ({ frames := 2, cells := 1, slots := 2, locals := 29 } : Room) [(800, 813, 816, 202)] #[(.ref o), (.ref iso), (.ref ar), (.int 0), (.int 2)] h0 (Qi52 Z o ar kk v1 v2 cs sf iso u8 h0 n0) := by
  refine own_mkGH (plainFor_of_name pn_java_lang_String) ?_
  intro p e s m below meth c s₁ X0 hx hby hml hown hnm hret hlk hZ e0
  have N0 := Fr.nil n0
  have K0 := Keep.refl h0 [o]
  rw [ef_RRRII11 m o iso ar (0 : Int32) (2 : Int32)]
  have Scs := SS.1.ext Od.2
  have Sins := SS.2.2.2.2.2.1.ext Od.2
  have Eiso := SS.2.2.2.2.2.2.1.ext Od.2
  have Su8 := SS.2.2.2.2.2.2.2.1.ext Od.2
  have Eu8 := SS.2.2.2.2.2.2.2.2.ext Od.2
  refine own_vF m s₁ 1 #[vR o, vR iso, vR ar, vI (0 : Int32), vI (2 : Int32), .unset, .unset, .unset, .unset, .unset, .unset] [(.ref o)] (fun t k => XS.aloadN X0.here hx rfl (hb hby d22_0) rfl rfl k) ?_
  obtain ⟨T1, X1, e1, st1⟩ := initO X0 hx hZ hown (hw _ (own_mt 28 rfl)) (hw _ (own_mt 29 rfl)) (hw _ (own_mt 30 rfl)) e0 (g := (mkF m 1 #[vR o, vR iso, vR ar, vI (0 : Int32), vI (2 : Int32), .unset, .unset, .unset, .unset, .unset, .unset] [(.ref o)])) rfl (by rw [hml]; rfl) rfl (hb hby d22_1) (by decide) (W := 0) own_w0 (by decide)
  refine own_vF m T1 4 #[vR o, vR iso, vR ar, vI (0 : Int32), vI (2 : Int32), .unset, .unset, .unset, .unset, .unset, .unset] [] (fun t k => st1 t k) ?_
  refine own_vF m T1 6 #[vR o, vR iso, vR ar, vI (0 : Int32), vI (2 : Int32), .unset, .unset, .unset, .unset, .unset, .unset] [(.int 2)] (fun t k => XS.iload X1.here hx rfl (hb hby d22_4) rfl k) ?_
  refine own_vF m T1 30 #[vR o, vR iso, vR ar, vI (0 : Int32), vI (2 : Int32), .unset, .unset, .unset, .unset, .unset, .unset] [] (fun t k => XS.ifYes X1.here hx rfl (pc0 := 6) (pc' := 30) rfl (hb hby d22_6) rfl ((if0 _ _).trans (feq (by decide : ¬ ((2 : Int32) = (0 : Int32)))).2) (by decide) (by decide) k) ?_
  refine own_vF m T1 31 #[vR o, vR iso, vR ar, vI (0 : Int32), vI (2 : Int32), .unset, .unset, .unset, .unset, .unset, .unset] [(.ref iso)] (fun t k => XS.aloadN X1.here hx rfl (hb hby d22_30) rfl rfl k) ?_
  obtain ⟨T2, X2, e2, st2⟩ := getS2 (host := "") X1 hx hZ hown (Or.inl (hw _ (own_mt 93 rfl))) Via.refl e1 Su8 (g := (mkF m 31 #[vR o, vR iso, vR ar, vI (0 : Int32), vI (2 : Int32), .unset, .unset, .unset, .unset, .unset, .unset] [(.ref iso)])) rfl (hb hby d22_31)
  refine own_vF m T2 34 #[vR o, vR iso, vR ar, vI (0 : Int32), vI (2 : Int32), .unset, .unset, .unset, .unset, .unset, .unset] [(.ref u8), (.ref iso)] (fun t k => st2 t k) ?_
  refine own_vF m T2 346 #[vR o, vR iso, vR ar, vI (0 : Int32), vI (2 : Int32), .unset, .unset, .unset, .unset, .unset, .unset] [] (fun t k => Jvm.RoadKit.acmp (g := (mkF m 34 #[vR o, vR iso, vR ar, vI (0 : Int32), vI (2 : Int32), .unset, .unset, .unset, .unset, .unset, .unset] [(.ref u8), (.ref iso)])) X2 hx rfl rfl rfl (pc0 := 34) (pc' := 346) (same := false) rfl (hb hby d22_34) rfl (decide_eq_false fun q => (Exa.ne Eiso Eu8 (by decide)) (Value.ref.inj q)) (by decide) (by decide) k) ?_
  refine own_vF m T2 347 #[vR o, vR iso, vR ar, vI (0 : Int32), vI (2 : Int32), .unset, .unset, .unset, .unset, .unset, .unset] [(.ref iso)] (fun t k => XS.aloadN X2.here hx rfl (hb hby d22_346) rfl rfl k) ?_
  obtain ⟨T3, X3, e3, st3⟩ := getS2 (host := "") X2 hx hZ hown (Or.inl (hw _ (own_mt 95 rfl))) Via.refl e2 Sins (g := (mkF m 347 #[vR o, vR iso, vR ar, vI (0 : Int32), vI (2 : Int32), .unset, .unset, .unset, .unset, .unset, .unset] [(.ref iso)])) rfl (hb hby d22_347)
  refine own_vF m T3 350 #[vR o, vR iso, vR ar, vI (0 : Int32), vI (2 : Int32), .unset, .unset, .unset, .unset, .unset, .unset] [(.ref iso), (.ref iso)] (fun t k => st3 t k) ?_
  refine own_vF m T3 353 #[vR o, vR iso, vR ar, vI (0 : Int32), vI (2 : Int32), .unset, .unset, .unset, .unset, .unset, .unset] [] (fun t k => Jvm.RoadKit.acmp (g := (mkF m 350 #[vR o, vR iso, vR ar, vI (0 : Int32), vI (2 : Int32), .unset, .unset, .unset, .unset, .unset, .unset] [(.ref iso), (.ref iso)])) X3 hx rfl rfl rfl (pc0 := 350) (pc' := 353) (same := true) rfl (hb hby d22_350) rfl (decide_eq_true rfl) (by decide) (by decide) k) ?_
  obtain ⟨T4, X4, e4, st4⟩ := getS2 (host := "") X3 hx hZ hown (Or.inl (hw _ (own_mt 53 rfl))) Via.refl e3 Scs (g := (mkF m 353 #[vR o, vR iso, vR ar, vI (0 : Int32), vI (2 : Int32), .unset, .unset, .unset, .unset, .unset, .unset] [])) rfl (hb hby d22_353)
  refine own_vF m T4 356 #[vR o, vR iso, vR ar, vI (0 : Int32), vI (2 : Int32), .unset, .unset, .unset, .unset, .unset, .unset] [(.int cs)] (fun t k => st4 t k) ?_
  refine own_vF m T4 359 #[vR o, vR iso, vR ar, vI (0 : Int32), vI (2 : Int32), .unset, .unset, .unset, .unset, .unset, .unset] [] (fun t k => XS.ifNo X4.here hx rfl (hb hby d22_356) rfl ((if0 _ _).trans (feq SS.2.1).1) k) ?_
  refine own_vF m T4 360 #[vR o, vR iso, vR ar, vI (0 : Int32), vI (2 : Int32), .unset, .unset, .unset, .unset, .unset, .unset] [(.ref o)] (fun t k => XS.aloadN X4.here hx rfl (hb hby d22_359) rfl rfl k) ?_
  refine own_vF m T4 361 #[vR o, vR iso, vR ar, vI (0 : Int32), vI (2 : Int32), .unset, .unset, .unset, .unset, .unset, .unset] [(.ref ar), (.ref o)] (fun t k => XS.aloadN X4.here hx rfl (hb hby d22_360) rfl rfl k) ?_
  refine own_vF m T4 362 #[vR o, vR iso, vR ar, vI (0 : Int32), vI (2 : Int32), .unset, .unset, .unset, .unset, .unset, .unset] [(.int 0), (.ref ar), (.ref o)] (fun t k => XS.iloadN X4.here hx rfl (hb hby d22_361) rfl k) ?_
  refine own_vF m T4 363 #[vR o, vR iso, vR ar, vI (0 : Int32), vI (2 : Int32), .unset, .unset, .unset, .unset, .unset, .unset] [(.int 0), (.int 0), (.ref ar), (.ref o)] (fun t k => XS.iloadN X4.here hx rfl (hb hby d22_362) rfl k) ?_
  refine own_vF m T4 365 #[vR o, vR iso, vR ar, vI (0 : Int32), vI (2 : Int32), .unset, .unset, .unset, .unset, .unset, .unset] [(.int 2), (.int 0), (.int 0), (.ref ar), (.ref o)] (fun t k => XS.iload X4.here hx rfl (hb hby d22_363) rfl k) ?_
  refine own_vF m T4 366 #[vR o, vR iso, vR ar, vI (0 : Int32), vI (2 : Int32), .unset, .unset, .unset, .unset, .unset, .unset] [(.int ((0 : Int32) + (2 : Int32))), (.int 0), (.ref ar), (.ref o)] (fun t k => XS.iadd X4.here hx rfl (hb hby d22_365) rfl k) ?_
  rw [show ((0 : Int32) + (2 : Int32)) = (2 : Int32) from by decide]
  obtain ⟨_, T5, L5, X5, hQ5, st5⟩ := own_callS X4 hx hZ (y := (⟨"java/util/Arrays", "copyOfRange", "([BII)[B"⟩ : MethodName)) (W := 1) hown (hw _ (own_mt 97 rfl)) (hw _ (own_mt 98 rfl)) (hw _ (own_mt 99 rfl)) (hw _ (own_mt 100 rfl)) (by decide) (rm_Qcr22 l Z a0 hw ar kk v1 v2 h0 n0 Z0 Ea Va) (by decide) (by decide) e4 (g := (mkF m 366 #[vR o, vR iso, vR ar, vI (0 : Int32), vI (2 : Int32), .unset, .unset, .unset, .unset, .unset, .unset] [(.int 2), (.int 0), (.ref ar), (.ref o)])) rfl (by rw [hml]; rfl) (argsL := [(.ref ar), (.int 0), (.int 2)]) (rest := [(.ref o)]) rfl (lenOf pd_ABII__AB rfl) rfl own_w0 (hb hby d22_366) (by decide) (by decide)
  obtain ⟨b5r, kr5, rfl, N5q, K5q, B5, V5⟩ := hQ5
  have N5 := Fr.app N0 N5q
  have f12 := Eo.keep K5q
  have f13 := F_v.keep K5q nin0
  have f14 := F_c.keep K5q nin0
  have ne17 := Exa.ne B5 f12 (by decide)
  have K18 := K0.trans K5q all0
  refine own_vF m T5 369 #[vR o, vR iso, vR ar, vI (0 : Int32), vI (2 : Int32), .unset, .unset, .unset, .unset, .unset, .unset] [(.ref b5r), (.ref o)] (fun t k => st5 t k) ?_
  obtain ⟨T19, h19, X19, e19, W19, st19⟩ := putF (host := "") X5 hx hZ hown (Or.inl (hw _ (own_mt 36 rfl))) Via.refl rfl f13 f12 (Or.inr ⟨(hw _ (own_mt 32 rfl)), rfl, hnm⟩) (hw _ (own_mt 11 rfl)) (ty := (.array .byte)) (by decide) rfl rfl (g := (mkF m 369 #[vR o, vR iso, vR ar, vI (0 : Int32), vI (2 : Int32), .unset, .unset, .unset, .unset, .unset, .unset] [(.ref b5r), (.ref o)])) rfl rfl (hb hby d22_369)
  have f19w := f13.same W19
  have f26 := f12.wr W19
  have f27 := f14.other W19 (Or.inr (slot_ne (Or.inr (hw _ (own_mt 33 rfl))) (Or.inr (hw _ (own_mt 32 rfl))) (by decide) (t := .byte) (t' := (.array .byte)) (by decide) (by decide)))
  have f30 := B5.wr W19
  have f31 := V5.other W19 ne17
  have K32 := K18.wr W19 (Or.inl (own_mt 0 rfl))
  have N19 := Fr.snoc X19 N5 gn_o
  refine own_vF m T19 372 #[vR o, vR iso, vR ar, vI (0 : Int32), vI (2 : Int32), .unset, .unset, .unset, .unset, .unset, .unset] [] (fun t k => st19 t k) ?_
  refine own_vF m T19 373 #[vR o, vR iso, vR ar, vI (0 : Int32), vI (2 : Int32), .unset, .unset, .unset, .unset, .unset, .unset] [(.ref o)] (fun t k => XS.aloadN X19.here hx rfl (hb hby d22_372) rfl rfl k) ?_
  refine own_vF m T19 374 #[vR o, vR iso, vR ar, vI (0 : Int32), vI (2 : Int32), .unset, .unset, .unset, .unset, .unset, .unset] [(.int 0), (.ref o)] (fun t k => XS.iconst X19.here hx rfl (hb hby d22_373) k) ?_
  obtain ⟨T33, h33, X33, e33, W33, st33⟩ := putF (host := "") X19 hx hZ hown (Or.inl (hw _ (own_mt 37 rfl))) Via.refl e19 f27 f26 (Or.inr ⟨(hw _ (own_mt 33 rfl)), rfl, hnm⟩) (hw _ (own_mt 11 rfl)) (ty := .byte) (by decide) rfl rfl (g := (mkF m 374 #[vR o, vR iso, vR ar, vI (0 : Int32), vI (2 : Int32), .unset, .unset, .unset, .unset, .unset, .unset] [(.int 0), (.ref o)])) rfl rfl (hb hby d22_374)
  have f33w := f27.same W33
  have f40 := f26.wr W33
  have f43 := f30.wr W33
  have f44 := f31.other W33 ne17
  have f45 := f19w.other W33 (Or.inr (slot_ne (Or.inr (hw _ (own_mt 32 rfl))) (Or.inr (hw _ (own_mt 33 rfl))) (by decide) (t := (.array .byte)) (t' := .byte) (by decide) (by decide)))
  have K46 := K32.wr W33 (Or.inl (own_mt 0 rfl))
  have N33 := Fr.snoc X33 N19 gn_o
  refine own_vF m T33 377 #[vR o, vR iso, vR ar, vI (0 : Int32), vI (2 : Int32), .unset, .unset, .unset, .unset, .unset, .unset] [] (fun t k => st33 t k) ?_
  refine own_vF m T33 879 #[vR o, vR iso, vR ar, vI (0 : Int32), vI (2 : Int32), .unset, .unset, .unset, .unset, .unset, .unset] [] (fun t k => XS.goto X33.here hx rfl (pc0 := 377) (pc' := 879) rfl (hb hby d22_377) (by decide) (by decide) k) ?_
  exact own_ret X33 (v := none) (fun _ => rfl) hlk (fun fs hr => X33.returnOut hx hret (hb hby d22_879) hr) (by rw [e33]; exact ⟨rfl, N33, K46, f40, f33w, b5r, _, f45, f43, f44⟩) (by decide) (by decide)
def Qi53 (Z : State) (o ar : Addr) (kk : ClassId) (v1 v2 v3 : Int32) (cs : Int32) (sf : Value) (iso u8 : Addr) (h0 : Heap) (n0 : Nat) (v : Option Value) (h : Heap) (L : List Loc) : Prop := v = none ∧ Fr n0 L ∧ Keep h0 h [o] ∧ Exa Z h o "java/lang/String" ∧ Fld Z h o "java/lang/String" "coder" "B" (.int 0) ∧ ∃ b kb, Fld Z h o "java/lang/String" "value" "[B" (.ref b) ∧ Exa Z h b "[B" ∧ Arv Z h b kb .byte (3 : Int32) [.int v1, .int v2, .int v3] (.int 0)
set_option maxRecDepth 65536 in
set_option maxHeartbeats 40000000 in
theorem rm_Qi53 (l : Launch) (Z : State) (a0 : Array Value) (hw : ∀ d ∈ tables_1, d.before a0 Z = true) (o ar : Addr) (kk : ClassId) (v1 v2 v3 : Int32) (cs : Int32) (sf : Value) (iso u8 : Addr) (h0 : Heap) (n0 : Nat) (Z0 : n0 ≤ h0.size) (Od : Old Z n0 h0) (SS : own_SS Z cs sf iso u8) (Eo : Exa Z h0 o "java/lang/String") (F_v : Fld Z h0 o "java/lang/String" "value" "[B" .null) (F_c : Fld Z h0 o "java/lang/String" "coder" "B" (.int 0)) (gn_o : n0 ≤ o) (ne_a : ar ≠ o) (Ea : Exa Z h0 ar "[B") (Va : Arv Z h0 ar kk .byte (3 : Int32) [(.int v1), (.int v2), (.int v3)] (.int 0)) :
    own_MGH l Z ((⟨"java/lang/String", "<init>", "(Ljava/nio/charset/Charset;[BII)V"⟩ : MethodName)) jdk_42_method_11_code 11 none ({ frames := 2, cells := 1, slots := 3, locals := 29 } : Room) [(800, 813, 816, 202)] #[(.ref o), (.ref iso), (.ref ar), (.int 0), (.int 3)] h0 (Qi53 Z o ar kk v1 v2 v3 cs sf iso u8 h0 n0) := by
  refine own_mkGH (plainFor_of_name pn_java_lang_String) ?_
  intro p e s m below meth c s₁ X0 hx hby hml hown hnm hret hlk hZ e0
  have N0 := Fr.nil n0
  have K0 := Keep.refl h0 [o]
  rw [ef_RRRII11 m o iso ar (0 : Int32) (3 : Int32)]
  have Scs := SS.1.ext Od.2
  have Sins := SS.2.2.2.2.2.1.ext Od.2
  have Eiso := SS.2.2.2.2.2.2.1.ext Od.2
  have Su8 := SS.2.2.2.2.2.2.2.1.ext Od.2
  have Eu8 := SS.2.2.2.2.2.2.2.2.ext Od.2
  refine own_vF m s₁ 1 #[vR o, vR iso, vR ar, vI (0 : Int32), vI (3 : Int32), .unset, .unset, .unset, .unset, .unset, .unset] [(.ref o)] (fun t k => XS.aloadN X0.here hx rfl (hb hby d22_0) rfl rfl k) ?_
  obtain ⟨T1, X1, e1, st1⟩ := initO X0 hx hZ hown (hw _ (own_mt 28 rfl)) (hw _ (own_mt 29 rfl)) (hw _ (own_mt 30 rfl)) e0 (g := (mkF m 1 #[vR o, vR iso, vR ar, vI (0 : Int32), vI (3 : Int32), .unset, .unset, .unset, .unset, .unset, .unset] [(.ref o)])) rfl (by rw [hml]; rfl) rfl (hb hby d22_1) (by decide) (W := 0) own_w0 (by decide)
  refine own_vF m T1 4 #[vR o, vR iso, vR ar, vI (0 : Int32), vI (3 : Int32), .unset, .unset, .unset, .unset, .unset, .unset] [] (fun t k => st1 t k) ?_
  refine own_vF m T1 6 #[vR o, vR iso, vR ar, vI (0 : Int32), vI (3 : Int32), .unset, .unset, .unset, .unset, .unset, .unset] [(.int 3)] (fun t k => XS.iload X1.here hx rfl (hb hby d22_4) rfl k) ?_
  refine own_vF m T1 30 #[vR o, vR iso, vR ar, vI (0 : Int32), vI (3 : Int32), .unset, .unset, .unset, .unset, .unset, .unset] [] (fun t k => XS.ifYes X1.here hx rfl (pc0 := 6) (pc' := 30) rfl (hb hby d22_6) rfl ((if0 _ _).trans (feq (by decide : ¬ ((3 : Int32) = (0 : Int32)))).2) (by decide) (by decide) k) ?_
  refine own_vF m T1 31 #[vR o, vR iso, vR ar, vI (0 : Int32), vI (3 : Int32), .unset, .unset, .unset, .unset, .unset, .unset] [(.ref iso)] (fun t k => XS.aloadN X1.here hx rfl (hb hby d22_30) rfl rfl k) ?_
  obtain ⟨T2, X2, e2, st2⟩ := getS2 (host := "") X1 hx hZ hown (Or.inl (hw _ (own_mt 93 rfl))) Via.refl e1 Su8 (g := (mkF m 31 #[vR o, vR iso, vR ar, vI (0 : Int32), vI (3 : Int32), .unset, .unset, .unset, .unset, .unset, .unset] [(.ref iso)])) rfl (hb hby d22_31)
  refine own_vF m T2 34 #[vR o, vR iso, vR ar, vI (0 : Int32), vI (3 : Int32), .unset, .unset, .unset, .unset, .unset, .unset] [(.ref u8), (.ref iso)] (fun t k => st2 t k) ?_
  refine own_vF m T2 346 #[vR o, vR iso, vR ar, vI (0 : Int32), vI (3 : Int32), .unset, .unset, .unset, .unset, .unset, .unset] [] (fun t k => Jvm.RoadKit.acmp (g := (mkF m 34 #[vR o, vR iso, vR ar, vI (0 : Int32), vI (3 : Int32), .unset, .unset, .unset, .unset, .unset, .unset] [(.ref u8), (.ref iso)])) X2 hx rfl rfl rfl (pc0 := 34) (pc' := 346) (same := false) rfl (hb hby d22_34) rfl (decide_eq_false fun q => (Exa.ne Eiso Eu8 (by decide)) (Value.ref.inj q)) (by decide) (by decide) k) ?_
  refine own_vF m T2 347 #[vR o, vR iso, vR ar, vI (0 : Int32), vI (3 : Int32), .unset, .unset, .unset, .unset, .unset, .unset] [(.ref iso)] (fun t k => XS.aloadN X2.here hx rfl (hb hby d22_346) rfl rfl k) ?_
  obtain ⟨T3, X3, e3, st3⟩ := getS2 (host := "") X2 hx hZ hown (Or.inl (hw _ (own_mt 95 rfl))) Via.refl e2 Sins (g := (mkF m 347 #[vR o, vR iso, vR ar, vI (0 : Int32), vI (3 : Int32), .unset, .unset, .unset, .unset, .unset, .unset] [(.ref iso)])) rfl (hb hby d22_347)
  refine own_vF m T3 350 #[vR o, vR iso, vR ar, vI (0 : Int32), vI (3 : Int32), .unset, .unset, .unset, .unset, .unset, .unset] [(.ref iso), (.ref iso)] (fun t k => st3 t k) ?_
  refine own_vF m T3 353 #[vR o, vR iso, vR ar, vI (0 : Int32), vI (3 : Int32), .unset, .unset, .unset, .unset, .unset, .unset] [] (fun t k => Jvm.RoadKit.acmp (g := (mkF m 350 #[vR o, vR iso, vR ar, vI (0 : Int32), vI (3 : Int32), .unset, .unset, .unset, .unset, .unset, .unset] [(.ref iso), (.ref iso)])) X3 hx rfl rfl rfl (pc0 := 350) (pc' := 353) (same := true) rfl (hb hby d22_350) rfl (decide_eq_true rfl) (by decide) (by decide) k) ?_
  obtain ⟨T4, X4, e4, st4⟩ := getS2 (host := "") X3 hx hZ hown (Or.inl (hw _ (own_mt 53 rfl))) Via.refl e3 Scs (g := (mkF m 353 #[vR o, vR iso, vR ar, vI (0 : Int32), vI (3 : Int32), .unset, .unset, .unset, .unset, .unset, .unset] [])) rfl (hb hby d22_353)
  refine own_vF m T4 356 #[vR o, vR iso, vR ar, vI (0 : Int32), vI (3 : Int32), .unset, .unset, .unset, .unset, .unset, .unset] [(.int cs)] (fun t k => st4 t k) ?_
  refine own_vF m T4 359 #[vR o, vR iso, vR ar, vI (0 : Int32), vI (3 : Int32), .unset, .unset, .unset, .unset, .unset, .unset] [] (fun t k => XS.ifNo X4.here hx rfl (hb hby d22_356) rfl ((if0 _ _).trans (feq SS.2.1).1) k) ?_
  refine own_vF m T4 360 #[vR o, vR iso, vR ar, vI (0 : Int32), vI (3 : Int32), .unset, .unset, .unset, .unset, .unset, .unset] [(.ref o)] (fun t k => XS.aloadN X4.here hx rfl (hb hby d22_359) rfl rfl k) ?_
  refine own_vF m T4 361 #[vR o, vR iso, vR ar, vI (0 : Int32), vI (3 : Int32), .unset, .unset, .unset, .unset, .unset, .unset] [(.ref ar), (.ref o)] (fun t k => XS.aloadN X4.here hx rfl (hb hby d22_360) rfl rfl k) ?_
  refine own_vF m T4 362 #[vR o, vR iso, vR ar, vI (0 : Int32), vI (3 : Int32), .unset, .unset, .unset, .unset, .unset, .unset] [(.int 0), (.ref ar), (.ref o)] (fun t k => XS.iloadN X4.here hx rfl (hb hby d22_361) rfl k) ?_
  refine own_vF m T4 363 #[vR o, vR iso, vR ar, vI (0 : Int32), vI (3 : Int32), .unset, .unset, .unset, .unset, .unset, .unset] [(.int 0), (.int 0), (.ref ar), (.ref o)] (fun t k => XS.iloadN X4.here hx rfl (hb hby d22_362) rfl k) ?_
  refine own_vF m T4 365 #[vR o, vR iso, vR ar, vI (0 : Int32), vI (3 : Int32), .unset, .unset, .unset, .unset, .unset, .unset] [(.int 3), (.int 0), (.int 0), (.ref ar), (.ref o)] (fun t k => XS.iload X4.here hx rfl (hb hby d22_363) rfl k) ?_
  refine own_vF m T4 366 #[vR o, vR iso, vR ar, vI (0 : Int32), vI (3 : Int32), .unset, .unset, .unset, .unset, .unset, .unset] [(.int ((0 : Int32) + (3 : Int32))), (.int 0), (.ref ar), (.ref o)] (fun t k => XS.iadd X4.here hx rfl (hb hby d22_365) rfl k) ?_
  rw [show ((0 : Int32) + (3 : Int32)) = (3 : Int32) from by decide]
  obtain ⟨_, T5, L5, X5, hQ5, st5⟩ := own_callS X4 hx hZ (y := (⟨"java/util/Arrays", "copyOfRange", "([BII)[B"⟩ : MethodName)) (W := 1) hown (hw _ (own_mt 97 rfl)) (hw _ (own_mt 98 rfl)) (hw _ (own_mt 99 rfl)) (hw _ (own_mt 100 rfl)) (by decide) (rm_Qcr33 l Z a0 hw ar kk v1 v2 v3 h0 n0 Z0 Ea Va) (by decide) (by decide) e4 (g := (mkF m 366 #[vR o, vR iso, vR ar, vI (0 : Int32), vI (3 : Int32), .unset, .unset, .unset, .unset, .unset, .unset] [(.int 3), (.int 0), (.ref ar), (.ref o)])) rfl (by rw [hml]; rfl) (argsL := [(.ref ar), (.int 0), (.int 3)]) (rest := [(.ref o)]) rfl (lenOf pd_ABII__AB rfl) rfl own_w0 (hb hby d22_366) (by decide) (by decide)
  obtain ⟨b5r, kr5, rfl, N5q, K5q, B5, V5⟩ := hQ5
  have N5 := Fr.app N0 N5q
  have f12 := Eo.keep K5q
  have f13 := F_v.keep K5q nin0
  have f14 := F_c.keep K5q nin0
  have ne17 := Exa.ne B5 f12 (by decide)
  have K18 := K0.trans K5q all0
  refine own_vF m T5 369 #[vR o, vR iso, vR ar, vI (0 : Int32), vI (3 : Int32), .unset, .unset, .unset, .unset, .unset, .unset] [(.ref b5r), (.ref o)] (fun t k => st5 t k) ?_
  obtain ⟨T19, h19, X19, e19, W19, st19⟩ := putF (host := "") X5 hx hZ hown (Or.inl (hw _ (own_mt 36 rfl))) Via.refl rfl f13 f12 (Or.inr ⟨(hw _ (own_mt 32 rfl)), rfl, hnm⟩) (hw _ (own_mt 11 rfl)) (ty := (.array .byte)) (by decide) rfl rfl (g := (mkF m 369 #[vR o, vR iso, vR ar, vI (0 : Int32), vI (3 : Int32), .unset, .unset, .unset, .unset, .unset, .unset] [(.ref b5r), (.ref o)])) rfl rfl (hb hby d22_369)
  have f19w := f13.same W19
  have f26 := f12.wr W19
  have f27 := f14.other W19 (Or.inr (slot_ne (Or.inr (hw _ (own_mt 33 rfl))) (Or.inr (hw _ (own_mt 32 rfl))) (by decide) (t := .byte) (t' := (.array .byte)) (by decide) (by decide)))
  have f30 := B5.wr W19
  have f31 := V5.other W19 ne17
  have K32 := K18.wr W19 (Or.inl (own_mt 0 rfl))
  have N19 := Fr.snoc X19 N5 gn_o
  refine own_vF m T19 372 #[vR o, vR iso, vR ar, vI (0 : Int32), vI (3 : Int32), .unset, .unset, .unset, .unset, .unset, .unset] [] (fun t k => st19 t k) ?_
  refine own_vF m T19 373 #[vR o, vR iso, vR ar, vI (0 : Int32), vI (3 : Int32), .unset, .unset, .unset, .unset, .unset, .unset] [(.ref o)] (fun t k => XS.aloadN X19.here hx rfl (hb hby d22_372) rfl rfl k) ?_
  refine own_vF m T19 374 #[vR o, vR iso, vR ar, vI (0 : Int32), vI (3 : Int32), .unset, .unset, .unset, .unset, .unset, .unset] [(.int 0), (.ref o)] (fun t k => XS.iconst X19.here hx rfl (hb hby d22_373) k) ?_
  obtain ⟨T33, h33, X33, e33, W33, st33⟩ := putF (host := "") X19 hx hZ hown (Or.inl (hw _ (own_mt 37 rfl))) Via.refl e19 f27 f26 (Or.inr ⟨(hw _ (own_mt 33 rfl)), rfl, hnm⟩) (hw _ (own_mt 11 rfl)) (ty := .byte) (by decide) rfl rfl (g := (mkF m 374 #[vR o, vR iso, vR ar, vI (0 : Int32), vI (3 : Int32), .unset, .unset, .unset, .unset, .unset, .unset] [(.int 0), (.ref o)])) rfl rfl (hb hby d22_374)
  have f33w := f27.same W33
  have f40 := f26.wr W33
  have f43 := f30.wr W33
  have f44 := f31.other W33 ne17
  have f45 := f19w.other W33 (Or.inr (slot_ne (Or.inr (hw _ (own_mt 32 rfl))) (Or.inr (hw _ (own_mt 33 rfl))) (by decide) (t := (.array .byte)) (t' := .byte) (by decide) (by decide)))
  have K46 := K32.wr W33 (Or.inl (own_mt 0 rfl))
  have N33 := Fr.snoc X33 N19 gn_o
  refine own_vF m T33 377 #[vR o, vR iso, vR ar, vI (0 : Int32), vI (3 : Int32), .unset, .unset, .unset, .unset, .unset, .unset] [] (fun t k => st33 t k) ?_
  refine own_vF m T33 879 #[vR o, vR iso, vR ar, vI (0 : Int32), vI (3 : Int32), .unset, .unset, .unset, .unset, .unset, .unset] [] (fun t k => XS.goto X33.here hx rfl (pc0 := 377) (pc' := 879) rfl (hb hby d22_377) (by decide) (by decide) k) ?_
  exact own_ret X33 (v := none) (fun _ => rfl) hlk (fun fs hr => X33.returnOut hx hret (hb hby d22_879) hr) (by rw [e33]; exact ⟨rfl, N33, K46, f40, f33w, b5r, _, f45, f43, f44⟩) (by decide) (by decide)
def Qi54 (Z : State) (o ar : Addr) (kk : ClassId) (v1 v2 v3 v4 : Int32) (cs : Int32) (sf : Value) (iso u8 : Addr) (h0 : Heap) (n0 : Nat) (v : Option Value) (h : Heap) (L : List Loc) : Prop := v = none ∧ Fr n0 L ∧ Keep h0 h [o] ∧ Exa Z h o "java/lang/String" ∧ Fld Z h o "java/lang/String" "coder" "B" (.int 0) ∧ ∃ b kb, Fld Z h o "java/lang/String" "value" "[B" (.ref b) ∧ Exa Z h b "[B" ∧ Arv Z h b kb .byte (4 : Int32) [.int v1, .int v2, .int v3, .int v4] (.int 0)
set_option maxRecDepth 65536 in
set_option maxHeartbeats 40000000 in
theorem rm_Qi54 (l : Launch) (Z : State) (a0 : Array Value) (hw : ∀ d ∈ tables_1, d.before a0 Z = true) (o ar : Addr) (kk : ClassId) (v1 v2 v3 v4 : Int32) (cs : Int32) (sf : Value) (iso u8 : Addr) (h0 : Heap) (n0 : Nat) (Z0 : n0 ≤ h0.size) (Od : Old Z n0 h0) (SS : own_SS Z cs sf iso u8) (Eo : Exa Z h0 o "java/lang/String") (F_v : Fld Z h0 o "java/lang/String" "value" "[B" .null) (F_c : Fld Z h0 o "java/lang/String" "coder" "B" (.int 0)) (gn_o : n0 ≤ o) (ne_a : ar ≠ o) (Ea : Exa Z h0 ar "[B") (Va : Arv Z h0 ar kk .byte (4 : Int32) [(.int v1), (.int v2), (.int v3), (.int v4)] (.int 0)) :
    own_MGH l Z ((⟨"java/lang/String", "<init>", "(Ljava/nio/charset/Charset;[BII)V"⟩ : MethodName)) jdk_42_method_11_code 11 none ({ frames := 2, cells := 1, slots := 4, locals := 29 } : Room) [(800, 813, 816, 202)] #[(.ref o), (.ref iso), (.ref ar), (.int 0), (.int 4)] h0 (Qi54 Z o ar kk v1 v2 v3 v4 cs sf iso u8 h0 n0) := by
  refine own_mkGH (plainFor_of_name pn_java_lang_String) ?_
  intro p e s m below meth c s₁ X0 hx hby hml hown hnm hret hlk hZ e0
  have N0 := Fr.nil n0
  have K0 := Keep.refl h0 [o]
  rw [ef_RRRII11 m o iso ar (0 : Int32) (4 : Int32)]
  have Scs := SS.1.ext Od.2
  have Sins := SS.2.2.2.2.2.1.ext Od.2
  have Eiso := SS.2.2.2.2.2.2.1.ext Od.2
  have Su8 := SS.2.2.2.2.2.2.2.1.ext Od.2
  have Eu8 := SS.2.2.2.2.2.2.2.2.ext Od.2
  refine own_vF m s₁ 1 #[vR o, vR iso, vR ar, vI (0 : Int32), vI (4 : Int32), .unset, .unset, .unset, .unset, .unset, .unset] [(.ref o)] (fun t k => XS.aloadN X0.here hx rfl (hb hby d22_0) rfl rfl k) ?_
  obtain ⟨T1, X1, e1, st1⟩ := initO X0 hx hZ hown (hw _ (own_mt 28 rfl)) (hw _ (own_mt 29 rfl)) (hw _ (own_mt 30 rfl)) e0 (g := (mkF m 1 #[vR o, vR iso, vR ar, vI (0 : Int32), vI (4 : Int32), .unset, .unset, .unset, .unset, .unset, .unset] [(.ref o)])) rfl (by rw [hml]; rfl) rfl (hb hby d22_1) (by decide) (W := 0) own_w0 (by decide)
  refine own_vF m T1 4 #[vR o, vR iso, vR ar, vI (0 : Int32), vI (4 : Int32), .unset, .unset, .unset, .unset, .unset, .unset] [] (fun t k => st1 t k) ?_
  refine own_vF m T1 6 #[vR o, vR iso, vR ar, vI (0 : Int32), vI (4 : Int32), .unset, .unset, .unset, .unset, .unset, .unset] [(.int 4)] (fun t k => XS.iload X1.here hx rfl (hb hby d22_4) rfl k) ?_
  refine own_vF m T1 30 #[vR o, vR iso, vR ar, vI (0 : Int32), vI (4 : Int32), .unset, .unset, .unset, .unset, .unset, .unset] [] (fun t k => XS.ifYes X1.here hx rfl (pc0 := 6) (pc' := 30) rfl (hb hby d22_6) rfl ((if0 _ _).trans (feq (by decide : ¬ ((4 : Int32) = (0 : Int32)))).2) (by decide) (by decide) k) ?_
  refine own_vF m T1 31 #[vR o, vR iso, vR ar, vI (0 : Int32), vI (4 : Int32), .unset, .unset, .unset, .unset, .unset, .unset] [(.ref iso)] (fun t k => XS.aloadN X1.here hx rfl (hb hby d22_30) rfl rfl k) ?_
  obtain ⟨T2, X2, e2, st2⟩ := getS2 (host := "") X1 hx hZ hown (Or.inl (hw _ (own_mt 93 rfl))) Via.refl e1 Su8 (g := (mkF m 31 #[vR o, vR iso, vR ar, vI (0 : Int32), vI (4 : Int32), .unset, .unset, .unset, .unset, .unset, .unset] [(.ref iso)])) rfl (hb hby d22_31)
  refine own_vF m T2 34 #[vR o, vR iso, vR ar, vI (0 : Int32), vI (4 : Int32), .unset, .unset, .unset, .unset, .unset, .unset] [(.ref u8), (.ref iso)] (fun t k => st2 t k) ?_
  refine own_vF m T2 346 #[vR o, vR iso, vR ar, vI (0 : Int32), vI (4 : Int32), .unset, .unset, .unset, .unset, .unset, .unset] [] (fun t k => Jvm.RoadKit.acmp (g := (mkF m 34 #[vR o, vR iso, vR ar, vI (0 : Int32), vI (4 : Int32), .unset, .unset, .unset, .unset, .unset, .unset] [(.ref u8), (.ref iso)])) X2 hx rfl rfl rfl (pc0 := 34) (pc' := 346) (same := false) rfl (hb hby d22_34) rfl (decide_eq_false fun q => (Exa.ne Eiso Eu8 (by decide)) (Value.ref.inj q)) (by decide) (by decide) k) ?_
  refine own_vF m T2 347 #[vR o, vR iso, vR ar, vI (0 : Int32), vI (4 : Int32), .unset, .unset, .unset, .unset, .unset, .unset] [(.ref iso)] (fun t k => XS.aloadN X2.here hx rfl (hb hby d22_346) rfl rfl k) ?_
  obtain ⟨T3, X3, e3, st3⟩ := getS2 (host := "") X2 hx hZ hown (Or.inl (hw _ (own_mt 95 rfl))) Via.refl e2 Sins (g := (mkF m 347 #[vR o, vR iso, vR ar, vI (0 : Int32), vI (4 : Int32), .unset, .unset, .unset, .unset, .unset, .unset] [(.ref iso)])) rfl (hb hby d22_347)
  refine own_vF m T3 350 #[vR o, vR iso, vR ar, vI (0 : Int32), vI (4 : Int32), .unset, .unset, .unset, .unset, .unset, .unset] [(.ref iso), (.ref iso)] (fun t k => st3 t k) ?_
  refine own_vF m T3 353 #[vR o, vR iso, vR ar, vI (0 : Int32), vI (4 : Int32), .unset, .unset, .unset, .unset, .unset, .unset] [] (fun t k => Jvm.RoadKit.acmp (g := (mkF m 350 #[vR o, vR iso, vR ar, vI (0 : Int32), vI (4 : Int32), .unset, .unset, .unset, .unset, .unset, .unset] [(.ref iso), (.ref iso)])) X3 hx rfl rfl rfl (pc0 := 350) (pc' := 353) (same := true) rfl (hb hby d22_350) rfl (decide_eq_true rfl) (by decide) (by decide) k) ?_
  obtain ⟨T4, X4, e4, st4⟩ := getS2 (host := "") X3 hx hZ hown (Or.inl (hw _ (own_mt 53 rfl))) Via.refl e3 Scs (g := (mkF m 353 #[vR o, vR iso, vR ar, vI (0 : Int32), vI (4 : Int32), .unset, .unset, .unset, .unset, .unset, .unset] [])) rfl (hb hby d22_353)
  refine own_vF m T4 356 #[vR o, vR iso, vR ar, vI (0 : Int32), vI (4 : Int32), .unset, .unset, .unset, .unset, .unset, .unset] [(.int cs)] (fun t k => st4 t k) ?_
  refine own_vF m T4 359 #[vR o, vR iso, vR ar, vI (0 : Int32), vI (4 : Int32), .unset, .unset, .unset, .unset, .unset, .unset] [] (fun t k => XS.ifNo X4.here hx rfl (hb hby d22_356) rfl ((if0 _ _).trans (feq SS.2.1).1) k) ?_
  refine own_vF m T4 360 #[vR o, vR iso, vR ar, vI (0 : Int32), vI (4 : Int32), .unset, .unset, .unset, .unset, .unset, .unset] [(.ref o)] (fun t k => XS.aloadN X4.here hx rfl (hb hby d22_359) rfl rfl k) ?_
  refine own_vF m T4 361 #[vR o, vR iso, vR ar, vI (0 : Int32), vI (4 : Int32), .unset, .unset, .unset, .unset, .unset, .unset] [(.ref ar), (.ref o)] (fun t k => XS.aloadN X4.here hx rfl (hb hby d22_360) rfl rfl k) ?_
  refine own_vF m T4 362 #[vR o, vR iso, vR ar, vI (0 : Int32), vI (4 : Int32), .unset, .unset, .unset, .unset, .unset, .unset] [(.int 0), (.ref ar), (.ref o)] (fun t k => XS.iloadN X4.here hx rfl (hb hby d22_361) rfl k) ?_
  refine own_vF m T4 363 #[vR o, vR iso, vR ar, vI (0 : Int32), vI (4 : Int32), .unset, .unset, .unset, .unset, .unset, .unset] [(.int 0), (.int 0), (.ref ar), (.ref o)] (fun t k => XS.iloadN X4.here hx rfl (hb hby d22_362) rfl k) ?_
  refine own_vF m T4 365 #[vR o, vR iso, vR ar, vI (0 : Int32), vI (4 : Int32), .unset, .unset, .unset, .unset, .unset, .unset] [(.int 4), (.int 0), (.int 0), (.ref ar), (.ref o)] (fun t k => XS.iload X4.here hx rfl (hb hby d22_363) rfl k) ?_
  refine own_vF m T4 366 #[vR o, vR iso, vR ar, vI (0 : Int32), vI (4 : Int32), .unset, .unset, .unset, .unset, .unset, .unset] [(.int ((0 : Int32) + (4 : Int32))), (.int 0), (.ref ar), (.ref o)] (fun t k => XS.iadd X4.here hx rfl (hb hby d22_365) rfl k) ?_
  rw [show ((0 : Int32) + (4 : Int32)) = (4 : Int32) from by decide]
  obtain ⟨_, T5, L5, X5, hQ5, st5⟩ := own_callS X4 hx hZ (y := (⟨"java/util/Arrays", "copyOfRange", "([BII)[B"⟩ : MethodName)) (W := 1) hown (hw _ (own_mt 97 rfl)) (hw _ (own_mt 98 rfl)) (hw _ (own_mt 99 rfl)) (hw _ (own_mt 100 rfl)) (by decide) (rm_Qcr44 l Z a0 hw ar kk v1 v2 v3 v4 h0 n0 Z0 Ea Va) (by decide) (by decide) e4 (g := (mkF m 366 #[vR o, vR iso, vR ar, vI (0 : Int32), vI (4 : Int32), .unset, .unset, .unset, .unset, .unset, .unset] [(.int 4), (.int 0), (.ref ar), (.ref o)])) rfl (by rw [hml]; rfl) (argsL := [(.ref ar), (.int 0), (.int 4)]) (rest := [(.ref o)]) rfl (lenOf pd_ABII__AB rfl) rfl own_w0 (hb hby d22_366) (by decide) (by decide)
  obtain ⟨b5r, kr5, rfl, N5q, K5q, B5, V5⟩ := hQ5
  have N5 := Fr.app N0 N5q
  have f12 := Eo.keep K5q
  have f13 := F_v.keep K5q nin0
  have f14 := F_c.keep K5q nin0
  have ne17 := Exa.ne B5 f12 (by decide)
  have K18 := K0.trans K5q all0
  refine own_vF m T5 369 #[vR o, vR iso, vR ar, vI (0 : Int32), vI (4 : Int32), .unset, .unset, .unset, .unset, .unset, .unset] [(.ref b5r), (.ref o)] (fun t k => st5 t k) ?_
  obtain ⟨T19, h19, X19, e19, W19, st19⟩ := putF (host := "") X5 hx hZ hown (Or.inl (hw _ (own_mt 36 rfl))) Via.refl rfl f13 f12 (Or.inr ⟨(hw _ (own_mt 32 rfl)), rfl, hnm⟩) (hw _ (own_mt 11 rfl)) (ty := (.array .byte)) (by decide) rfl rfl (g := (mkF m 369 #[vR o, vR iso, vR ar, vI (0 : Int32), vI (4 : Int32), .unset, .unset, .unset, .unset, .unset, .unset] [(.ref b5r), (.ref o)])) rfl rfl (hb hby d22_369)
  have f19w := f13.same W19
  have f26 := f12.wr W19
  have f27 := f14.other W19 (Or.inr (slot_ne (Or.inr (hw _ (own_mt 33 rfl))) (Or.inr (hw _ (own_mt 32 rfl))) (by decide) (t := .byte) (t' := (.array .byte)) (by decide) (by decide)))
  have f30 := B5.wr W19
  have f31 := V5.other W19 ne17
  have K32 := K18.wr W19 (Or.inl (own_mt 0 rfl))
  have N19 := Fr.snoc X19 N5 gn_o
  refine own_vF m T19 372 #[vR o, vR iso, vR ar, vI (0 : Int32), vI (4 : Int32), .unset, .unset, .unset, .unset, .unset, .unset] [] (fun t k => st19 t k) ?_
  refine own_vF m T19 373 #[vR o, vR iso, vR ar, vI (0 : Int32), vI (4 : Int32), .unset, .unset, .unset, .unset, .unset, .unset] [(.ref o)] (fun t k => XS.aloadN X19.here hx rfl (hb hby d22_372) rfl rfl k) ?_
  refine own_vF m T19 374 #[vR o, vR iso, vR ar, vI (0 : Int32), vI (4 : Int32), .unset, .unset, .unset, .unset, .unset, .unset] [(.int 0), (.ref o)] (fun t k => XS.iconst X19.here hx rfl (hb hby d22_373) k) ?_
  obtain ⟨T33, h33, X33, e33, W33, st33⟩ := putF (host := "") X19 hx hZ hown (Or.inl (hw _ (own_mt 37 rfl))) Via.refl e19 f27 f26 (Or.inr ⟨(hw _ (own_mt 33 rfl)), rfl, hnm⟩) (hw _ (own_mt 11 rfl)) (ty := .byte) (by decide) rfl rfl (g := (mkF m 374 #[vR o, vR iso, vR ar, vI (0 : Int32), vI (4 : Int32), .unset, .unset, .unset, .unset, .unset, .unset] [(.int 0), (.ref o)])) rfl rfl (hb hby d22_374)
  have f33w := f27.same W33
  have f40 := f26.wr W33
  have f43 := f30.wr W33
  have f44 := f31.other W33 ne17
  have f45 := f19w.other W33 (Or.inr (slot_ne (Or.inr (hw _ (own_mt 32 rfl))) (Or.inr (hw _ (own_mt 33 rfl))) (by decide) (t := (.array .byte)) (t' := .byte) (by decide) (by decide)))
  have K46 := K32.wr W33 (Or.inl (own_mt 0 rfl))
  have N33 := Fr.snoc X33 N19 gn_o
  refine own_vF m T33 377 #[vR o, vR iso, vR ar, vI (0 : Int32), vI (4 : Int32), .unset, .unset, .unset, .unset, .unset, .unset] [] (fun t k => st33 t k) ?_
  refine own_vF m T33 879 #[vR o, vR iso, vR ar, vI (0 : Int32), vI (4 : Int32), .unset, .unset, .unset, .unset, .unset, .unset] [] (fun t k => XS.goto X33.here hx rfl (pc0 := 377) (pc' := 879) rfl (hb hby d22_377) (by decide) (by decide) k) ?_
  exact own_ret X33 (v := none) (fun _ => rfl) hlk (fun fs hr => X33.returnOut hx hret (hb hby d22_879) hr) (by rw [e33]; exact ⟨rfl, N33, K46, f40, f33w, b5r, _, f45, f43, f44⟩) (by decide) (by decide)
def Qi20 (Z : State) (o ar : Addr) (kk : ClassId)  (cs : Int32) (sf : Value) (iso u8 : Addr) (h0 : Heap) (n0 : Nat) (v : Option Value) (h : Heap) (L : List Loc) : Prop := v = none ∧ Fr n0 L ∧ Keep h0 h [o] ∧ Exa Z h o "java/lang/String" ∧ Fld Z h o "java/lang/String" "coder" "B" (.int 0) ∧ ∃ b kb, Fld Z h o "java/lang/String" "value" "[B" (.ref b) ∧ Arv Z h b kb .byte (0 : Int32) [] (.int 0)
theorem d23_0 : decode jdk_42_method_49_code 0 = .ok (.aload_n 0, 1) := by decide +kernel
theorem d23_1 : decode jdk_42_method_49_code 1 = .ok (.aload_n 2, 1) := by decide +kernel
theorem pd_Ljava_lang_Object___Ljava_lang_Object_ : parseMethodDescriptor "(Ljava/lang/Object;)Ljava/lang/Object;" = some ⟨[(.object "java/lang/Object")], some (.object "java/lang/Object")⟩ := by decide +kernel
theorem d23_2 : decode jdk_42_method_49_code 2 = .ok (.invokestatic 78, 3) := by decide +kernel
theorem d23_5 : decode jdk_42_method_49_code 5 = .ok (.checkcast 84, 3) := by decide +kernel
theorem d23_8 : decode jdk_42_method_49_code 8 = .ok (.aload_n 1, 1) := by decide +kernel
theorem d23_9 : decode jdk_42_method_49_code 9 = .ok (.iconst 0, 1) := by decide +kernel
theorem d23_10 : decode jdk_42_method_49_code 10 = .ok (.aload_n 1, 1) := by decide +kernel
theorem d23_11 : decode jdk_42_method_49_code 11 = .ok (.arraylength, 1) := by decide +kernel
theorem pd_Ljava_nio_charset_Charset_ABII__V : parseMethodDescriptor "(Ljava/nio/charset/Charset;[BII)V" = some ⟨[(.object "java/nio/charset/Charset"), (.array .byte), .int, .int], none⟩ := by decide +kernel
theorem d23_12 : decode jdk_42_method_49_code 12 = .ok (.invokespecial 75, 3) := by decide +kernel
theorem d23_15 : decode jdk_42_method_49_code 15 = .ok (.return_, 1) := by decide +kernel
theorem ef_RRR3 (m : MethodId) (x0 : Addr) (x1 : Addr) (x2 : Addr) : entryFrame m #[(.ref x0), (.ref x1), (.ref x2)] 3 = mkF m 0 #[vR x0, vR x1, vR x2] [] := by first | (simp [entryFrame, mkF, argsToLocals, Value.category]; done) | rfl
set_option maxRecDepth 65536 in
set_option maxHeartbeats 40000000 in
theorem rm_Qi20 (l : Launch) (Z : State) (a0 : Array Value) (hw : ∀ d ∈ tables_1, d.before a0 Z = true) (o ar : Addr) (kk : ClassId)  (cs : Int32) (sf : Value) (iso u8 : Addr) (h0 : Heap) (n0 : Nat) (Z0 : n0 ≤ h0.size) (Od : Old Z n0 h0) (SS : own_SS Z cs sf iso u8) (Eo : Exa Z h0 o "java/lang/String") (F_v : Fld Z h0 o "java/lang/String" "value" "[B" .null) (F_c : Fld Z h0 o "java/lang/String" "coder" "B" (.int 0)) (gn_o : n0 ≤ o) (ne_a : ar ≠ o) (Ea : Exa Z h0 ar "[B") (Va : Arv Z h0 ar kk .byte (0 : Int32) [] (.int 0)) :
    own_MW l Z ((⟨"java/lang/String", "<init>", "([BLjava/nio/charset/Charset;)V"⟩ : MethodName)) jdk_42_method_49_code 3 none ({ frames := 2, cells := 2, slots := 4, locals := 34 } : Room) #[(.ref o), (.ref ar), (.ref iso)] h0 (Qi20 Z o ar kk  cs sf iso u8 h0 n0) := by
  refine own_mkW (plainFor_of_name pn_java_lang_String) ?_
  intro p e s m below meth c s₁ X0 hx hby hml hown hnm hret hlk hZ e0 hCH
  have hEL := own_hEL hw
  have N0 := Fr.nil n0
  have K0 := Keep.refl h0 [o]
  rw [ef_RRR3 m o ar iso]
  have Eiso := SS.2.2.2.2.2.2.1.ext Od.2
  refine own_vFW m s₁ 1 #[vR o, vR ar, vR iso] [(.ref o)] (fun t k => XS.aloadN X0.here hx rfl (hb hby d23_0) rfl rfl k) ?_
  refine own_vFW m s₁ 2 #[vR o, vR ar, vR iso] [(.ref iso), (.ref o)] (fun t k => XS.aloadN X0.here hx rfl (hb hby d23_1) rfl rfl k) ?_
  obtain ⟨_, T1, L1, X1, hQ1, st1⟩ := own_callS X0 hx hZ (y := (⟨"java/util/Objects", "requireNonNull", "(Ljava/lang/Object;)Ljava/lang/Object;"⟩ : MethodName)) (W := 1) hown (hw _ (own_mt 18 rfl)) (hw _ (own_mt 19 rfl)) (hw _ (own_mt 20 rfl)) (hw _ (own_mt 21 rfl)) (by decide) (rm_Qrn l Z a0 hw iso h0 n0 Z0) (by decide) (by decide) e0 (g := (mkF m 2 #[vR o, vR ar, vR iso] [(.ref iso), (.ref o)])) rfl (by rw [hml]; rfl) (argsL := [(.ref iso)]) (rest := [(.ref o)]) rfl (lenOf pd_Ljava_lang_Object___Ljava_lang_Object_ rfl) rfl own_w0 (hb hby d23_2) (by decide) (by decide)
  obtain ⟨rfl, N1q, e1⟩ := hQ1
  have N1 := Fr.app N0 N1q
  refine own_vFW m T1 5 #[vR o, vR ar, vR iso] [(.ref iso), (.ref o)] (fun t k => st1 t k) ?_
  obtain ⟨T2, X2, e2, st2⟩ := castY X1 hx hZ hown (hw _ (own_mt 22 rfl)) e1 (Ins.of_exa Eiso (hw _ (own_mt 23 rfl))) (g := (mkF m 5 #[vR o, vR ar, vR iso] [(.ref iso), (.ref o)])) rfl rfl (hb hby d23_5)
  refine own_vFW m T2 8 #[vR o, vR ar, vR iso] [(.ref iso), (.ref o)] (fun t k => st2 t k) ?_
  refine own_vFW m T2 9 #[vR o, vR ar, vR iso] [(.ref ar), (.ref iso), (.ref o)] (fun t k => XS.aloadN X2.here hx rfl (hb hby d23_8) rfl rfl k) ?_
  refine own_vFW m T2 10 #[vR o, vR ar, vR iso] [(.int 0), (.ref ar), (.ref iso), (.ref o)] (fun t k => XS.iconst X2.here hx rfl (hb hby d23_9) k) ?_
  refine own_vFW m T2 11 #[vR o, vR ar, vR iso] [(.ref ar), (.int 0), (.ref ar), (.ref iso), (.ref o)] (fun t k => XS.aloadN X2.here hx rfl (hb hby d23_10) rfl rfl k) ?_
  obtain ⟨c3, Ar3, q3a, q3b, q3c, q3d, q3e⟩ := id Va
  refine own_vFW m T2 12 #[vR o, vR ar, vR iso] [(.int 0), (.int 0), (.ref ar), (.ref iso), (.ref o)] (fun t k => (fun t k => X2.arraylength hx (by rw [e2]; exact Ar3.1) (State.isArrayOf_alike hZ.alike Ar3.2.1) (g := (mkF m 11 #[vR o, vR ar, vR iso] [(.ref ar), (.int 0), (.ref ar), (.ref iso), (.ref o)])) rfl rfl (hb hby d23_11) t (by rw [len_of q3b q3c]; exact k)) t k) ?_
  obtain ⟨_, T4, L4, X4, hS, hZ, hown, hQ4, st4⟩ := own_callIWH X2 hx hZ hEL hCH (y := (⟨"java/lang/String", "<init>", "(Ljava/nio/charset/Charset;[BII)V"⟩ : MethodName)) rfl (W := 0) hown (hw _ (own_mt 24 rfl)) (hw _ (own_mt 25 rfl)) (hw _ (own_mt 12 rfl)) (hw _ (own_mt 27 rfl)) (by decide) (rm_Qi50 l Z a0 hw o ar kk  cs sf iso u8 h0 n0 Z0 Od SS Eo F_v F_c gn_o ne_a Ea Va) (by decide) (by decide) e2 (a := o) (g := (mkF m 12 #[vR o, vR ar, vR iso] [(.int 0), (.int 0), (.ref ar), (.ref iso), (.ref o)])) rfl (by rw [hml]; rfl) (argsL := [(.ref iso), (.ref ar), (.int 0), (.int 0)]) (rest := []) rfl (lenOf pd_Ljava_nio_charset_Charset_ABII__V rfl) rfl own_w0 (hb hby d23_12) (by decide) (by decide)
  have hk4 : T4.heap.size ≤ T4.heap.size := Nat.le_refl _
  obtain ⟨rfl, N4q, K4q, Es4, Fc4, b4s, kb4, Fv4, Va4⟩ := hQ4
  have N4 := Fr.app N1 N4q
  have K15 := K0.trans K4q (allS (Or.inl (own_mt 0 rfl)) all0)
  refine own_vFW m T4 15 #[vR o, vR ar, vR iso] [] (fun t k => st4 t k) ?_
  exact own_retW (s := s) X4 hS (by exact hk4) (v := none) (fun _ => rfl) hlk (fun fs hr => X4.returnOut hx hret (hb hby d23_15) hr) (by exact ⟨rfl, N4, K15, Es4, Fc4, b4s, _, Fv4, Va4⟩) (by decide) (by decide)
def Qi21 (Z : State) (o ar : Addr) (kk : ClassId) (v1 : Int32) (cs : Int32) (sf : Value) (iso u8 : Addr) (h0 : Heap) (n0 : Nat) (v : Option Value) (h : Heap) (L : List Loc) : Prop := v = none ∧ Fr n0 L ∧ Keep h0 h [o] ∧ Exa Z h o "java/lang/String" ∧ Fld Z h o "java/lang/String" "coder" "B" (.int 0) ∧ ∃ b kb, Fld Z h o "java/lang/String" "value" "[B" (.ref b) ∧ Exa Z h b "[B" ∧ Arv Z h b kb .byte (1 : Int32) [.int v1] (.int 0)
set_option maxRecDepth 65536 in
set_option maxHeartbeats 40000000 in
theorem rm_Qi21 (l : Launch) (Z : State) (a0 : Array Value) (hw : ∀ d ∈ tables_1, d.before a0 Z = true) (o ar : Addr) (kk : ClassId) (v1 : Int32) (cs : Int32) (sf : Value) (iso u8 : Addr) (h0 : Heap) (n0 : Nat) (Z0 : n0 ≤ h0.size) (Od : Old Z n0 h0) (SS : own_SS Z cs sf iso u8) (Eo : Exa Z h0 o "java/lang/String") (F_v : Fld Z h0 o "java/lang/String" "value" "[B" .null) (F_c : Fld Z h0 o "java/lang/String" "coder" "B" (.int 0)) (gn_o : n0 ≤ o) (ne_a : ar ≠ o) (Ea : Exa Z h0 ar "[B") (Va : Arv Z h0 ar kk .byte (1 : Int32) [(.int v1)] (.int 0)) :
    own_MG l Z ((⟨"java/lang/String", "<init>", "([BLjava/nio/charset/Charset;)V"⟩ : MethodName)) jdk_42_method_49_code 3 none ({ frames := 3, cells := 1, slots := 1, locals := 51 } : Room) #[(.ref o), (.ref ar), (.ref iso)] h0 (Qi21 Z o ar kk v1 cs sf iso u8 h0 n0) := by
  refine own_mkG (plainFor_of_name pn_java_lang_String) ?_
  intro p e s m below meth c s₁ X0 hx hby hml hown hnm hret hlk hZ e0
  have N0 := Fr.nil n0
  have K0 := Keep.refl h0 [o]
  rw [ef_RRR3 m o ar iso]
  have Eiso := SS.2.2.2.2.2.2.1.ext Od.2
  refine own_vF m s₁ 1 #[vR o, vR ar, vR iso] [(.ref o)] (fun t k => XS.aloadN X0.here hx rfl (hb hby d23_0) rfl rfl k) ?_
  refine own_vF m s₁ 2 #[vR o, vR ar, vR iso] [(.ref iso), (.ref o)] (fun t k => XS.aloadN X0.here hx rfl (hb hby d23_1) rfl rfl k) ?_
  obtain ⟨_, T1, L1, X1, hQ1, st1⟩ := own_callS X0 hx hZ (y := (⟨"java/util/Objects", "requireNonNull", "(Ljava/lang/Object;)Ljava/lang/Object;"⟩ : MethodName)) (W := 1) hown (hw _ (own_mt 18 rfl)) (hw _ (own_mt 19 rfl)) (hw _ (own_mt 20 rfl)) (hw _ (own_mt 21 rfl)) (by decide) (rm_Qrn l Z a0 hw iso h0 n0 Z0) (by decide) (by decide) e0 (g := (mkF m 2 #[vR o, vR ar, vR iso] [(.ref iso), (.ref o)])) rfl (by rw [hml]; rfl) (argsL := [(.ref iso)]) (rest := [(.ref o)]) rfl (lenOf pd_Ljava_lang_Object___Ljava_lang_Object_ rfl) rfl own_w0 (hb hby d23_2) (by decide) (by decide)
  obtain ⟨rfl, N1q, e1⟩ := hQ1
  have N1 := Fr.app N0 N1q
  refine own_vF m T1 5 #[vR o, vR ar, vR iso] [(.ref iso), (.ref o)] (fun t k => st1 t k) ?_
  obtain ⟨T2, X2, e2, st2⟩ := castY X1 hx hZ hown (hw _ (own_mt 22 rfl)) e1 (Ins.of_exa Eiso (hw _ (own_mt 23 rfl))) (g := (mkF m 5 #[vR o, vR ar, vR iso] [(.ref iso), (.ref o)])) rfl rfl (hb hby d23_5)
  refine own_vF m T2 8 #[vR o, vR ar, vR iso] [(.ref iso), (.ref o)] (fun t k => st2 t k) ?_
  refine own_vF m T2 9 #[vR o, vR ar, vR iso] [(.ref ar), (.ref iso), (.ref o)] (fun t k => XS.aloadN X2.here hx rfl (hb hby d23_8) rfl rfl k) ?_
  refine own_vF m T2 10 #[vR o, vR ar, vR iso] [(.int 0), (.ref ar), (.ref iso), (.ref o)] (fun t k => XS.iconst X2.here hx rfl (hb hby d23_9) k) ?_
  refine own_vF m T2 11 #[vR o, vR ar, vR iso] [(.ref ar), (.int 0), (.ref ar), (.ref iso), (.ref o)] (fun t k => XS.aloadN X2.here hx rfl (hb hby d23_10) rfl rfl k) ?_
  obtain ⟨c3, Ar3, q3a, q3b, q3c, q3d, q3e⟩ := id Va
  refine own_vF m T2 12 #[vR o, vR ar, vR iso] [(.int 1), (.int 0), (.ref ar), (.ref iso), (.ref o)] (fun t k => (fun t k => X2.arraylength hx (by rw [e2]; exact Ar3.1) (State.isArrayOf_alike hZ.alike Ar3.2.1) (g := (mkF m 11 #[vR o, vR ar, vR iso] [(.ref ar), (.int 0), (.ref ar), (.ref iso), (.ref o)])) rfl rfl (hb hby d23_11) t (by rw [len_of q3b q3c]; exact k)) t k) ?_
  obtain ⟨_, T4, L4, X4, hQ4, st4⟩ := own_callIH X2 hx hZ (y := (⟨"java/lang/String", "<init>", "(Ljava/nio/charset/Charset;[BII)V"⟩ : MethodName)) rfl (W := 0) hown (hw _ (own_mt 24 rfl)) (hw _ (own_mt 25 rfl)) (hw _ (own_mt 12 rfl)) (hw _ (own_mt 27 rfl)) (by decide) (rm_Qi51 l Z a0 hw o ar kk v1 cs sf iso u8 h0 n0 Z0 Od SS Eo F_v F_c gn_o ne_a Ea Va) (by decide) (by decide) e2 (a := o) (g := (mkF m 12 #[vR o, vR ar, vR iso] [(.int 1), (.int 0), (.ref ar), (.ref iso), (.ref o)])) rfl (by rw [hml]; rfl) (argsL := [(.ref iso), (.ref ar), (.int 0), (.int 1)]) (rest := []) rfl (lenOf pd_Ljava_nio_charset_Charset_ABII__V rfl) rfl own_w0 (hb hby d23_12) (by decide) (by decide)
  obtain ⟨rfl, N4q, K4q, Es4, Fc4, b4s, kb4, Fv4, Eb4, Va4⟩ := hQ4
  have N4 := Fr.app N1 N4q
  have K15 := K0.trans K4q (allS (Or.inl (own_mt 0 rfl)) all0)
  refine own_vF m T4 15 #[vR o, vR ar, vR iso] [] (fun t k => st4 t k) ?_
  exact own_ret X4 (v := none) (fun _ => rfl) hlk (fun fs hr => X4.returnOut hx hret (hb hby d23_15) hr) (by exact ⟨rfl, N4, K15, Es4, Fc4, b4s, _, Fv4, Eb4, Va4⟩) (by decide) (by decide)
def Qi22 (Z : State) (o ar : Addr) (kk : ClassId) (v1 v2 : Int32) (cs : Int32) (sf : Value) (iso u8 : Addr) (h0 : Heap) (n0 : Nat) (v : Option Value) (h : Heap) (L : List Loc) : Prop := v = none ∧ Fr n0 L ∧ Keep h0 h [o] ∧ Exa Z h o "java/lang/String" ∧ Fld Z h o "java/lang/String" "coder" "B" (.int 0) ∧ ∃ b kb, Fld Z h o "java/lang/String" "value" "[B" (.ref b) ∧ Exa Z h b "[B" ∧ Arv Z h b kb .byte (2 : Int32) [.int v1, .int v2] (.int 0)
set_option maxRecDepth 65536 in
set_option maxHeartbeats 40000000 in
theorem rm_Qi22 (l : Launch) (Z : State) (a0 : Array Value) (hw : ∀ d ∈ tables_1, d.before a0 Z = true) (o ar : Addr) (kk : ClassId) (v1 v2 : Int32) (cs : Int32) (sf : Value) (iso u8 : Addr) (h0 : Heap) (n0 : Nat) (Z0 : n0 ≤ h0.size) (Od : Old Z n0 h0) (SS : own_SS Z cs sf iso u8) (Eo : Exa Z h0 o "java/lang/String") (F_v : Fld Z h0 o "java/lang/String" "value" "[B" .null) (F_c : Fld Z h0 o "java/lang/String" "coder" "B" (.int 0)) (gn_o : n0 ≤ o) (ne_a : ar ≠ o) (Ea : Exa Z h0 ar "[B") (Va : Arv Z h0 ar kk .byte (2 : Int32) [(.int v1), (.int v2)] (.int 0)) :
    own_MG l Z ((⟨"java/lang/String", "<init>", "([BLjava/nio/charset/Charset;)V"⟩ : MethodName)) jdk_42_method_49_code 3 none ({ frames := 3, cells := 1, slots := 2, locals := 51 } : Room) #[(.ref o), (.ref ar), (.ref iso)] h0 (Qi22 Z o ar kk v1 v2 cs sf iso u8 h0 n0) := by
  refine own_mkG (plainFor_of_name pn_java_lang_String) ?_
  intro p e s m below meth c s₁ X0 hx hby hml hown hnm hret hlk hZ e0
  have N0 := Fr.nil n0
  have K0 := Keep.refl h0 [o]
  rw [ef_RRR3 m o ar iso]
  have Eiso := SS.2.2.2.2.2.2.1.ext Od.2
  refine own_vF m s₁ 1 #[vR o, vR ar, vR iso] [(.ref o)] (fun t k => XS.aloadN X0.here hx rfl (hb hby d23_0) rfl rfl k) ?_
  refine own_vF m s₁ 2 #[vR o, vR ar, vR iso] [(.ref iso), (.ref o)] (fun t k => XS.aloadN X0.here hx rfl (hb hby d23_1) rfl rfl k) ?_
  obtain ⟨_, T1, L1, X1, hQ1, st1⟩ := own_callS X0 hx hZ (y := (⟨"java/util/Objects", "requireNonNull", "(Ljava/lang/Object;)Ljava/lang/Object;"⟩ : MethodName)) (W := 1) hown (hw _ (own_mt 18 rfl)) (hw _ (own_mt 19 rfl)) (hw _ (own_mt 20 rfl)) (hw _ (own_mt 21 rfl)) (by decide) (rm_Qrn l Z a0 hw iso h0 n0 Z0) (by decide) (by decide) e0 (g := (mkF m 2 #[vR o, vR ar, vR iso] [(.ref iso), (.ref o)])) rfl (by rw [hml]; rfl) (argsL := [(.ref iso)]) (rest := [(.ref o)]) rfl (lenOf pd_Ljava_lang_Object___Ljava_lang_Object_ rfl) rfl own_w0 (hb hby d23_2) (by decide) (by decide)
  obtain ⟨rfl, N1q, e1⟩ := hQ1
  have N1 := Fr.app N0 N1q
  refine own_vF m T1 5 #[vR o, vR ar, vR iso] [(.ref iso), (.ref o)] (fun t k => st1 t k) ?_
  obtain ⟨T2, X2, e2, st2⟩ := castY X1 hx hZ hown (hw _ (own_mt 22 rfl)) e1 (Ins.of_exa Eiso (hw _ (own_mt 23 rfl))) (g := (mkF m 5 #[vR o, vR ar, vR iso] [(.ref iso), (.ref o)])) rfl rfl (hb hby d23_5)
  refine own_vF m T2 8 #[vR o, vR ar, vR iso] [(.ref iso), (.ref o)] (fun t k => st2 t k) ?_
  refine own_vF m T2 9 #[vR o, vR ar, vR iso] [(.ref ar), (.ref iso), (.ref o)] (fun t k => XS.aloadN X2.here hx rfl (hb hby d23_8) rfl rfl k) ?_
  refine own_vF m T2 10 #[vR o, vR ar, vR iso] [(.int 0), (.ref ar), (.ref iso), (.ref o)] (fun t k => XS.iconst X2.here hx rfl (hb hby d23_9) k) ?_
  refine own_vF m T2 11 #[vR o, vR ar, vR iso] [(.ref ar), (.int 0), (.ref ar), (.ref iso), (.ref o)] (fun t k => XS.aloadN X2.here hx rfl (hb hby d23_10) rfl rfl k) ?_
  obtain ⟨c3, Ar3, q3a, q3b, q3c, q3d, q3e⟩ := id Va
  refine own_vF m T2 12 #[vR o, vR ar, vR iso] [(.int 2), (.int 0), (.ref ar), (.ref iso), (.ref o)] (fun t k => (fun t k => X2.arraylength hx (by rw [e2]; exact Ar3.1) (State.isArrayOf_alike hZ.alike Ar3.2.1) (g := (mkF m 11 #[vR o, vR ar, vR iso] [(.ref ar), (.int 0), (.ref ar), (.ref iso), (.ref o)])) rfl rfl (hb hby d23_11) t (by rw [len_of q3b q3c]; exact k)) t k) ?_
  obtain ⟨_, T4, L4, X4, hQ4, st4⟩ := own_callIH X2 hx hZ (y := (⟨"java/lang/String", "<init>", "(Ljava/nio/charset/Charset;[BII)V"⟩ : MethodName)) rfl (W := 0) hown (hw _ (own_mt 24 rfl)) (hw _ (own_mt 25 rfl)) (hw _ (own_mt 12 rfl)) (hw _ (own_mt 27 rfl)) (by decide) (rm_Qi52 l Z a0 hw o ar kk v1 v2 cs sf iso u8 h0 n0 Z0 Od SS Eo F_v F_c gn_o ne_a Ea Va) (by decide) (by decide) e2 (a := o) (g := (mkF m 12 #[vR o, vR ar, vR iso] [(.int 2), (.int 0), (.ref ar), (.ref iso), (.ref o)])) rfl (by rw [hml]; rfl) (argsL := [(.ref iso), (.ref ar), (.int 0), (.int 2)]) (rest := []) rfl (lenOf pd_Ljava_nio_charset_Charset_ABII__V rfl) rfl own_w0 (hb hby d23_12) (by decide) (by decide)
  obtain ⟨rfl, N4q, K4q, Es4, Fc4, b4s, kb4, Fv4, Eb4, Va4⟩ := hQ4
  have N4 := Fr.app N1 N4q
  have K15 := K0.trans K4q (allS (Or.inl (own_mt 0 rfl)) all0)
  refine own_vF m T4 15 #[vR o, vR ar, vR iso] [] (fun t k => st4 t k) ?_
  exact own_ret X4 (v := none) (fun _ => rfl) hlk (fun fs hr => X4.returnOut hx hret (hb hby d23_15) hr) (by exact ⟨rfl, N4, K15, Es4, Fc4, b4s, _, Fv4, Eb4, Va4⟩) (by decide) (by decide)
def Qi23 (Z : State) (o ar : Addr) (kk : ClassId) (v1 v2 v3 : Int32) (cs : Int32) (sf : Value) (iso u8 : Addr) (h0 : Heap) (n0 : Nat) (v : Option Value) (h : Heap) (L : List Loc) : Prop := v = none ∧ Fr n0 L ∧ Keep h0 h [o] ∧ Exa Z h o "java/lang/String" ∧ Fld Z h o "java/lang/String" "coder" "B" (.int 0) ∧ ∃ b kb, Fld Z h o "java/lang/String" "value" "[B" (.ref b) ∧ Exa Z h b "[B" ∧ Arv Z h b kb .byte (3 : Int32) [.int v1, .int v2, .int v3] (.int 0)
set_option maxRecDepth 65536 in
set_option maxHeartbeats 40000000 in
theorem rm_Qi23 (l : Launch) (Z : State) (a0 : Array Value) (hw : ∀ d ∈ tables_1, d.before a0 Z = true) (o ar : Addr) (kk : ClassId) (v1 v2 v3 : Int32) (cs : Int32) (sf : Value) (iso u8 : Addr) (h0 : Heap) (n0 : Nat) (Z0 : n0 ≤ h0.size) (Od : Old Z n0 h0) (SS : own_SS Z cs sf iso u8) (Eo : Exa Z h0 o "java/lang/String") (F_v : Fld Z h0 o "java/lang/String" "value" "[B" .null) (F_c : Fld Z h0 o "java/lang/String" "coder" "B" (.int 0)) (gn_o : n0 ≤ o) (ne_a : ar ≠ o) (Ea : Exa Z h0 ar "[B") (Va : Arv Z h0 ar kk .byte (3 : Int32) [(.int v1), (.int v2), (.int v3)] (.int 0)) :
    own_MG l Z ((⟨"java/lang/String", "<init>", "([BLjava/nio/charset/Charset;)V"⟩ : MethodName)) jdk_42_method_49_code 3 none ({ frames := 3, cells := 1, slots := 3, locals := 51 } : Room) #[(.ref o), (.ref ar), (.ref iso)] h0 (Qi23 Z o ar kk v1 v2 v3 cs sf iso u8 h0 n0) := by
  refine own_mkG (plainFor_of_name pn_java_lang_String) ?_
  intro p e s m below meth c s₁ X0 hx hby hml hown hnm hret hlk hZ e0
  have N0 := Fr.nil n0
  have K0 := Keep.refl h0 [o]
  rw [ef_RRR3 m o ar iso]
  have Eiso := SS.2.2.2.2.2.2.1.ext Od.2
  refine own_vF m s₁ 1 #[vR o, vR ar, vR iso] [(.ref o)] (fun t k => XS.aloadN X0.here hx rfl (hb hby d23_0) rfl rfl k) ?_
  refine own_vF m s₁ 2 #[vR o, vR ar, vR iso] [(.ref iso), (.ref o)] (fun t k => XS.aloadN X0.here hx rfl (hb hby d23_1) rfl rfl k) ?_
  obtain ⟨_, T1, L1, X1, hQ1, st1⟩ := own_callS X0 hx hZ (y := (⟨"java/util/Objects", "requireNonNull", "(Ljava/lang/Object;)Ljava/lang/Object;"⟩ : MethodName)) (W := 1) hown (hw _ (own_mt 18 rfl)) (hw _ (own_mt 19 rfl)) (hw _ (own_mt 20 rfl)) (hw _ (own_mt 21 rfl)) (by decide) (rm_Qrn l Z a0 hw iso h0 n0 Z0) (by decide) (by decide) e0 (g := (mkF m 2 #[vR o, vR ar, vR iso] [(.ref iso), (.ref o)])) rfl (by rw [hml]; rfl) (argsL := [(.ref iso)]) (rest := [(.ref o)]) rfl (lenOf pd_Ljava_lang_Object___Ljava_lang_Object_ rfl) rfl own_w0 (hb hby d23_2) (by decide) (by decide)
  obtain ⟨rfl, N1q, e1⟩ := hQ1
  have N1 := Fr.app N0 N1q
  refine own_vF m T1 5 #[vR o, vR ar, vR iso] [(.ref iso), (.ref o)] (fun t k => st1 t k) ?_
  obtain ⟨T2, X2, e2, st2⟩ := castY X1 hx hZ hown (hw _ (own_mt 22 rfl)) e1 (Ins.of_exa Eiso (hw _ (own_mt 23 rfl))) (g := (mkF m 5 #[vR o, vR ar, vR iso] [(.ref iso), (.ref o)])) rfl rfl (hb hby d23_5)
  refine own_vF m T2 8 #[vR o, vR ar, vR iso] [(.ref iso), (.ref o)] (fun t k => st2 t k) ?_
  refine own_vF m T2 9 #[vR o, vR ar, vR iso] [(.ref ar), (.ref iso), (.ref o)] (fun t k => XS.aloadN X2.here hx rfl (hb hby d23_8) rfl rfl k) ?_
  refine own_vF m T2 10 #[vR o, vR ar, vR iso] [(.int 0), (.ref ar), (.ref iso), (.ref o)] (fun t k => XS.iconst X2.here hx rfl (hb hby d23_9) k) ?_
  refine own_vF m T2 11 #[vR o, vR ar, vR iso] [(.ref ar), (.int 0), (.ref ar), (.ref iso), (.ref o)] (fun t k => XS.aloadN X2.here hx rfl (hb hby d23_10) rfl rfl k) ?_
  obtain ⟨c3, Ar3, q3a, q3b, q3c, q3d, q3e⟩ := id Va
  refine own_vF m T2 12 #[vR o, vR ar, vR iso] [(.int 3), (.int 0), (.ref ar), (.ref iso), (.ref o)] (fun t k => (fun t k => X2.arraylength hx (by rw [e2]; exact Ar3.1) (State.isArrayOf_alike hZ.alike Ar3.2.1) (g := (mkF m 11 #[vR o, vR ar, vR iso] [(.ref ar), (.int 0), (.ref ar), (.ref iso), (.ref o)])) rfl rfl (hb hby d23_11) t (by rw [len_of q3b q3c]; exact k)) t k) ?_
  obtain ⟨_, T4, L4, X4, hQ4, st4⟩ := own_callIH X2 hx hZ (y := (⟨"java/lang/String", "<init>", "(Ljava/nio/charset/Charset;[BII)V"⟩ : MethodName)) rfl (W := 0) hown (hw _ (own_mt 24 rfl)) (hw _ (own_mt 25 rfl)) (hw _ (own_mt 12 rfl)) (hw _ (own_mt 27 rfl)) (by decide) (rm_Qi53 l Z a0 hw o ar kk v1 v2 v3 cs sf iso u8 h0 n0 Z0 Od SS Eo F_v F_c gn_o ne_a Ea Va) (by decide) (by decide) e2 (a := o) (g := (mkF m 12 #[vR o, vR ar, vR iso] [(.int 3), (.int 0), (.ref ar), (.ref iso), (.ref o)])) rfl (by rw [hml]; rfl) (argsL := [(.ref iso), (.ref ar), (.int 0), (.int 3)]) (rest := []) rfl (lenOf pd_Ljava_nio_charset_Charset_ABII__V rfl) rfl own_w0 (hb hby d23_12) (by decide) (by decide)
  obtain ⟨rfl, N4q, K4q, Es4, Fc4, b4s, kb4, Fv4, Eb4, Va4⟩ := hQ4
  have N4 := Fr.app N1 N4q
  have K15 := K0.trans K4q (allS (Or.inl (own_mt 0 rfl)) all0)
  refine own_vF m T4 15 #[vR o, vR ar, vR iso] [] (fun t k => st4 t k) ?_
  exact own_ret X4 (v := none) (fun _ => rfl) hlk (fun fs hr => X4.returnOut hx hret (hb hby d23_15) hr) (by exact ⟨rfl, N4, K15, Es4, Fc4, b4s, _, Fv4, Eb4, Va4⟩) (by decide) (by decide)
def Qi24 (Z : State) (o ar : Addr) (kk : ClassId) (v1 v2 v3 v4 : Int32) (cs : Int32) (sf : Value) (iso u8 : Addr) (h0 : Heap) (n0 : Nat) (v : Option Value) (h : Heap) (L : List Loc) : Prop := v = none ∧ Fr n0 L ∧ Keep h0 h [o] ∧ Exa Z h o "java/lang/String" ∧ Fld Z h o "java/lang/String" "coder" "B" (.int 0) ∧ ∃ b kb, Fld Z h o "java/lang/String" "value" "[B" (.ref b) ∧ Exa Z h b "[B" ∧ Arv Z h b kb .byte (4 : Int32) [.int v1, .int v2, .int v3, .int v4] (.int 0)
set_option maxRecDepth 65536 in
set_option maxHeartbeats 40000000 in
theorem rm_Qi24 (l : Launch) (Z : State) (a0 : Array Value) (hw : ∀ d ∈ tables_1, d.before a0 Z = true) (o ar : Addr) (kk : ClassId) (v1 v2 v3 v4 : Int32) (cs : Int32) (sf : Value) (iso u8 : Addr) (h0 : Heap) (n0 : Nat) (Z0 : n0 ≤ h0.size) (Od : Old Z n0 h0) (SS : own_SS Z cs sf iso u8) (Eo : Exa Z h0 o "java/lang/String") (F_v : Fld Z h0 o "java/lang/String" "value" "[B" .null) (F_c : Fld Z h0 o "java/lang/String" "coder" "B" (.int 0)) (gn_o : n0 ≤ o) (ne_a : ar ≠ o) (Ea : Exa Z h0 ar "[B") (Va : Arv Z h0 ar kk .byte (4 : Int32) [(.int v1), (.int v2), (.int v3), (.int v4)] (.int 0)) :
    own_MG l Z ((⟨"java/lang/String", "<init>", "([BLjava/nio/charset/Charset;)V"⟩ : MethodName)) jdk_42_method_49_code 3 none ({ frames := 3, cells := 1, slots := 4, locals := 51 } : Room) #[(.ref o), (.ref ar), (.ref iso)] h0 (Qi24 Z o ar kk v1 v2 v3 v4 cs sf iso u8 h0 n0) := by
  refine own_mkG (plainFor_of_name pn_java_lang_String) ?_
  intro p e s m below meth c s₁ X0 hx hby hml hown hnm hret hlk hZ e0
  have N0 := Fr.nil n0
  have K0 := Keep.refl h0 [o]
  rw [ef_RRR3 m o ar iso]
  have Eiso := SS.2.2.2.2.2.2.1.ext Od.2
  refine own_vF m s₁ 1 #[vR o, vR ar, vR iso] [(.ref o)] (fun t k => XS.aloadN X0.here hx rfl (hb hby d23_0) rfl rfl k) ?_
  refine own_vF m s₁ 2 #[vR o, vR ar, vR iso] [(.ref iso), (.ref o)] (fun t k => XS.aloadN X0.here hx rfl (hb hby d23_1) rfl rfl k) ?_
  obtain ⟨_, T1, L1, X1, hQ1, st1⟩ := own_callS X0 hx hZ (y := (⟨"java/util/Objects", "requireNonNull", "(Ljava/lang/Object;)Ljava/lang/Object;"⟩ : MethodName)) (W := 1) hown (hw _ (own_mt 18 rfl)) (hw _ (own_mt 19 rfl)) (hw _ (own_mt 20 rfl)) (hw _ (own_mt 21 rfl)) (by decide) (rm_Qrn l Z a0 hw iso h0 n0 Z0) (by decide) (by decide) e0 (g := (mkF m 2 #[vR o, vR ar, vR iso] [(.ref iso), (.ref o)])) rfl (by rw [hml]; rfl) (argsL := [(.ref iso)]) (rest := [(.ref o)]) rfl (lenOf pd_Ljava_lang_Object___Ljava_lang_Object_ rfl) rfl own_w0 (hb hby d23_2) (by decide) (by decide)
  obtain ⟨rfl, N1q, e1⟩ := hQ1
  have N1 := Fr.app N0 N1q
  refine own_vF m T1 5 #[vR o, vR ar, vR iso] [(.ref iso), (.ref o)] (fun t k => st1 t k) ?_
  obtain ⟨T2, X2, e2, st2⟩ := castY X1 hx hZ hown (hw _ (own_mt 22 rfl)) e1 (Ins.of_exa Eiso (hw _ (own_mt 23 rfl))) (g := (mkF m 5 #[vR o, vR ar, vR iso] [(.ref iso), (.ref o)])) rfl rfl (hb hby d23_5)
  refine own_vF m T2 8 #[vR o, vR ar, vR iso] [(.ref iso), (.ref o)] (fun t k => st2 t k) ?_
  refine own_vF m T2 9 #[vR o, vR ar, vR iso] [(.ref ar), (.ref iso), (.ref o)] (fun t k => XS.aloadN X2.here hx rfl (hb hby d23_8) rfl rfl k) ?_
  refine own_vF m T2 10 #[vR o, vR ar, vR iso] [(.int 0), (.ref ar), (.ref iso), (.ref o)] (fun t k => XS.iconst X2.here hx rfl (hb hby d23_9) k) ?_
  refine own_vF m T2 11 #[vR o, vR ar, vR iso] [(.ref ar), (.int 0), (.ref ar), (.ref iso), (.ref o)] (fun t k => XS.aloadN X2.here hx rfl (hb hby d23_10) rfl rfl k) ?_
  obtain ⟨c3, Ar3, q3a, q3b, q3c, q3d, q3e⟩ := id Va
  refine own_vF m T2 12 #[vR o, vR ar, vR iso] [(.int 4), (.int 0), (.ref ar), (.ref iso), (.ref o)] (fun t k => (fun t k => X2.arraylength hx (by rw [e2]; exact Ar3.1) (State.isArrayOf_alike hZ.alike Ar3.2.1) (g := (mkF m 11 #[vR o, vR ar, vR iso] [(.ref ar), (.int 0), (.ref ar), (.ref iso), (.ref o)])) rfl rfl (hb hby d23_11) t (by rw [len_of q3b q3c]; exact k)) t k) ?_
  obtain ⟨_, T4, L4, X4, hQ4, st4⟩ := own_callIH X2 hx hZ (y := (⟨"java/lang/String", "<init>", "(Ljava/nio/charset/Charset;[BII)V"⟩ : MethodName)) rfl (W := 0) hown (hw _ (own_mt 24 rfl)) (hw _ (own_mt 25 rfl)) (hw _ (own_mt 12 rfl)) (hw _ (own_mt 27 rfl)) (by decide) (rm_Qi54 l Z a0 hw o ar kk v1 v2 v3 v4 cs sf iso u8 h0 n0 Z0 Od SS Eo F_v F_c gn_o ne_a Ea Va) (by decide) (by decide) e2 (a := o) (g := (mkF m 12 #[vR o, vR ar, vR iso] [(.int 4), (.int 0), (.ref ar), (.ref iso), (.ref o)])) rfl (by rw [hml]; rfl) (argsL := [(.ref iso), (.ref ar), (.int 0), (.int 4)]) (rest := []) rfl (lenOf pd_Ljava_nio_charset_Charset_ABII__V rfl) rfl own_w0 (hb hby d23_12) (by decide) (by decide)
  obtain ⟨rfl, N4q, K4q, Es4, Fc4, b4s, kb4, Fv4, Eb4, Va4⟩ := hQ4
  have N4 := Fr.app N1 N4q
  have K15 := K0.trans K4q (allS (Or.inl (own_mt 0 rfl)) all0)
  refine own_vF m T4 15 #[vR o, vR ar, vR iso] [] (fun t k => st4 t k) ?_
  exact own_ret X4 (v := none) (fun _ => rfl) hlk (fun fs hr => X4.returnOut hx hret (hb hby d23_15) hr) (by exact ⟨rfl, N4, K15, Es4, Fc4, b4s, _, Fv4, Eb4, Va4⟩) (by decide) (by decide)
def Qibb (Z : State) (o ar : Addr) (h0 : Heap) (n0 : Nat) (v : Option Value) (h : Heap) (L : List Loc) : Prop := v = none ∧ Fr n0 L ∧ Keep h0 h [o] ∧ Exa Z h o "java/lang/String" ∧ Fld Z h o "java/lang/String" "value" "[B" (.ref ar) ∧ Fld Z h o "java/lang/String" "coder" "B" (.int 0)
theorem d24_0 : decode jdk_42_method_151_code 0 = .ok (.aload_n 0, 1) := by decide +kernel
theorem d24_1 : decode jdk_42_method_151_code 1 = .ok (.invokespecial 1, 3) := by decide +kernel
theorem d24_4 : decode jdk_42_method_151_code 4 = .ok (.aload_n 0, 1) := by decide +kernel
theorem d24_5 : decode jdk_42_method_151_code 5 = .ok (.aload_n 1, 1) := by decide +kernel
theorem d24_6 : decode jdk_42_method_151_code 6 = .ok (.putfield 9, 3) := by decide +kernel
theorem d24_9 : decode jdk_42_method_151_code 9 = .ok (.aload_n 0, 1) := by decide +kernel
theorem d24_10 : decode jdk_42_method_151_code 10 = .ok (.iload_n 2, 1) := by decide +kernel
theorem d24_11 : decode jdk_42_method_151_code 11 = .ok (.putfield 15, 3) := by decide +kernel
theorem d24_14 : decode jdk_42_method_151_code 14 = .ok (.return_, 1) := by decide +kernel
theorem ef_RRI3 (m : MethodId) (x0 : Addr) (x1 : Addr) (x2 : Int32) : entryFrame m #[(.ref x0), (.ref x1), (.int x2)] 3 = mkF m 0 #[vR x0, vR x1, vI x2] [] := by first | (simp [entryFrame, mkF, argsToLocals, Value.category]; done) | rfl
set_option maxRecDepth 65536 in
set_option maxHeartbeats 40000000 in
theorem rm_Qibb (l : Launch) (Z : State) (a0 : Array Value) (hw : ∀ d ∈ tables_1, d.before a0 Z = true) (o ar : Addr) (h0 : Heap) (n0 : Nat) (Z0 : n0 ≤ h0.size) (Eo : Exa Z h0 o "java/lang/String") (F_v : Fld Z h0 o "java/lang/String" "value" "[B" .null) (F_c : Fld Z h0 o "java/lang/String" "coder" "B" (.int 0)) (gn_o : n0 ≤ o) :
    own_MG l Z ((⟨"java/lang/String", "<init>", "([BB)V"⟩ : MethodName)) jdk_42_method_151_code 3 none ({ frames := 1, cells := 0, slots := 0, locals := 12 } : Room) #[(.ref o), (.ref ar), (.int 0)] h0 (Qibb Z o ar h0 n0) := by
  refine own_mkG (plainFor_of_name pn_java_lang_String) ?_
  intro p e s m below meth c s₁ X0 hx hby hml hown hnm hret hlk hZ e0
  have N0 := Fr.nil n0
  have K0 := Keep.refl h0 [o]
  rw [ef_RRI3 m o ar (0 : Int32)]
  refine own_vF m s₁ 1 #[vR o, vR ar, vI (0 : Int32)] [(.ref o)] (fun t k => XS.aloadN X0.here hx rfl (hb hby d24_0) rfl rfl k) ?_
  obtain ⟨T1, X1, e1, st1⟩ := initO X0 hx hZ hown (hw _ (own_mt 28 rfl)) (hw _ (own_mt 29 rfl)) (hw _ (own_mt 30 rfl)) e0 (g := (mkF m 1 #[vR o, vR ar, vI (0 : Int32)] [(.ref o)])) rfl (by rw [hml]; rfl) rfl (hb hby d24_1) (by decide) (W := 0) own_w0 (by decide)
  refine own_vF m T1 4 #[vR o, vR ar, vI (0 : Int32)] [] (fun t k => st1 t k) ?_
  refine own_vF m T1 5 #[vR o, vR ar, vI (0 : Int32)] [(.ref o)] (fun t k => XS.aloadN X1.here hx rfl (hb hby d24_4) rfl rfl k) ?_
  refine own_vF m T1 6 #[vR o, vR ar, vI (0 : Int32)] [(.ref ar), (.ref o)] (fun t k => XS.aloadN X1.here hx rfl (hb hby d24_5) rfl rfl k) ?_
  obtain ⟨T2, h2, X2, e2, W2, st2⟩ := putF (host := "") X1 hx hZ hown (Or.inl (hw _ (own_mt 36 rfl))) Via.refl e1 F_v Eo (Or.inr ⟨(hw _ (own_mt 32 rfl)), rfl, hnm⟩) (hw _ (own_mt 11 rfl)) (ty := (.array .byte)) (by decide) rfl rfl (g := (mkF m 6 #[vR o, vR ar, vI (0 : Int32)] [(.ref ar), (.ref o)])) rfl rfl (hb hby d24_6)
  have f2w := F_v.same W2
  have f3 := Eo.wr W2
  have f4 := F_c.other W2 (Or.inr (slot_ne (Or.inr (hw _ (own_mt 33 rfl))) (Or.inr (hw _ (own_mt 32 rfl))) (by decide) (t := .byte) (t' := (.array .byte)) (by decide) (by decide)))
  have K5 := K0.wr W2 (Or.inl (own_mt 0 rfl))
  have N2 := Fr.snoc X2 N0 gn_o
  refine own_vF m T2 9 #[vR o, vR ar, vI (0 : Int32)] [] (fun t k => st2 t k) ?_
  refine own_vF m T2 10 #[vR o, vR ar, vI (0 : Int32)] [(.ref o)] (fun t k => XS.aloadN X2.here hx rfl (hb hby d24_9) rfl rfl k) ?_
  refine own_vF m T2 11 #[vR o, vR ar, vI (0 : Int32)] [(.int 0), (.ref o)] (fun t k => XS.iloadN X2.here hx rfl (hb hby d24_10) rfl k) ?_
  obtain ⟨T6, h6, X6, e6, W6, st6⟩ := putF (host := "") X2 hx hZ hown (Or.inl (hw _ (own_mt 37 rfl))) Via.refl e2 f4 f3 (Or.inr ⟨(hw _ (own_mt 33 rfl)), rfl, hnm⟩) (hw _ (own_mt 11 rfl)) (ty := .byte) (by decide) rfl rfl (g := (mkF m 11 #[vR o, vR ar, vI (0 : Int32)] [(.int 0), (.ref o)])) rfl rfl (hb hby d24_11)
  have f6w := f4.same W6
  have f7 := f3.wr W6
  have f8 := f2w.other W6 (Or.inr (slot_ne (Or.inr (hw _ (own_mt 32 rfl))) (Or.inr (hw _ (own_mt 33 rfl))) (by decide) (t := (.array .byte)) (t' := .byte) (by decide) (by decide)))
  have K9 := K5.wr W6 (Or.inl (own_mt 0 rfl))
  have N6 := Fr.snoc X6 N2 gn_o
  refine own_vF m T6 14 #[vR o, vR ar, vI (0 : Int32)] [] (fun t k => st6 t k) ?_
  exact own_ret X6 (v := none) (fun _ => rfl) hlk (fun fs hr => X6.returnOut hx hret (hb hby d24_14) hr) (by rw [e6]; exact ⟨rfl, N6, K9, f7, f8, f6w⟩) (by decide) (by decide)
def Qns21 (Z : State) (ar : Addr) (kk : ClassId) (v1 v2 : Int32) (h0 : Heap) (n0 : Nat) (v : Option Value) (h : Heap) (L : List Loc) : Prop := ∃ r, v = some (.ref r) ∧ Fr n0 L ∧ Keep h0 h [] ∧ Exa Z h r "java/lang/String" ∧ Fld Z h r "java/lang/String" "coder" "B" (.int 0) ∧ ∃ b kb, Fld Z h r "java/lang/String" "value" "[B" (.ref b) ∧ Exa Z h b "[B" ∧ Arv Z h b kb .byte (1 : Int32) [.int v1] (.int 0)
theorem d25_0 : decode jdk_43_method_47_code 0 = .ok (.iload_n 2, 1) := by decide +kernel
theorem d25_1 : decode jdk_43_method_47_code 1 = .ok (.ifCond .ne 6, 3) := by decide +kernel
theorem d25_7 : decode jdk_43_method_47_code 7 = .ok (.new 1, 3) := by decide +kernel
theorem d25_10 : decode jdk_43_method_47_code 10 = .ok (.dup, 1) := by decide +kernel
theorem d25_11 : decode jdk_43_method_47_code 11 = .ok (.aload_n 0, 1) := by decide +kernel
theorem d25_12 : decode jdk_43_method_47_code 12 = .ok (.iload_n 1, 1) := by decide +kernel
theorem d25_13 : decode jdk_43_method_47_code 13 = .ok (.iload_n 1, 1) := by decide +kernel
theorem d25_14 : decode jdk_43_method_47_code 14 = .ok (.iload_n 2, 1) := by decide +kernel
theorem d25_15 : decode jdk_43_method_47_code 15 = .ok (.iadd, 1) := by decide +kernel
theorem d25_16 : decode jdk_43_method_47_code 16 = .ok (.invokestatic 232, 3) := by decide +kernel
theorem d25_19 : decode jdk_43_method_47_code 19 = .ok (.iconst 0, 1) := by decide +kernel
theorem pd_ABB__V : parseMethodDescriptor "([BB)V" = some ⟨[(.array .byte), .byte], none⟩ := by decide +kernel
theorem d25_20 : decode jdk_43_method_47_code 20 = .ok (.invokespecial 112, 3) := by decide +kernel
theorem d25_23 : decode jdk_43_method_47_code 23 = .ok (.areturn, 1) := by decide +kernel
set_option maxRecDepth 65536 in
set_option maxHeartbeats 40000000 in
theorem rm_Qns21 (l : Launch) (Z : State) (a0 : Array Value) (hw : ∀ d ∈ tables_1, d.before a0 Z = true) (ar : Addr) (kk : ClassId) (v1 v2 : Int32) (h0 : Heap) (n0 : Nat) (Z0 : n0 ≤ h0.size) (Ea : Exa Z h0 ar "[B") (Va : Arv Z h0 ar kk .byte (2 : Int32) [(.int v1), (.int v2)] (.int 0)) :
    own_MG l Z ((⟨"java/lang/StringLatin1", "newString", "([BII)Ljava/lang/String;"⟩ : MethodName)) jdk_43_method_47_code 3 (some (.object "java/lang/String")) ({ frames := 3, cells := 2, slots := 5, locals := 92 } : Room) #[(.ref ar), (.int 0), (.int 1)] h0 (Qns21 Z ar kk v1 v2 h0 n0) := by
  refine own_mkG (plainFor_of_name pn_java_lang_StringLatin1) ?_
  intro p e s m below meth c s₁ X0 hx hby hml hown hnm hret hlk hZ e0
  have N0 := Fr.nil n0
  have K0 := Keep.refl h0 []
  rw [ef_RII3 m ar (0 : Int32) (1 : Int32)]
  refine own_vF m s₁ 1 #[vR ar, vI (0 : Int32), vI (1 : Int32)] [(.int 1)] (fun t k => XS.iloadN X0.here hx rfl (hb hby d25_0) rfl k) ?_
  refine own_vF m s₁ 7 #[vR ar, vI (0 : Int32), vI (1 : Int32)] [] (fun t k => XS.ifYes X0.here hx rfl (pc0 := 1) (pc' := 7) rfl (hb hby d25_1) rfl ((if0 _ _).trans (feq (by decide : ¬ ((1 : Int32) = (0 : Int32)))).2) (by decide) (by decide) k) ?_
  obtain ⟨T1, h1, X1, e1, E1, A1, D1, -, st1⟩ := newO X0 hx hZ hown (hw _ (own_mt 116 rfl)) (hw _ (own_mt 11 rfl)) (hw _ (own_mt 12 rfl)) e0 (g := (mkF m 7 #[vR ar, vI (0 : Int32), vI (1 : Int32)] [])) rfl (hb hby d25_7) (by decide) (by decide)
  obtain ⟨b1, g1⟩ : ∃ z, z = h0.size := ⟨_, rfl⟩
  rw [← g1] at A1 D1 st1
  have gn_b1 : n0 ≤ b1 := Nat.le_trans Z0 (Nat.le_of_eq g1.symm)
  have sz_b1 : h0.size ≤ b1 := Nat.le_trans K0.1 (Nat.le_of_eq g1.symm)
  have f3 := Ea.ext E1
  have f4 := Va.ext E1
  have f5 : Fld Z h1 b1 "java/lang/String" "value" "[B" .null := D1 (Or.inr (hw _ (own_mt 32 rfl))) (ty := (.array .byte)) (by decide)
  have f6 : Fld Z h1 b1 "java/lang/String" "coder" "B" (.int 0) := D1 (Or.inr (hw _ (own_mt 33 rfl))) (ty := .byte) (by decide)
  have Z7 : n0 ≤ h1.size := Nat.le_trans Z0 E1.1
  have K7 := K0.ext E1
  refine own_vF m T1 10 #[vR ar, vI (0 : Int32), vI (1 : Int32)] [(.ref b1)] (fun t k => st1 t k) ?_
  refine own_vF m T1 11 #[vR ar, vI (0 : Int32), vI (1 : Int32)] [(.ref b1), (.ref b1)] (fun t k => XS.dup X1.here hx rfl (hb hby d25_10) rfl rfl k) ?_
  refine own_vF m T1 12 #[vR ar, vI (0 : Int32), vI (1 : Int32)] [(.ref ar), (.ref b1), (.ref b1)] (fun t k => XS.aloadN X1.here hx rfl (hb hby d25_11) rfl rfl k) ?_
  refine own_vF m T1 13 #[vR ar, vI (0 : Int32), vI (1 : Int32)] [(.int 0), (.ref ar), (.ref b1), (.ref b1)] (fun t k => XS.iloadN X1.here hx rfl (hb hby d25_12) rfl k) ?_
  refine own_vF m T1 14 #[vR ar, vI (0 : Int32), vI (1 : Int32)] [(.int 0), (.int 0), (.ref ar), (.ref b1), (.ref b1)] (fun t k => XS.iloadN X1.here hx rfl (hb hby d25_13) rfl k) ?_
  refine own_vF m T1 15 #[vR ar, vI (0 : Int32), vI (1 : Int32)] [(.int 1), (.int 0), (.int 0), (.ref ar), (.ref b1), (.ref b1)] (fun t k => XS.iloadN X1.here hx rfl (hb hby d25_14) rfl k) ?_
  refine own_vF m T1 16 #[vR ar, vI (0 : Int32), vI (1 : Int32)] [(.int ((0 : Int32) + (1 : Int32))), (.int 0), (.ref ar), (.ref b1), (.ref b1)] (fun t k => XS.iadd X1.here hx rfl (hb hby d25_15) rfl k) ?_
  rw [show ((0 : Int32) + (1 : Int32)) = (1 : Int32) from by decide]
  obtain ⟨_, T8, L8, X8, hQ8, st8⟩ := own_callS X1 hx hZ (y := (⟨"java/util/Arrays", "copyOfRange", "([BII)[B"⟩ : MethodName)) (W := 2) hown (hw _ (own_mt 117 rfl)) (hw _ (own_mt 98 rfl)) (hw _ (own_mt 99 rfl)) (hw _ (own_mt 100 rfl)) (by decide) (rm_Qcr21 l Z a0 hw ar kk v1 v2 h1 n0 Z7 f3 f4) (by decide) (by decide) e1 (g := (mkF m 16 #[vR ar, vI (0 : Int32), vI (1 : Int32)] [(.int 1), (.int 0), (.ref ar), (.ref b1), (.ref b1)])) rfl (by rw [hml]; rfl) (argsL := [(.ref ar), (.int 0), (.int 1)]) (rest := [(.ref b1), (.ref b1)]) rfl (lenOf pd_ABII__AB rfl) rfl own_w0 (hb hby d25_16) (by decide) (by decide)
  obtain ⟨b8r, kr8, rfl, N8q, K8q, B8, V8⟩ := hQ8
  have N8 := Fr.app N0 N8q
  have f11 := A1.keep K8q
  have f12 := f5.keep K8q nin0
  have f13 := f6.keep K8q nin0
  have ne14 := Exa.ne B8 f11 (by decide)
  have Z15 : n0 ≤ T8.heap.size := Nat.le_trans Z7 K8q.1
  have K15 := K7.trans K8q all0
  refine own_vF m T8 19 #[vR ar, vI (0 : Int32), vI (1 : Int32)] [(.ref b8r), (.ref b1), (.ref b1)] (fun t k => st8 t k) ?_
  refine own_vF m T8 20 #[vR ar, vI (0 : Int32), vI (1 : Int32)] [(.int 0), (.ref b8r), (.ref b1), (.ref b1)] (fun t k => XS.iconst X8.here hx rfl (hb hby d25_19) k) ?_
  obtain ⟨_, T16, L16, X16, hQ16, st16⟩ := own_callI X8 hx hZ (y := (⟨"java/lang/String", "<init>", "([BB)V"⟩ : MethodName)) rfl (W := 1) hown (hw _ (own_mt 129 rfl)) (hw _ (own_mt 130 rfl)) (hw _ (own_mt 12 rfl)) (hw _ (own_mt 131 rfl)) (by decide) (rm_Qibb l Z a0 hw b1 b8r T8.heap n0 Z15 f11 f12 f13 gn_b1) (by decide) (by decide) rfl (a := b1) (g := (mkF m 20 #[vR ar, vI (0 : Int32), vI (1 : Int32)] [(.int 0), (.ref b8r), (.ref b1), (.ref b1)])) rfl (by rw [hml]; rfl) (argsL := [(.ref b8r), (.int 0)]) (rest := [(.ref b1)]) rfl (lenOf pd_ABB__V rfl) rfl own_w0 (hb hby d25_20) (by decide) (by decide)
  obtain ⟨rfl, N16q, K16q, Es16, Fv16, Fc16⟩ := hQ16
  have N16 := Fr.app N8 N16q
  have f20 := B8.keep K16q
  have f21 := V8.keep K16q (ninS ne14 nin0)
  have K22 := K15.trans K16q (allS (Or.inr sz_b1) all0)
  refine own_vF m T16 23 #[vR ar, vI (0 : Int32), vI (1 : Int32)] [(.ref b1)] (fun t k => st16 t k) ?_
  exact own_ret X16 (v := some (.ref b1)) (fun h => by rw [hret] at h; cases h) hlk (fun fs hr => retOut X16 hx (t := (.object "java/lang/String")) hret rfl (Or.inr (Or.inr (Or.inr (Or.inr ⟨rfl, rfl, rfl⟩)))) (hb hby d25_23) hr) (by exact ⟨b1, rfl, N16, K22, Es16, Fc16, b8r, _, Fv16, f20, f21⟩) (by decide) (by decide)
def Qns31 (Z : State) (ar : Addr) (kk : ClassId) (v1 v2 v3 : Int32) (h0 : Heap) (n0 : Nat) (v : Option Value) (h : Heap) (L : List Loc) : Prop := ∃ r, v = some (.ref r) ∧ Fr n0 L ∧ Keep h0 h [] ∧ Exa Z h r "java/lang/String" ∧ Fld Z h r "java/lang/String" "coder" "B" (.int 0) ∧ ∃ b kb, Fld Z h r "java/lang/String" "value" "[B" (.ref b) ∧ Exa Z h b "[B" ∧ Arv Z h b kb .byte (1 : Int32) [.int v1] (.int 0)
set_option maxRecDepth 65536 in
set_option maxHeartbeats 40000000 in
theorem rm_Qns31 (l : Launch) (Z : State) (a0 : Array Value) (hw : ∀ d ∈ tables_1, d.before a0 Z = true) (ar : Addr) (kk : ClassId) (v1 v2 v3 : Int32) (h0 : Heap) (n0 : Nat) (Z0 : n0 ≤ h0.size) (Ea : Exa Z h0 ar "[B") (Va : Arv Z h0 ar kk .byte (3 : Int32) [(.int v1), (.int v2), (.int v3)] (.int 0)) :
    own_MG l Z ((⟨"java/lang/StringLatin1", "newString", "([BII)Ljava/lang/String;"⟩ : MethodName)) jdk_43_method_47_code 3 (some (.object "java/lang/String")) ({ frames := 3, cells := 2, slots := 5, locals := 92 } : Room) #[(.ref ar), (.int 0), (.int 1)] h0 (Qns31 Z ar kk v1 v2 v3 h0 n0) := by
  refine own_mkG (plainFor_of_name pn_java_lang_StringLatin1) ?_
  intro p e s m below meth c s₁ X0 hx hby hml hown hnm hret hlk hZ e0
  have N0 := Fr.nil n0
  have K0 := Keep.refl h0 []
  rw [ef_RII3 m ar (0 : Int32) (1 : Int32)]
  refine own_vF m s₁ 1 #[vR ar, vI (0 : Int32), vI (1 : Int32)] [(.int 1)] (fun t k => XS.iloadN X0.here hx rfl (hb hby d25_0) rfl k) ?_
  refine own_vF m s₁ 7 #[vR ar, vI (0 : Int32), vI (1 : Int32)] [] (fun t k => XS.ifYes X0.here hx rfl (pc0 := 1) (pc' := 7) rfl (hb hby d25_1) rfl ((if0 _ _).trans (feq (by decide : ¬ ((1 : Int32) = (0 : Int32)))).2) (by decide) (by decide) k) ?_
  obtain ⟨T1, h1, X1, e1, E1, A1, D1, -, st1⟩ := newO X0 hx hZ hown (hw _ (own_mt 116 rfl)) (hw _ (own_mt 11 rfl)) (hw _ (own_mt 12 rfl)) e0 (g := (mkF m 7 #[vR ar, vI (0 : Int32), vI (1 : Int32)] [])) rfl (hb hby d25_7) (by decide) (by decide)
  obtain ⟨b1, g1⟩ : ∃ z, z = h0.size := ⟨_, rfl⟩
  rw [← g1] at A1 D1 st1
  have gn_b1 : n0 ≤ b1 := Nat.le_trans Z0 (Nat.le_of_eq g1.symm)
  have sz_b1 : h0.size ≤ b1 := Nat.le_trans K0.1 (Nat.le_of_eq g1.symm)
  have f3 := Ea.ext E1
  have f4 := Va.ext E1
  have f5 : Fld Z h1 b1 "java/lang/String" "value" "[B" .null := D1 (Or.inr (hw _ (own_mt 32 rfl))) (ty := (.array .byte)) (by decide)
  have f6 : Fld Z h1 b1 "java/lang/String" "coder" "B" (.int 0) := D1 (Or.inr (hw _ (own_mt 33 rfl))) (ty := .byte) (by decide)
  have Z7 : n0 ≤ h1.size := Nat.le_trans Z0 E1.1
  have K7 := K0.ext E1
  refine own_vF m T1 10 #[vR ar, vI (0 : Int32), vI (1 : Int32)] [(.ref b1)] (fun t k => st1 t k) ?_
  refine own_vF m T1 11 #[vR ar, vI (0 : Int32), vI (1 : Int32)] [(.ref b1), (.ref b1)] (fun t k => XS.dup X1.here hx rfl (hb hby d25_10) rfl rfl k) ?_
  refine own_vF m T1 12 #[vR ar, vI (0 : Int32), vI (1 : Int32)] [(.ref ar), (.ref b1), (.ref b1)] (fun t k => XS.aloadN X1.here hx rfl (hb hby d25_11) rfl rfl k) ?_
  refine own_vF m T1 13 #[vR ar, vI (0 : Int32), vI (1 : Int32)] [(.int 0), (.ref ar), (.ref b1), (.ref b1)] (fun t k => XS.iloadN X1.here hx rfl (hb hby d25_12) rfl k) ?_
  refine own_vF m T1 14 #[vR ar, vI (0 : Int32), vI (1 : Int32)] [(.int 0), (.int 0), (.ref ar), (.ref b1), (.ref b1)] (fun t k => XS.iloadN X1.here hx rfl (hb hby d25_13) rfl k) ?_
  refine own_vF m T1 15 #[vR ar, vI (0 : Int32), vI (1 : Int32)] [(.int 1), (.int 0), (.int 0), (.ref ar), (.ref b1), (.ref b1)] (fun t k => XS.iloadN X1.here hx rfl (hb hby d25_14) rfl k) ?_
  refine own_vF m T1 16 #[vR ar, vI (0 : Int32), vI (1 : Int32)] [(.int ((0 : Int32) + (1 : Int32))), (.int 0), (.ref ar), (.ref b1), (.ref b1)] (fun t k => XS.iadd X1.here hx rfl (hb hby d25_15) rfl k) ?_
  rw [show ((0 : Int32) + (1 : Int32)) = (1 : Int32) from by decide]
  obtain ⟨_, T8, L8, X8, hQ8, st8⟩ := own_callS X1 hx hZ (y := (⟨"java/util/Arrays", "copyOfRange", "([BII)[B"⟩ : MethodName)) (W := 2) hown (hw _ (own_mt 117 rfl)) (hw _ (own_mt 98 rfl)) (hw _ (own_mt 99 rfl)) (hw _ (own_mt 100 rfl)) (by decide) (rm_Qcr31 l Z a0 hw ar kk v1 v2 v3 h1 n0 Z7 f3 f4) (by decide) (by decide) e1 (g := (mkF m 16 #[vR ar, vI (0 : Int32), vI (1 : Int32)] [(.int 1), (.int 0), (.ref ar), (.ref b1), (.ref b1)])) rfl (by rw [hml]; rfl) (argsL := [(.ref ar), (.int 0), (.int 1)]) (rest := [(.ref b1), (.ref b1)]) rfl (lenOf pd_ABII__AB rfl) rfl own_w0 (hb hby d25_16) (by decide) (by decide)
  obtain ⟨b8r, kr8, rfl, N8q, K8q, B8, V8⟩ := hQ8
  have N8 := Fr.app N0 N8q
  have f11 := A1.keep K8q
  have f12 := f5.keep K8q nin0
  have f13 := f6.keep K8q nin0
  have ne14 := Exa.ne B8 f11 (by decide)
  have Z15 : n0 ≤ T8.heap.size := Nat.le_trans Z7 K8q.1
  have K15 := K7.trans K8q all0
  refine own_vF m T8 19 #[vR ar, vI (0 : Int32), vI (1 : Int32)] [(.ref b8r), (.ref b1), (.ref b1)] (fun t k => st8 t k) ?_
  refine own_vF m T8 20 #[vR ar, vI (0 : Int32), vI (1 : Int32)] [(.int 0), (.ref b8r), (.ref b1), (.ref b1)] (fun t k => XS.iconst X8.here hx rfl (hb hby d25_19) k) ?_
  obtain ⟨_, T16, L16, X16, hQ16, st16⟩ := own_callI X8 hx hZ (y := (⟨"java/lang/String", "<init>", "([BB)V"⟩ : MethodName)) rfl (W := 1) hown (hw _ (own_mt 129 rfl)) (hw _ (own_mt 130 rfl)) (hw _ (own_mt 12 rfl)) (hw _ (own_mt 131 rfl)) (by decide) (rm_Qibb l Z a0 hw b1 b8r T8.heap n0 Z15 f11 f12 f13 gn_b1) (by decide) (by decide) rfl (a := b1) (g := (mkF m 20 #[vR ar, vI (0 : Int32), vI (1 : Int32)] [(.int 0), (.ref b8r), (.ref b1), (.ref b1)])) rfl (by rw [hml]; rfl) (argsL := [(.ref b8r), (.int 0)]) (rest := [(.ref b1)]) rfl (lenOf pd_ABB__V rfl) rfl own_w0 (hb hby d25_20) (by decide) (by decide)
  obtain ⟨rfl, N16q, K16q, Es16, Fv16, Fc16⟩ := hQ16
  have N16 := Fr.app N8 N16q
  have f20 := B8.keep K16q
  have f21 := V8.keep K16q (ninS ne14 nin0)
  have K22 := K15.trans K16q (allS (Or.inr sz_b1) all0)
  refine own_vF m T16 23 #[vR ar, vI (0 : Int32), vI (1 : Int32)] [(.ref b1)] (fun t k => st16 t k) ?_
  exact own_ret X16 (v := some (.ref b1)) (fun h => by rw [hret] at h; cases h) hlk (fun fs hr => retOut X16 hx (t := (.object "java/lang/String")) hret rfl (Or.inr (Or.inr (Or.inr (Or.inr ⟨rfl, rfl, rfl⟩)))) (hb hby d25_23) hr) (by exact ⟨b1, rfl, N16, K22, Es16, Fc16, b8r, _, Fv16, f20, f21⟩) (by decide) (by decide)
def Qns32 (Z : State) (ar : Addr) (kk : ClassId) (v1 v2 v3 : Int32) (h0 : Heap) (n0 : Nat) (v : Option Value) (h : Heap) (L : List Loc) : Prop := ∃ r, v = some (.ref r) ∧ Fr n0 L ∧ Keep h0 h [] ∧ Exa Z h r "java/lang/String" ∧ Fld Z h r "java/lang/String" "coder" "B" (.int 0) ∧ ∃ b kb, Fld Z h r "java/lang/String" "value" "[B" (.ref b) ∧ Exa Z h b "[B" ∧ Arv Z h b kb .byte (2 : Int32) [.int v1, .int v2] (.int 0)
set_option maxRecDepth 65536 in
set_option maxHeartbeats 40000000 in
theorem rm_Qns32 (l : Launch) (Z : State) (a0 : Array Value) (hw : ∀ d ∈ tables_1, d.before a0 Z = true) (ar : Addr) (kk : ClassId) (v1 v2 v3 : Int32) (h0 : Heap) (n0 : Nat) (Z0 : n0 ≤ h0.size) (Ea : Exa Z h0 ar "[B") (Va : Arv Z h0 ar kk .byte (3 : Int32) [(.int v1), (.int v2), (.int v3)] (.int 0)) :
    own_MG l Z ((⟨"java/lang/StringLatin1", "newString", "([BII)Ljava/lang/String;"⟩ : MethodName)) jdk_43_method_47_code 3 (some (.object "java/lang/String")) ({ frames := 3, cells := 2, slots := 6, locals := 92 } : Room) #[(.ref ar), (.int 0), (.int 2)] h0 (Qns32 Z ar kk v1 v2 v3 h0 n0) := by
  refine own_mkG (plainFor_of_name pn_java_lang_StringLatin1) ?_
  intro p e s m below meth c s₁ X0 hx hby hml hown hnm hret hlk hZ e0
  have N0 := Fr.nil n0
  have K0 := Keep.refl h0 []
  rw [ef_RII3 m ar (0 : Int32) (2 : Int32)]
  refine own_vF m s₁ 1 #[vR ar, vI (0 : Int32), vI (2 : Int32)] [(.int 2)] (fun t k => XS.iloadN X0.here hx rfl (hb hby d25_0) rfl k) ?_
  refine own_vF m s₁ 7 #[vR ar, vI (0 : Int32), vI (2 : Int32)] [] (fun t k => XS.ifYes X0.here hx rfl (pc0 := 1) (pc' := 7) rfl (hb hby d25_1) rfl ((if0 _ _).trans (feq (by decide : ¬ ((2 : Int32) = (0 : Int32)))).2) (by decide) (by decide) k) ?_
  obtain ⟨T1, h1, X1, e1, E1, A1, D1, -, st1⟩ := newO X0 hx hZ hown (hw _ (own_mt 116 rfl)) (hw _ (own_mt 11 rfl)) (hw _ (own_mt 12 rfl)) e0 (g := (mkF m 7 #[vR ar, vI (0 : Int32), vI (2 : Int32)] [])) rfl (hb hby d25_7) (by decide) (by decide)
  obtain ⟨b1, g1⟩ : ∃ z, z = h0.size := ⟨_, rfl⟩
  rw [← g1] at A1 D1 st1
  have gn_b1 : n0 ≤ b1 := Nat.le_trans Z0 (Nat.le_of_eq g1.symm)
  have sz_b1 : h0.size ≤ b1 := Nat.le_trans K0.1 (Nat.le_of_eq g1.symm)
  have f3 := Ea.ext E1
  have f4 := Va.ext E1
  have f5 : Fld Z h1 b1 "java/lang/String" "value" "[B" .null := D1 (Or.inr (hw _ (own_mt 32 rfl))) (ty := (.array .byte)) (by decide)
  have f6 : Fld Z h1 b1 "java/lang/String" "coder" "B" (.int 0) := D1 (Or.inr (hw _ (own_mt 33 rfl))) (ty := .byte) (by decide)
  have Z7 : n0 ≤ h1.size := Nat.le_trans Z0 E1.1
  have K7 := K0.ext E1
  refine own_vF m T1 10 #[vR ar, vI (0 : Int32), vI (2 : Int32)] [(.ref b1)] (fun t k => st1 t k) ?_
  refine own_vF m T1 11 #[vR ar, vI (0 : Int32), vI (2 : Int32)] [(.ref b1), (.ref b1)] (fun t k => XS.dup X1.here hx rfl (hb hby d25_10) rfl rfl k) ?_
  refine own_vF m T1 12 #[vR ar, vI (0 : Int32), vI (2 : Int32)] [(.ref ar), (.ref b1), (.ref b1)] (fun t k => XS.aloadN X1.here hx rfl (hb hby d25_11) rfl rfl k) ?_
  refine own_vF m T1 13 #[vR ar, vI (0 : Int32), vI (2 : Int32)] [(.int 0), (.ref ar), (.ref b1), (.ref b1)] (fun t k => XS.iloadN X1.here hx rfl (hb hby d25_12) rfl k) ?_
  refine own_vF m T1 14 #[vR ar, vI (0 : Int32), vI (2 : Int32)] [(.int 0), (.int 0), (.ref ar), (.ref b1), (.ref b1)] (fun t k => XS.iloadN X1.here hx rfl (hb hby d25_13) rfl k) ?_
  refine own_vF m T1 15 #[vR ar, vI (0 : Int32), vI (2 : Int32)] [(.int 2), (.int 0), (.int 0), (.ref ar), (.ref b1), (.ref b1)] (fun t k => XS.iloadN X1.here hx rfl (hb hby d25_14) rfl k) ?_
  refine own_vF m T1 16 #[vR ar, vI (0 : Int32), vI (2 : Int32)] [(.int ((0 : Int32) + (2 : Int32))), (.int 0), (.ref ar), (.ref b1), (.ref b1)] (fun t k => XS.iadd X1.here hx rfl (hb hby d25_15) rfl k) ?_
  rw [show ((0 : Int32) + (2 : Int32)) = (2 : Int32) from by decide]
  obtain ⟨_, T8, L8, X8, hQ8, st8⟩ := own_callS X1 hx hZ (y := (⟨"java/util/Arrays", "copyOfRange", "([BII)[B"⟩ : MethodName)) (W := 2) hown (hw _ (own_mt 117 rfl)) (hw _ (own_mt 98 rfl)) (hw _ (own_mt 99 rfl)) (hw _ (own_mt 100 rfl)) (by decide) (rm_Qcr32 l Z a0 hw ar kk v1 v2 v3 h1 n0 Z7 f3 f4) (by decide) (by decide) e1 (g := (mkF m 16 #[vR ar, vI (0 : Int32), vI (2 : Int32)] [(.int 2), (.int 0), (.ref ar), (.ref b1), (.ref b1)])) rfl (by rw [hml]; rfl) (argsL := [(.ref ar), (.int 0), (.int 2)]) (rest := [(.ref b1), (.ref b1)]) rfl (lenOf pd_ABII__AB rfl) rfl own_w0 (hb hby d25_16) (by decide) (by decide)
  obtain ⟨b8r, kr8, rfl, N8q, K8q, B8, V8⟩ := hQ8
  have N8 := Fr.app N0 N8q
  have f11 := A1.keep K8q
  have f12 := f5.keep K8q nin0
  have f13 := f6.keep K8q nin0
  have ne14 := Exa.ne B8 f11 (by decide)
  have Z15 : n0 ≤ T8.heap.size := Nat.le_trans Z7 K8q.1
  have K15 := K7.trans K8q all0
  refine own_vF m T8 19 #[vR ar, vI (0 : Int32), vI (2 : Int32)] [(.ref b8r), (.ref b1), (.ref b1)] (fun t k => st8 t k) ?_
  refine own_vF m T8 20 #[vR ar, vI (0 : Int32), vI (2 : Int32)] [(.int 0), (.ref b8r), (.ref b1), (.ref b1)] (fun t k => XS.iconst X8.here hx rfl (hb hby d25_19) k) ?_
  obtain ⟨_, T16, L16, X16, hQ16, st16⟩ := own_callI X8 hx hZ (y := (⟨"java/lang/String", "<init>", "([BB)V"⟩ : MethodName)) rfl (W := 1) hown (hw _ (own_mt 129 rfl)) (hw _ (own_mt 130 rfl)) (hw _ (own_mt 12 rfl)) (hw _ (own_mt 131 rfl)) (by decide) (rm_Qibb l Z a0 hw b1 b8r T8.heap n0 Z15 f11 f12 f13 gn_b1) (by decide) (by decide) rfl (a := b1) (g := (mkF m 20 #[vR ar, vI (0 : Int32), vI (2 : Int32)] [(.int 0), (.ref b8r), (.ref b1), (.ref b1)])) rfl (by rw [hml]; rfl) (argsL := [(.ref b8r), (.int 0)]) (rest := [(.ref b1)]) rfl (lenOf pd_ABB__V rfl) rfl own_w0 (hb hby d25_20) (by decide) (by decide)
  obtain ⟨rfl, N16q, K16q, Es16, Fv16, Fc16⟩ := hQ16
  have N16 := Fr.app N8 N16q
  have f20 := B8.keep K16q
  have f21 := V8.keep K16q (ninS ne14 nin0)
  have K22 := K15.trans K16q (allS (Or.inr sz_b1) all0)
  refine own_vF m T16 23 #[vR ar, vI (0 : Int32), vI (2 : Int32)] [(.ref b1)] (fun t k => st16 t k) ?_
  exact own_ret X16 (v := some (.ref b1)) (fun h => by rw [hret] at h; cases h) hlk (fun fs hr => retOut X16 hx (t := (.object "java/lang/String")) hret rfl (Or.inr (Or.inr (Or.inr (Or.inr ⟨rfl, rfl, rfl⟩)))) (hb hby d25_23) hr) (by exact ⟨b1, rfl, N16, K22, Es16, Fc16, b8r, _, Fv16, f20, f21⟩) (by decide) (by decide)
def Qns41 (Z : State) (ar : Addr) (kk : ClassId) (v1 v2 v3 v4 : Int32) (h0 : Heap) (n0 : Nat) (v : Option Value) (h : Heap) (L : List Loc) : Prop := ∃ r, v = some (.ref r) ∧ Fr n0 L ∧ Keep h0 h [] ∧ Exa Z h r "java/lang/String" ∧ Fld Z h r "java/lang/String" "coder" "B" (.int 0) ∧ ∃ b kb, Fld Z h r "java/lang/String" "value" "[B" (.ref b) ∧ Exa Z h b "[B" ∧ Arv Z h b kb .byte (1 : Int32) [.int v1] (.int 0)
set_option maxRecDepth 65536 in
set_option maxHeartbeats 40000000 in
theorem rm_Qns41 (l : Launch) (Z : State) (a0 : Array Value) (hw : ∀ d ∈ tables_1, d.before a0 Z = true) (ar : Addr) (kk : ClassId) (v1 v2 v3 v4 : Int32) (h0 : Heap) (n0 : Nat) (Z0 : n0 ≤ h0.size) (Ea : Exa Z h0 ar "[B") (Va : Arv Z h0 ar kk .byte (4 : Int32) [(.int v1), (.int v2), (.int v3), (.int v4)] (.int 0)) :
    own_MG l Z ((⟨"java/lang/StringLatin1", "newString", "([BII)Ljava/lang/String;"⟩ : MethodName)) jdk_43_method_47_code 3 (some (.object "java/lang/String")) ({ frames := 3, cells := 2, slots := 5, locals := 92 } : Room) #[(.ref ar), (.int 0), (.int 1)] h0 (Qns41 Z ar kk v1 v2 v3 v4 h0 n0) := by
  refine own_mkG (plainFor_of_name pn_java_lang_StringLatin1) ?_
  intro p e s m below meth c s₁ X0 hx hby hml hown hnm hret hlk hZ e0
  have N0 := Fr.nil n0
  have K0 := Keep.refl h0 []
  rw [ef_RII3 m ar (0 : Int32) (1 : Int32)]
  refine own_vF m s₁ 1 #[vR ar, vI (0 : Int32), vI (1 : Int32)] [(.int 1)] (fun t k => XS.iloadN X0.here hx rfl (hb hby d25_0) rfl k) ?_
  refine own_vF m s₁ 7 #[vR ar, vI (0 : Int32), vI (1 : Int32)] [] (fun t k => XS.ifYes X0.here hx rfl (pc0 := 1) (pc' := 7) rfl (hb hby d25_1) rfl ((if0 _ _).trans (feq (by decide : ¬ ((1 : Int32) = (0 : Int32)))).2) (by decide) (by decide) k) ?_
  obtain ⟨T1, h1, X1, e1, E1, A1, D1, -, st1⟩ := newO X0 hx hZ hown (hw _ (own_mt 116 rfl)) (hw _ (own_mt 11 rfl)) (hw _ (own_mt 12 rfl)) e0 (g := (mkF m 7 #[vR ar, vI (0 : Int32), vI (1 : Int32)] [])) rfl (hb hby d25_7) (by decide) (by decide)
  obtain ⟨b1, g1⟩ : ∃ z, z = h0.size := ⟨_, rfl⟩
  rw [← g1] at A1 D1 st1
  have gn_b1 : n0 ≤ b1 := Nat.le_trans Z0 (Nat.le_of_eq g1.symm)
  have sz_b1 : h0.size ≤ b1 := Nat.le_trans K0.1 (Nat.le_of_eq g1.symm)
  have f3 := Ea.ext E1
  have f4 := Va.ext E1
  have f5 : Fld Z h1 b1 "java/lang/String" "value" "[B" .null := D1 (Or.inr (hw _ (own_mt 32 rfl))) (ty := (.array .byte)) (by decide)
  have f6 : Fld Z h1 b1 "java/lang/String" "coder" "B" (.int 0) := D1 (Or.inr (hw _ (own_mt 33 rfl))) (ty := .byte) (by decide)
  have Z7 : n0 ≤ h1.size := Nat.le_trans Z0 E1.1
  have K7 := K0.ext E1
  refine own_vF m T1 10 #[vR ar, vI (0 : Int32), vI (1 : Int32)] [(.ref b1)] (fun t k => st1 t k) ?_
  refine own_vF m T1 11 #[vR ar, vI (0 : Int32), vI (1 : Int32)] [(.ref b1), (.ref b1)] (fun t k => XS.dup X1.here hx rfl (hb hby d25_10) rfl rfl k) ?_
  refine own_vF m T1 12 #[vR ar, vI (0 : Int32), vI (1 : Int32)] [(.ref ar), (.ref b1), (.ref b1)] (fun t k => XS.aloadN X1.here hx rfl (hb hby d25_11) rfl rfl k) ?_
  refine own_vF m T1 13 #[vR ar, vI (0 : Int32), vI (1 : Int32)] [(.int 0), (.ref ar), (.ref b1), (.ref b1)] (fun t k => XS.iloadN X1.here hx rfl (hb hby d25_12) rfl k) ?_
  refine own_vF m T1 14 #[vR ar, vI (0 : Int32), vI (1 : Int32)] [(.int 0), (.int 0), (.ref ar), (.ref b1), (.ref b1)] (fun t k => XS.iloadN X1.here hx rfl (hb hby d25_13) rfl k) ?_
  refine own_vF m T1 15 #[vR ar, vI (0 : Int32), vI (1 : Int32)] [(.int 1), (.int 0), (.int 0), (.ref ar), (.ref b1), (.ref b1)] (fun t k => XS.iloadN X1.here hx rfl (hb hby d25_14) rfl k) ?_
  refine own_vF m T1 16 #[vR ar, vI (0 : Int32), vI (1 : Int32)] [(.int ((0 : Int32) + (1 : Int32))), (.int 0), (.ref ar), (.ref b1), (.ref b1)] (fun t k => XS.iadd X1.here hx rfl (hb hby d25_15) rfl k) ?_
  rw [show ((0 : Int32) + (1 : Int32)) = (1 : Int32) from by decide]
  obtain ⟨_, T8, L8, X8, hQ8, st8⟩ := own_callS X1 hx hZ (y := (⟨"java/util/Arrays", "copyOfRange", "([BII)[B"⟩ : MethodName)) (W := 2) hown (hw _ (own_mt 117 rfl)) (hw _ (own_mt 98 rfl)) (hw _ (own_mt 99 rfl)) (hw _ (own_mt 100 rfl)) (by decide) (rm_Qcr41 l Z a0 hw ar kk v1 v2 v3 v4 h1 n0 Z7 f3 f4) (by decide) (by decide) e1 (g := (mkF m 16 #[vR ar, vI (0 : Int32), vI (1 : Int32)] [(.int 1), (.int 0), (.ref ar), (.ref b1), (.ref b1)])) rfl (by rw [hml]; rfl) (argsL := [(.ref ar), (.int 0), (.int 1)]) (rest := [(.ref b1), (.ref b1)]) rfl (lenOf pd_ABII__AB rfl) rfl own_w0 (hb hby d25_16) (by decide) (by decide)
  obtain ⟨b8r, kr8, rfl, N8q, K8q, B8, V8⟩ := hQ8
  have N8 := Fr.app N0 N8q
  have f11 := A1.keep K8q
  have f12 := f5.keep K8q nin0
  have f13 := f6.keep K8q nin0
  have ne14 := Exa.ne B8 f11 (by decide)
  have Z15 : n0 ≤ T8.heap.size := Nat.le_trans Z7 K8q.1
  have K15 := K7.trans K8q all0
  refine own_vF m T8 19 #[vR ar, vI (0 : Int32), vI (1 : Int32)] [(.ref b8r), (.ref b1), (.ref b1)] (fun t k => st8 t k) ?_
  refine own_vF m T8 20 #[vR ar, vI (0 : Int32), vI (1 : Int32)] [(.int 0), (.ref b8r), (.ref b1), (.ref b1)] (fun t k => XS.iconst X8.here hx rfl (hb hby d25_19) k) ?_
  obtain ⟨_, T16, L16, X16, hQ16, st16⟩ := own_callI X8 hx hZ (y := (⟨"java/lang/String", "<init>", "([BB)V"⟩ : MethodName)) rfl (W := 1) hown (hw _ (own_mt 129 rfl)) (hw _ (own_mt 130 rfl)) (hw _ (own_mt 12 rfl)) (hw _ (own_mt 131 rfl)) (by decide) (rm_Qibb l Z a0 hw b1 b8r T8.heap n0 Z15 f11 f12 f13 gn_b1) (by decide) (by decide) rfl (a := b1) (g := (mkF m 20 #[vR ar, vI (0 : Int32), vI (1 : Int32)] [(.int 0), (.ref b8r), (.ref b1), (.ref b1)])) rfl (by rw [hml]; rfl) (argsL := [(.ref b8r), (.int 0)]) (rest := [(.ref b1)]) rfl (lenOf pd_ABB__V rfl) rfl own_w0 (hb hby d25_20) (by decide) (by decide)
  obtain ⟨rfl, N16q, K16q, Es16, Fv16, Fc16⟩ := hQ16
  have N16 := Fr.app N8 N16q
  have f20 := B8.keep K16q
  have f21 := V8.keep K16q (ninS ne14 nin0)
  have K22 := K15.trans K16q (allS (Or.inr sz_b1) all0)
  refine own_vF m T16 23 #[vR ar, vI (0 : Int32), vI (1 : Int32)] [(.ref b1)] (fun t k => st16 t k) ?_
  exact own_ret X16 (v := some (.ref b1)) (fun h => by rw [hret] at h; cases h) hlk (fun fs hr => retOut X16 hx (t := (.object "java/lang/String")) hret rfl (Or.inr (Or.inr (Or.inr (Or.inr ⟨rfl, rfl, rfl⟩)))) (hb hby d25_23) hr) (by exact ⟨b1, rfl, N16, K22, Es16, Fc16, b8r, _, Fv16, f20, f21⟩) (by decide) (by decide)
def Qns42 (Z : State) (ar : Addr) (kk : ClassId) (v1 v2 v3 v4 : Int32) (h0 : Heap) (n0 : Nat) (v : Option Value) (h : Heap) (L : List Loc) : Prop := ∃ r, v = some (.ref r) ∧ Fr n0 L ∧ Keep h0 h [] ∧ Exa Z h r "java/lang/String" ∧ Fld Z h r "java/lang/String" "coder" "B" (.int 0) ∧ ∃ b kb, Fld Z h r "java/lang/String" "value" "[B" (.ref b) ∧ Exa Z h b "[B" ∧ Arv Z h b kb .byte (2 : Int32) [.int v1, .int v2] (.int 0)
set_option maxRecDepth 65536 in
set_option maxHeartbeats 40000000 in
theorem rm_Qns42 (l : Launch) (Z : State) (a0 : Array Value) (hw : ∀ d ∈ tables_1, d.before a0 Z = true) (ar : Addr) (kk : ClassId) (v1 v2 v3 v4 : Int32) (h0 : Heap) (n0 : Nat) (Z0 : n0 ≤ h0.size) (Ea : Exa Z h0 ar "[B") (Va : Arv Z h0 ar kk .byte (4 : Int32) [(.int v1), (.int v2), (.int v3), (.int v4)] (.int 0)) :
    own_MG l Z ((⟨"java/lang/StringLatin1", "newString", "([BII)Ljava/lang/String;"⟩ : MethodName)) jdk_43_method_47_code 3 (some (.object "java/lang/String")) ({ frames := 3, cells := 2, slots := 6, locals := 92 } : Room) #[(.ref ar), (.int 0), (.int 2)] h0 (Qns42 Z ar kk v1 v2 v3 v4 h0 n0) := by
  refine own_mkG (plainFor_of_name pn_java_lang_StringLatin1) ?_
  intro p e s m below meth c s₁ X0 hx hby hml hown hnm hret hlk hZ e0
  have N0 := Fr.nil n0
  have K0 := Keep.refl h0 []
  rw [ef_RII3 m ar (0 : Int32) (2 : Int32)]
  refine own_vF m s₁ 1 #[vR ar, vI (0 : Int32), vI (2 : Int32)] [(.int 2)] (fun t k => XS.iloadN X0.here hx rfl (hb hby d25_0) rfl k) ?_
  refine own_vF m s₁ 7 #[vR ar, vI (0 : Int32), vI (2 : Int32)] [] (fun t k => XS.ifYes X0.here hx rfl (pc0 := 1) (pc' := 7) rfl (hb hby d25_1) rfl ((if0 _ _).trans (feq (by decide : ¬ ((2 : Int32) = (0 : Int32)))).2) (by decide) (by decide) k) ?_
  obtain ⟨T1, h1, X1, e1, E1, A1, D1, -, st1⟩ := newO X0 hx hZ hown (hw _ (own_mt 116 rfl)) (hw _ (own_mt 11 rfl)) (hw _ (own_mt 12 rfl)) e0 (g := (mkF m 7 #[vR ar, vI (0 : Int32), vI (2 : Int32)] [])) rfl (hb hby d25_7) (by decide) (by decide)
  obtain ⟨b1, g1⟩ : ∃ z, z = h0.size := ⟨_, rfl⟩
  rw [← g1] at A1 D1 st1
  have gn_b1 : n0 ≤ b1 := Nat.le_trans Z0 (Nat.le_of_eq g1.symm)
  have sz_b1 : h0.size ≤ b1 := Nat.le_trans K0.1 (Nat.le_of_eq g1.symm)
  have f3 := Ea.ext E1
  have f4 := Va.ext E1
  have f5 : Fld Z h1 b1 "java/lang/String" "value" "[B" .null := D1 (Or.inr (hw _ (own_mt 32 rfl))) (ty := (.array .byte)) (by decide)
  have f6 : Fld Z h1 b1 "java/lang/String" "coder" "B" (.int 0) := D1 (Or.inr (hw _ (own_mt 33 rfl))) (ty := .byte) (by decide)
  have Z7 : n0 ≤ h1.size := Nat.le_trans Z0 E1.1
  have K7 := K0.ext E1
  refine own_vF m T1 10 #[vR ar, vI (0 : Int32), vI (2 : Int32)] [(.ref b1)] (fun t k => st1 t k) ?_
  refine own_vF m T1 11 #[vR ar, vI (0 : Int32), vI (2 : Int32)] [(.ref b1), (.ref b1)] (fun t k => XS.dup X1.here hx rfl (hb hby d25_10) rfl rfl k) ?_
  refine own_vF m T1 12 #[vR ar, vI (0 : Int32), vI (2 : Int32)] [(.ref ar), (.ref b1), (.ref b1)] (fun t k => XS.aloadN X1.here hx rfl (hb hby d25_11) rfl rfl k) ?_
  refine own_vF m T1 13 #[vR ar, vI (0 : Int32), vI (2 : Int32)] [(.int 0), (.ref ar), (.ref b1), (.ref b1)] (fun t k => XS.iloadN X1.here hx rfl (hb hby d25_12) rfl k) ?_
  refine own_vF m T1 14 #[vR ar, vI (0 : Int32), vI (2 : Int32)] [(.int 0), (.int 0), (.ref ar), (.ref b1), (.ref b1)] (fun t k => XS.iloadN X1.here hx rfl (hb hby d25_13) rfl k) ?_
  refine own_vF m T1 15 #[vR ar, vI (0 : Int32), vI (2 : Int32)] [(.int 2), (.int 0), (.int 0), (.ref ar), (.ref b1), (.ref b1)] (fun t k => XS.iloadN X1.here hx rfl (hb hby d25_14) rfl k) ?_
  refine own_vF m T1 16 #[vR ar, vI (0 : Int32), vI (2 : Int32)] [(.int ((0 : Int32) + (2 : Int32))), (.int 0), (.ref ar), (.ref b1), (.ref b1)] (fun t k => XS.iadd X1.here hx rfl (hb hby d25_15) rfl k) ?_
  rw [show ((0 : Int32) + (2 : Int32)) = (2 : Int32) from by decide]
  obtain ⟨_, T8, L8, X8, hQ8, st8⟩ := own_callS X1 hx hZ (y := (⟨"java/util/Arrays", "copyOfRange", "([BII)[B"⟩ : MethodName)) (W := 2) hown (hw _ (own_mt 117 rfl)) (hw _ (own_mt 98 rfl)) (hw _ (own_mt 99 rfl)) (hw _ (own_mt 100 rfl)) (by decide) (rm_Qcr42 l Z a0 hw ar kk v1 v2 v3 v4 h1 n0 Z7 f3 f4) (by decide) (by decide) e1 (g := (mkF m 16 #[vR ar, vI (0 : Int32), vI (2 : Int32)] [(.int 2), (.int 0), (.ref ar), (.ref b1), (.ref b1)])) rfl (by rw [hml]; rfl) (argsL := [(.ref ar), (.int 0), (.int 2)]) (rest := [(.ref b1), (.ref b1)]) rfl (lenOf pd_ABII__AB rfl) rfl own_w0 (hb hby d25_16) (by decide) (by decide)
  obtain ⟨b8r, kr8, rfl, N8q, K8q, B8, V8⟩ := hQ8
  have N8 := Fr.app N0 N8q
  have f11 := A1.keep K8q
  have f12 := f5.keep K8q nin0
  have f13 := f6.keep K8q nin0
  have ne14 := Exa.ne B8 f11 (by decide)
  have Z15 : n0 ≤ T8.heap.size := Nat.le_trans Z7 K8q.1
  have K15 := K7.trans K8q all0
  refine own_vF m T8 19 #[vR ar, vI (0 : Int32), vI (2 : Int32)] [(.ref b8r), (.ref b1), (.ref b1)] (fun t k => st8 t k) ?_
  refine own_vF m T8 20 #[vR ar, vI (0 : Int32), vI (2 : Int32)] [(.int 0), (.ref b8r), (.ref b1), (.ref b1)] (fun t k => XS.iconst X8.here hx rfl (hb hby d25_19) k) ?_
  obtain ⟨_, T16, L16, X16, hQ16, st16⟩ := own_callI X8 hx hZ (y := (⟨"java/lang/String", "<init>", "([BB)V"⟩ : MethodName)) rfl (W := 1) hown (hw _ (own_mt 129 rfl)) (hw _ (own_mt 130 rfl)) (hw _ (own_mt 12 rfl)) (hw _ (own_mt 131 rfl)) (by decide) (rm_Qibb l Z a0 hw b1 b8r T8.heap n0 Z15 f11 f12 f13 gn_b1) (by decide) (by decide) rfl (a := b1) (g := (mkF m 20 #[vR ar, vI (0 : Int32), vI (2 : Int32)] [(.int 0), (.ref b8r), (.ref b1), (.ref b1)])) rfl (by rw [hml]; rfl) (argsL := [(.ref b8r), (.int 0)]) (rest := [(.ref b1)]) rfl (lenOf pd_ABB__V rfl) rfl own_w0 (hb hby d25_20) (by decide) (by decide)
  obtain ⟨rfl, N16q, K16q, Es16, Fv16, Fc16⟩ := hQ16
  have N16 := Fr.app N8 N16q
  have f20 := B8.keep K16q
  have f21 := V8.keep K16q (ninS ne14 nin0)
  have K22 := K15.trans K16q (allS (Or.inr sz_b1) all0)
  refine own_vF m T16 23 #[vR ar, vI (0 : Int32), vI (2 : Int32)] [(.ref b1)] (fun t k => st16 t k) ?_
  exact own_ret X16 (v := some (.ref b1)) (fun h => by rw [hret] at h; cases h) hlk (fun fs hr => retOut X16 hx (t := (.object "java/lang/String")) hret rfl (Or.inr (Or.inr (Or.inr (Or.inr ⟨rfl, rfl, rfl⟩)))) (hb hby d25_23) hr) (by exact ⟨b1, rfl, N16, K22, Es16, Fc16, b8r, _, Fv16, f20, f21⟩) (by decide) (by decide)
def Qns43 (Z : State) (ar : Addr) (kk : ClassId) (v1 v2 v3 v4 : Int32) (h0 : Heap) (n0 : Nat) (v : Option Value) (h : Heap) (L : List Loc) : Prop := ∃ r, v = some (.ref r) ∧ Fr n0 L ∧ Keep h0 h [] ∧ Exa Z h r "java/lang/String" ∧ Fld Z h r "java/lang/String" "coder" "B" (.int 0) ∧ ∃ b kb, Fld Z h r "java/lang/String" "value" "[B" (.ref b) ∧ Exa Z h b "[B" ∧ Arv Z h b kb .byte (3 : Int32) [.int v1, .int v2, .int v3] (.int 0)
set_option maxRecDepth 65536 in
set_option maxHeartbeats 40000000 in
theorem rm_Qns43 (l : Launch) (Z : State) (a0 : Array Value) (hw : ∀ d ∈ tables_1, d.before a0 Z = true) (ar : Addr) (kk : ClassId) (v1 v2 v3 v4 : Int32) (h0 : Heap) (n0 : Nat) (Z0 : n0 ≤ h0.size) (Ea : Exa Z h0 ar "[B") (Va : Arv Z h0 ar kk .byte (4 : Int32) [(.int v1), (.int v2), (.int v3), (.int v4)] (.int 0)) :
    own_MG l Z ((⟨"java/lang/StringLatin1", "newString", "([BII)Ljava/lang/String;"⟩ : MethodName)) jdk_43_method_47_code 3 (some (.object "java/lang/String")) ({ frames := 3, cells := 2, slots := 7, locals := 92 } : Room) #[(.ref ar), (.int 0), (.int 3)] h0 (Qns43 Z ar kk v1 v2 v3 v4 h0 n0) := by
  refine own_mkG (plainFor_of_name pn_java_lang_StringLatin1) ?_
  intro p e s m below meth c s₁ X0 hx hby hml hown hnm hret hlk hZ e0
  have N0 := Fr.nil n0
  have K0 := Keep.refl h0 []
  rw [ef_RII3 m ar (0 : Int32) (3 : Int32)]
  refine own_vF m s₁ 1 #[vR ar, vI (0 : Int32), vI (3 : Int32)] [(.int 3)] (fun t k => XS.iloadN X0.here hx rfl (hb hby d25_0) rfl k) ?_
  refine own_vF m s₁ 7 #[vR ar, vI (0 : Int32), vI (3 : Int32)] [] (fun t k => XS.ifYes X0.here hx rfl (pc0 := 1) (pc' := 7) rfl (hb hby d25_1) rfl ((if0 _ _).trans (feq (by decide : ¬ ((3 : Int32) = (0 : Int32)))).2) (by decide) (by decide) k) ?_
  obtain ⟨T1, h1, X1, e1, E1, A1, D1, -, st1⟩ := newO X0 hx hZ hown (hw _ (own_mt 116 rfl)) (hw _ (own_mt 11 rfl)) (hw _ (own_mt 12 rfl)) e0 (g := (mkF m 7 #[vR ar, vI (0 : Int32), vI (3 : Int32)] [])) rfl (hb hby d25_7) (by decide) (by decide)
  obtain ⟨b1, g1⟩ : ∃ z, z = h0.size := ⟨_, rfl⟩
  rw [← g1] at A1 D1 st1
  have gn_b1 : n0 ≤ b1 := Nat.le_trans Z0 (Nat.le_of_eq g1.symm)
  have sz_b1 : h0.size ≤ b1 := Nat.le_trans K0.1 (Nat.le_of_eq g1.symm)
  have f3 := Ea.ext E1
  have f4 := Va.ext E1
  have f5 : Fld Z h1 b1 "java/lang/String" "value" "[B" .null := D1 (Or.inr (hw _ (own_mt 32 rfl))) (ty := (.array .byte)) (by decide)
  have f6 : Fld Z h1 b1 "java/lang/String" "coder" "B" (.int 0) := D1 (Or.inr (hw _ (own_mt 33 rfl))) (ty := .byte) (by decide)
  have Z7 : n0 ≤ h1.size := Nat.le_trans Z0 E1.1
  have K7 := K0.ext E1
  refine own_vF m T1 10 #[vR ar, vI (0 : Int32), vI (3 : Int32)] [(.ref b1)] (fun t k => st1 t k) ?_
  refine own_vF m T1 11 #[vR ar, vI (0 : Int32), vI (3 : Int32)] [(.ref b1), (.ref b1)] (fun t k => XS.dup X1.here hx rfl (hb hby d25_10) rfl rfl k) ?_
  refine own_vF m T1 12 #[vR ar, vI (0 : Int32), vI (3 : Int32)] [(.ref ar), (.ref b1), (.ref b1)] (fun t k => XS.aloadN X1.here hx rfl (hb hby d25_11) rfl rfl k) ?_
  refine own_vF m T1 13 #[vR ar, vI (0 : Int32), vI (3 : Int32)] [(.int 0), (.ref ar), (.ref b1), (.ref b1)] (fun t k => XS.iloadN X1.here hx rfl (hb hby d25_12) rfl k) ?_
  refine own_vF m T1 14 #[vR ar, vI (0 : Int32), vI (3 : Int32)] [(.int 0), (.int 0), (.ref ar), (.ref b1), (.ref b1)] (fun t k => XS.iloadN X1.here hx rfl (hb hby d25_13) rfl k) ?_
  refine own_vF m T1 15 #[vR ar, vI (0 : Int32), vI (3 : Int32)] [(.int 3), (.int 0), (.int 0), (.ref ar), (.ref b1), (.ref b1)] (fun t k => XS.iloadN X1.here hx rfl (hb hby d25_14) rfl k) ?_
  refine own_vF m T1 16 #[vR ar, vI (0 : Int32), vI (3 : Int32)] [(.int ((0 : Int32) + (3 : Int32))), (.int 0), (.ref ar), (.ref b1), (.ref b1)] (fun t k => XS.iadd X1.here hx rfl (hb hby d25_15) rfl k) ?_
  rw [show ((0 : Int32) + (3 : Int32)) = (3 : Int32) from by decide]
  obtain ⟨_, T8, L8, X8, hQ8, st8⟩ := own_callS X1 hx hZ (y := (⟨"java/util/Arrays", "copyOfRange", "([BII)[B"⟩ : MethodName)) (W := 2) hown (hw _ (own_mt 117 rfl)) (hw _ (own_mt 98 rfl)) (hw _ (own_mt 99 rfl)) (hw _ (own_mt 100 rfl)) (by decide) (rm_Qcr43 l Z a0 hw ar kk v1 v2 v3 v4 h1 n0 Z7 f3 f4) (by decide) (by decide) e1 (g := (mkF m 16 #[vR ar, vI (0 : Int32), vI (3 : Int32)] [(.int 3), (.int 0), (.ref ar), (.ref b1), (.ref b1)])) rfl (by rw [hml]; rfl) (argsL := [(.ref ar), (.int 0), (.int 3)]) (rest := [(.ref b1), (.ref b1)]) rfl (lenOf pd_ABII__AB rfl) rfl own_w0 (hb hby d25_16) (by decide) (by decide)
  obtain ⟨b8r, kr8, rfl, N8q, K8q, B8, V8⟩ := hQ8
  have N8 := Fr.app N0 N8q
  have f11 := A1.keep K8q
  have f12 := f5.keep K8q nin0
  have f13 := f6.keep K8q nin0
  have ne14 := Exa.ne B8 f11 (by decide)
  have Z15 : n0 ≤ T8.heap.size := Nat.le_trans Z7 K8q.1
  have K15 := K7.trans K8q all0
  refine own_vF m T8 19 #[vR ar, vI (0 : Int32), vI (3 : Int32)] [(.ref b8r), (.ref b1), (.ref b1)] (fun t k => st8 t k) ?_
  refine own_vF m T8 20 #[vR ar, vI (0 : Int32), vI (3 : Int32)] [(.int 0), (.ref b8r), (.ref b1), (.ref b1)] (fun t k => XS.iconst X8.here hx rfl (hb hby d25_19) k) ?_
  obtain ⟨_, T16, L16, X16, hQ16, st16⟩ := own_callI X8 hx hZ (y := (⟨"java/lang/String", "<init>", "([BB)V"⟩ : MethodName)) rfl (W := 1) hown (hw _ (own_mt 129 rfl)) (hw _ (own_mt 130 rfl)) (hw _ (own_mt 12 rfl)) (hw _ (own_mt 131 rfl)) (by decide) (rm_Qibb l Z a0 hw b1 b8r T8.heap n0 Z15 f11 f12 f13 gn_b1) (by decide) (by decide) rfl (a := b1) (g := (mkF m 20 #[vR ar, vI (0 : Int32), vI (3 : Int32)] [(.int 0), (.ref b8r), (.ref b1), (.ref b1)])) rfl (by rw [hml]; rfl) (argsL := [(.ref b8r), (.int 0)]) (rest := [(.ref b1)]) rfl (lenOf pd_ABB__V rfl) rfl own_w0 (hb hby d25_20) (by decide) (by decide)
  obtain ⟨rfl, N16q, K16q, Es16, Fv16, Fc16⟩ := hQ16
  have N16 := Fr.app N8 N16q
  have f20 := B8.keep K16q
  have f21 := V8.keep K16q (ninS ne14 nin0)
  have K22 := K15.trans K16q (allS (Or.inr sz_b1) all0)
  refine own_vF m T16 23 #[vR ar, vI (0 : Int32), vI (3 : Int32)] [(.ref b1)] (fun t k => st16 t k) ?_
  exact own_ret X16 (v := some (.ref b1)) (fun h => by rw [hret] at h; cases h) hlk (fun fs hr => retOut X16 hx (t := (.object "java/lang/String")) hret rfl (Or.inr (Or.inr (Or.inr (Or.inr ⟨rfl, rfl, rfl⟩)))) (hb hby d25_23) hr) (by exact ⟨b1, rfl, N16, K22, Es16, Fc16, b8r, _, Fv16, f20, f21⟩) (by decide) (by decide)
def Qns0 (Z : State) (ar : Addr) (h0 : Heap) (n0 : Nat) (v : Option Value) (h : Heap) (L : List Loc) : Prop := ∃ r, v = some (.ref r) ∧ Fr n0 L ∧ Keep h0 h [] ∧ Exa Z h r "java/lang/String" ∧ Fld Z h r "java/lang/String" "coder" "B" (.int 0) ∧ ∃ b kb, Fld Z h r "java/lang/String" "value" "[B" (.ref b) ∧ Arv Z h b kb .byte (0 : Int32) [] (.int 0)
theorem d25_4 : decode jdk_43_method_47_code 4 = .ok (.ldc 151, 2) := by decide +kernel
theorem d25_6 : decode jdk_43_method_47_code 6 = .ok (.areturn, 1) := by decide +kernel
set_option maxRecDepth 65536 in
set_option maxHeartbeats 40000000 in
theorem rm_Qns0 (l : Launch) (Z : State) (a0 : Array Value) (hw : ∀ d ∈ tables_1, d.before a0 Z = true) (ar : Addr) (h0 : Heap) (n0 : Nat) (Z0 : n0 ≤ h0.size) (Od : Old Z n0 h0) :
    own_MW l Z ((⟨"java/lang/StringLatin1", "newString", "([BII)Ljava/lang/String;"⟩ : MethodName)) jdk_43_method_47_code 3 (some (.object "java/lang/String")) ({ frames := 0, cells := 2, slots := 4, locals := 0 } : Room) #[(.ref ar), (.int 0), (.int 0)] h0 (Qns0 Z ar h0 n0) := by
  refine own_mkW (plainFor_of_name pn_java_lang_StringLatin1) ?_
  intro p e s m below meth c s₁ X0 hx hby hml hown hnm hret hlk hZ e0 hCH
  have hEL := own_hEL hw
  have N0 := Fr.nil n0
  have K0 := Keep.refl h0 []
  rw [ef_RII3 m ar (0 : Int32) (0 : Int32)]
  refine own_vFW m s₁ 1 #[vR ar, vI (0 : Int32), vI (0 : Int32)] [(.int 0)] (fun t k => XS.iloadN X0.here hx rfl (hb hby d25_0) rfl k) ?_
  refine own_vFW m s₁ 4 #[vR ar, vI (0 : Int32), vI (0 : Int32)] [] (fun t k => XS.ifNo X0.here hx rfl (hb hby d25_1) rfl ((if0 _ _).trans (teq (by decide : ((0 : Int32) = (0 : Int32)))).2) k) ?_
  obtain ⟨b1a, T1, h1, k1_1, b1v, k1, X1, e1, E1, hS, hk1, hZ, hown, A1, Fc1, Fv1, V1, -, -, hC1, Li1, hne1, st1⟩ := ldcCH (s := s) (vm0 := s.vm) (vs := []) (z := (0 : Int32)) X0 hx hZ hown (hw _ (own_mt 146 rfl)) (own_wS hw) e0 ((State.WarmedH.refl s).since 0) (Nat.zero_le _) hEL (own_mt 1 rfl) (hCH.ext Od.2) ⟨fun c hc => by simp at hc, rfl⟩ (by decide) rfl (g := (mkF m 4 #[vR ar, vI (0 : Int32), vI (0 : Int32)] [])) rfl (hb hby d25_4) (n := 0) (by decide) (by decide) (by decide) (by decide)
  have K3 := K0.ext E1
  refine own_vFW m T1 6 #[vR ar, vI (0 : Int32), vI (0 : Int32)] [(.ref b1a)] (fun t k => st1 t k) ?_
  exact own_retW (s := s) X1 hS (by rw [e1]; exact hk1) (v := some (.ref b1a)) (fun h => by rw [hret] at h; cases h) hlk (fun fs hr => retOut X1 hx (t := (.object "java/lang/String")) hret rfl (Or.inr (Or.inr (Or.inr (Or.inr ⟨rfl, rfl, rfl⟩)))) (hb hby d25_6) hr) (by rw [e1]; exact ⟨b1a, rfl, N0, K3, A1, Fc1, b1v, _, Fv1, V1⟩) (by decide) (by decide)
def Qsb00 (Z : State) (o ar : Addr) (kk : ClassId)  (cs : Int32) (sf : Value) (iso u8 : Addr) (h0 : Heap) (n0 : Nat) (v : Option Value) (h : Heap) (L : List Loc) : Prop := v = some (.ref o) ∧ Fr n0 L ∧ h = h0
theorem d26_0 : decode jdk_42_method_92_code 0 = .ok (.aload_n 0, 1) := by decide +kernel
theorem d26_1 : decode jdk_42_method_92_code 1 = .ok (.invokevirtual 505, 3) := by decide +kernel
theorem d26_4 : decode jdk_42_method_92_code 4 = .ok (.istore_n 3, 1) := by decide +kernel
theorem d26_5 : decode jdk_42_method_92_code 5 = .ok (.iload_n 1, 1) := by decide +kernel
theorem d26_6 : decode jdk_42_method_92_code 6 = .ok (.iload_n 2, 1) := by decide +kernel
theorem d26_7 : decode jdk_42_method_92_code 7 = .ok (.iload_n 3, 1) := by decide +kernel
theorem pd_III__V : parseMethodDescriptor "(III)V" = some ⟨[.int, .int, .int], none⟩ := by decide +kernel
theorem d26_8 : decode jdk_42_method_92_code 8 = .ok (.invokestatic 521, 3) := by decide +kernel
theorem d26_11 : decode jdk_42_method_92_code 11 = .ok (.iload_n 1, 1) := by decide +kernel
theorem d26_12 : decode jdk_42_method_92_code 12 = .ok (.ifCond .ne 10, 3) := by decide +kernel
theorem d26_15 : decode jdk_42_method_92_code 15 = .ok (.iload_n 2, 1) := by decide +kernel
theorem d26_16 : decode jdk_42_method_92_code 16 = .ok (.iload_n 3, 1) := by decide +kernel
theorem d26_17 : decode jdk_42_method_92_code 17 = .ok (.if_icmp .ne 5, 3) := by decide +kernel
theorem d26_20 : decode jdk_42_method_92_code 20 = .ok (.aload_n 0, 1) := by decide +kernel
theorem d26_21 : decode jdk_42_method_92_code 21 = .ok (.areturn, 1) := by decide +kernel
set_option maxRecDepth 65536 in
set_option maxHeartbeats 40000000 in
theorem rm_Qsb00 (l : Launch) (Z : State) (a0 : Array Value) (hw : ∀ d ∈ tables_1, d.before a0 Z = true) (o ar : Addr) (kk : ClassId)  (cs : Int32) (sf : Value) (iso u8 : Addr) (h0 : Heap) (n0 : Nat) (Z0 : n0 ≤ h0.size) (Od : Old Z n0 h0) (SS : own_SS Z cs sf iso u8) (Es : Exa Z h0 o "java/lang/String") (Fc : Fld Z h0 o "java/lang/String" "coder" "B" (.int 0)) (Fv : Fld Z h0 o "java/lang/String" "value" "[B" (.ref ar)) (Va : Arv Z h0 ar kk .byte (0 : Int32) [] (.int 0)) :
    own_MG l Z ((⟨"java/lang/String", "substring", "(II)Ljava/lang/String;"⟩ : MethodName)) jdk_42_method_92_code 5 (some (.object "java/lang/String")) ({ frames := 2, cells := 0, slots := 0, locals := 29 } : Room) #[(.ref o), (.int 0), (.int 0)] h0 (Qsb00 Z o ar kk  cs sf iso u8 h0 n0) := by
  refine own_mkG (plainFor_of_name pn_java_lang_String) ?_
  intro p e s m below meth c s₁ X0 hx hby hml hown hnm hret hlk hZ e0
  have N0 := Fr.nil n0
  rw [ef_RII5 m o (0 : Int32) (0 : Int32)]
  refine own_vF m s₁ 1 #[vR o, vI (0 : Int32), vI (0 : Int32), .unset, .unset] [(.ref o)] (fun t k => XS.aloadN X0.here hx rfl (hb hby d26_0) rfl rfl k) ?_
  obtain ⟨_, T1, L1, X1, hQ1, st1⟩ := own_callV X0 hx hZ (y := (⟨"java/lang/String", "length", "()I"⟩ : MethodName)) (W := 0) (C := "java/lang/String") hown (hw _ (own_mt 54 rfl)) (hw _ (own_mt 55 rfl)) (hw _ (own_mt 57 rfl)) (hw _ (own_mt 56 rfl)) (hw _ (own_mt 12 rfl)) (hw _ (own_mt 58 rfl)) (by decide) (rm_Qln0 l Z a0 hw o ar kk  cs sf iso u8 h0 n0 Z0 Od SS Es Fc Fv Va) (by decide) (by decide) e0 Es (g := (mkF m 1 #[vR o, vI (0 : Int32), vI (0 : Int32), .unset, .unset] [(.ref o)])) rfl (by rw [hml]; rfl) (argsL := []) (rest := []) rfl (lenOf pd___I rfl) rfl own_w0 (hb hby d26_1) (by decide) (by decide)
  obtain ⟨rfl, N1q, e1⟩ := hQ1
  have N1 := Fr.app N0 N1q
  refine own_vF m T1 4 #[vR o, vI (0 : Int32), vI (0 : Int32), .unset, .unset] [(.int 0)] (fun t k => st1 t k) ?_
  refine own_vF m T1 5 #[vR o, vI (0 : Int32), vI (0 : Int32), vI (0 : Int32), .unset] [] (fun t k => XS.istoreN X1.here hx rfl (hb hby d26_4) rfl (l' := #[vR o, vI (0 : Int32), vI (0 : Int32), vI (0 : Int32), .unset]) rfl k) ?_
  refine own_vF m T1 6 #[vR o, vI (0 : Int32), vI (0 : Int32), vI (0 : Int32), .unset] [(.int 0)] (fun t k => XS.iloadN X1.here hx rfl (hb hby d26_5) rfl k) ?_
  refine own_vF m T1 7 #[vR o, vI (0 : Int32), vI (0 : Int32), vI (0 : Int32), .unset] [(.int 0), (.int 0)] (fun t k => XS.iloadN X1.here hx rfl (hb hby d26_6) rfl k) ?_
  refine own_vF m T1 8 #[vR o, vI (0 : Int32), vI (0 : Int32), vI (0 : Int32), .unset] [(.int 0), (.int 0), (.int 0)] (fun t k => XS.iloadN X1.here hx rfl (hb hby d26_7) rfl k) ?_
  obtain ⟨_, T2, L2, X2, hQ2, st2⟩ := own_callS X1 hx hZ (y := (⟨"java/lang/String", "checkBoundsBeginEnd", "(III)V"⟩ : MethodName)) (W := 0) hown (hw _ (own_mt 84 rfl)) (hw _ (own_mt 85 rfl)) (hw _ (own_mt 12 rfl)) (hw _ (own_mt 86 rfl)) (by decide) (rm_Qcb l Z a0 hw (0 : Int32) (0 : Int32) cs sf iso u8 h0 n0 Z0 Od SS (by decide) (by decide)) (by decide) (by decide) e1 (g := (mkF m 8 #[vR o, vI (0 : Int32), vI (0 : Int32), vI (0 : Int32), .unset] [(.int 0), (.int 0), (.int 0)])) rfl (by rw [hml]; rfl) (argsL := [(.int 0), (.int 0), (.int 0)]) (rest := []) rfl (lenOf pd_III__V rfl) rfl own_w0 (hb hby d26_8) (by decide) (by decide)
  obtain ⟨rfl, N2q, e2⟩ := hQ2
  have N2 := Fr.app N1 N2q
  refine own_vF m T2 11 #[vR o, vI (0 : Int32), vI (0 : Int32), vI (0 : Int32), .unset] [] (fun t k => st2 t k) ?_
  refine own_vF m T2 12 #[vR o, vI (0 : Int32), vI (0 : Int32), vI (0 : Int32), .unset] [(.int 0)] (fun t k => XS.iloadN X2.here hx rfl (hb hby d26_11) rfl k) ?_
  refine own_vF m T2 15 #[vR o, vI (0 : Int32), vI (0 : Int32), vI (0 : Int32), .unset] [] (fun t k => XS.ifNo X2.here hx rfl (hb hby d26_12) rfl ((if0 _ _).trans (teq (by decide : ((0 : Int32) = (0 : Int32)))).2) k) ?_
  refine own_vF m T2 16 #[vR o, vI (0 : Int32), vI (0 : Int32), vI (0 : Int32), .unset] [(.int 0)] (fun t k => XS.iloadN X2.here hx rfl (hb hby d26_15) rfl k) ?_
  refine own_vF m T2 17 #[vR o, vI (0 : Int32), vI (0 : Int32), vI (0 : Int32), .unset] [(.int 0), (.int 0)] (fun t k => XS.iloadN X2.here hx rfl (hb hby d26_16) rfl k) ?_
  refine own_vF m T2 20 #[vR o, vI (0 : Int32), vI (0 : Int32), vI (0 : Int32), .unset] [] (fun t k => XS.icmpNo X2.here hx rfl (hb hby d26_17) rfl (teq (by decide : ((0 : Int32) = (0 : Int32)))).2 k) ?_
  refine own_vF m T2 21 #[vR o, vI (0 : Int32), vI (0 : Int32), vI (0 : Int32), .unset] [(.ref o)] (fun t k => XS.aloadN X2.here hx rfl (hb hby d26_20) rfl rfl k) ?_
  exact own_ret X2 (v := some (.ref o)) (fun h => by rw [hret] at h; cases h) hlk (fun fs hr => retOut X2 hx (t := (.object "java/lang/String")) hret rfl (Or.inr (Or.inr (Or.inr (Or.inr ⟨rfl, rfl, rfl⟩)))) (hb hby d26_21) hr) (by rw [e2]; exact ⟨rfl, N2, rfl⟩) (by decide) (by decide)
def Qsb10 (Z : State) (o ar : Addr) (kk : ClassId) (v1 : Int32) (cs : Int32) (sf : Value) (iso u8 : Addr) (h0 : Heap) (n0 : Nat) (v : Option Value) (h : Heap) (L : List Loc) : Prop := ∃ r, v = some (.ref r) ∧ Fr n0 L ∧ Keep h0 h [] ∧ Exa Z h r "java/lang/String" ∧ Fld Z h r "java/lang/String" "coder" "B" (.int 0) ∧ ∃ b kb, Fld Z h r "java/lang/String" "value" "[B" (.ref b) ∧ Arv Z h b kb .byte (0 : Int32) [] (.int 0)
theorem d26_22 : decode jdk_42_method_92_code 22 = .ok (.iload_n 2, 1) := by decide +kernel
theorem d26_23 : decode jdk_42_method_92_code 23 = .ok (.iload_n 1, 1) := by decide +kernel
theorem d26_24 : decode jdk_42_method_92_code 24 = .ok (.isub, 1) := by decide +kernel
theorem d26_25 : decode jdk_42_method_92_code 25 = .ok (.istore 4, 2) := by decide +kernel
theorem d26_27 : decode jdk_42_method_92_code 27 = .ok (.aload_n 0, 1) := by decide +kernel
theorem d26_28 : decode jdk_42_method_92_code 28 = .ok (.invokevirtual 492, 3) := by decide +kernel
theorem d26_31 : decode jdk_42_method_92_code 31 = .ok (.ifCond .eq 16, 3) := by decide +kernel
theorem d26_34 : decode jdk_42_method_92_code 34 = .ok (.aload_n 0, 1) := by decide +kernel
theorem d26_35 : decode jdk_42_method_92_code 35 = .ok (.getfield 9, 3) := by decide +kernel
theorem d26_38 : decode jdk_42_method_92_code 38 = .ok (.iload_n 1, 1) := by decide +kernel
theorem d26_39 : decode jdk_42_method_92_code 39 = .ok (.iload 4, 2) := by decide +kernel
theorem pd_ABII__Ljava_lang_String_ : parseMethodDescriptor "([BII)Ljava/lang/String;" = some ⟨[(.array .byte), .int, .int], some (.object "java/lang/String")⟩ := by decide +kernel
theorem d26_41 : decode jdk_42_method_92_code 41 = .ok (.invokestatic 685, 3) := by decide +kernel
theorem d26_44 : decode jdk_42_method_92_code 44 = .ok (.goto 13, 3) := by decide +kernel
theorem d26_57 : decode jdk_42_method_92_code 57 = .ok (.areturn, 1) := by decide +kernel
set_option maxRecDepth 65536 in
set_option maxHeartbeats 40000000 in
theorem rm_Qsb10 (l : Launch) (Z : State) (a0 : Array Value) (hw : ∀ d ∈ tables_1, d.before a0 Z = true) (o ar : Addr) (kk : ClassId) (v1 : Int32) (cs : Int32) (sf : Value) (iso u8 : Addr) (h0 : Heap) (n0 : Nat) (Z0 : n0 ≤ h0.size) (Od : Old Z n0 h0) (SS : own_SS Z cs sf iso u8) (Es : Exa Z h0 o "java/lang/String") (Fc : Fld Z h0 o "java/lang/String" "coder" "B" (.int 0)) (Fv : Fld Z h0 o "java/lang/String" "value" "[B" (.ref ar)) (Ea : Exa Z h0 ar "[B") (Va : Arv Z h0 ar kk .byte (1 : Int32) [(.int v1)] (.int 0)) :
    own_MW l Z ((⟨"java/lang/String", "substring", "(II)Ljava/lang/String;"⟩ : MethodName)) jdk_42_method_92_code 5 (some (.object "java/lang/String")) ({ frames := 2, cells := 2, slots := 4, locals := 29 } : Room) #[(.ref o), (.int 0), (.int 0)] h0 (Qsb10 Z o ar kk v1 cs sf iso u8 h0 n0) := by
  refine own_mkW (plainFor_of_name pn_java_lang_String) ?_
  intro p e s m below meth c s₁ X0 hx hby hml hown hnm hret hlk hZ e0 hCH
  have hEL := own_hEL hw
  have N0 := Fr.nil n0
  have K0 := Keep.refl h0 []
  rw [ef_RII5 m o (0 : Int32) (0 : Int32)]
  refine own_vFW m s₁ 1 #[vR o, vI (0 : Int32), vI (0 : Int32), .unset, .unset] [(.ref o)] (fun t k => XS.aloadN X0.here hx rfl (hb hby d26_0) rfl rfl k) ?_
  obtain ⟨_, T1, L1, X1, hQ1, st1⟩ := own_callV X0 hx hZ (y := (⟨"java/lang/String", "length", "()I"⟩ : MethodName)) (W := 0) (C := "java/lang/String") hown (hw _ (own_mt 54 rfl)) (hw _ (own_mt 55 rfl)) (hw _ (own_mt 57 rfl)) (hw _ (own_mt 56 rfl)) (hw _ (own_mt 12 rfl)) (hw _ (own_mt 58 rfl)) (by decide) (rm_Qln1 l Z a0 hw o ar kk v1 cs sf iso u8 h0 n0 Z0 Od SS Es Fc Fv Va) (by decide) (by decide) e0 Es (g := (mkF m 1 #[vR o, vI (0 : Int32), vI (0 : Int32), .unset, .unset] [(.ref o)])) rfl (by rw [hml]; rfl) (argsL := []) (rest := []) rfl (lenOf pd___I rfl) rfl own_w0 (hb hby d26_1) (by decide) (by decide)
  obtain ⟨rfl, N1q, e1⟩ := hQ1
  have N1 := Fr.app N0 N1q
  refine own_vFW m T1 4 #[vR o, vI (0 : Int32), vI (0 : Int32), .unset, .unset] [(.int 1)] (fun t k => st1 t k) ?_
  refine own_vFW m T1 5 #[vR o, vI (0 : Int32), vI (0 : Int32), vI (1 : Int32), .unset] [] (fun t k => XS.istoreN X1.here hx rfl (hb hby d26_4) rfl (l' := #[vR o, vI (0 : Int32), vI (0 : Int32), vI (1 : Int32), .unset]) rfl k) ?_
  refine own_vFW m T1 6 #[vR o, vI (0 : Int32), vI (0 : Int32), vI (1 : Int32), .unset] [(.int 0)] (fun t k => XS.iloadN X1.here hx rfl (hb hby d26_5) rfl k) ?_
  refine own_vFW m T1 7 #[vR o, vI (0 : Int32), vI (0 : Int32), vI (1 : Int32), .unset] [(.int 0), (.int 0)] (fun t k => XS.iloadN X1.here hx rfl (hb hby d26_6) rfl k) ?_
  refine own_vFW m T1 8 #[vR o, vI (0 : Int32), vI (0 : Int32), vI (1 : Int32), .unset] [(.int 1), (.int 0), (.int 0)] (fun t k => XS.iloadN X1.here hx rfl (hb hby d26_7) rfl k) ?_
  obtain ⟨_, T2, L2, X2, hQ2, st2⟩ := own_callS X1 hx hZ (y := (⟨"java/lang/String", "checkBoundsBeginEnd", "(III)V"⟩ : MethodName)) (W := 0) hown (hw _ (own_mt 84 rfl)) (hw _ (own_mt 85 rfl)) (hw _ (own_mt 12 rfl)) (hw _ (own_mt 86 rfl)) (by decide) (rm_Qcb l Z a0 hw (0 : Int32) (1 : Int32) cs sf iso u8 h0 n0 Z0 Od SS (by decide) (by decide)) (by decide) (by decide) e1 (g := (mkF m 8 #[vR o, vI (0 : Int32), vI (0 : Int32), vI (1 : Int32), .unset] [(.int 1), (.int 0), (.int 0)])) rfl (by rw [hml]; rfl) (argsL := [(.int 0), (.int 0), (.int 1)]) (rest := []) rfl (lenOf pd_III__V rfl) rfl own_w0 (hb hby d26_8) (by decide) (by decide)
  obtain ⟨rfl, N2q, e2⟩ := hQ2
  have N2 := Fr.app N1 N2q
  refine own_vFW m T2 11 #[vR o, vI (0 : Int32), vI (0 : Int32), vI (1 : Int32), .unset] [] (fun t k => st2 t k) ?_
  refine own_vFW m T2 12 #[vR o, vI (0 : Int32), vI (0 : Int32), vI (1 : Int32), .unset] [(.int 0)] (fun t k => XS.iloadN X2.here hx rfl (hb hby d26_11) rfl k) ?_
  refine own_vFW m T2 15 #[vR o, vI (0 : Int32), vI (0 : Int32), vI (1 : Int32), .unset] [] (fun t k => XS.ifNo X2.here hx rfl (hb hby d26_12) rfl ((if0 _ _).trans (teq (by decide : ((0 : Int32) = (0 : Int32)))).2) k) ?_
  refine own_vFW m T2 16 #[vR o, vI (0 : Int32), vI (0 : Int32), vI (1 : Int32), .unset] [(.int 0)] (fun t k => XS.iloadN X2.here hx rfl (hb hby d26_15) rfl k) ?_
  refine own_vFW m T2 17 #[vR o, vI (0 : Int32), vI (0 : Int32), vI (1 : Int32), .unset] [(.int 1), (.int 0)] (fun t k => XS.iloadN X2.here hx rfl (hb hby d26_16) rfl k) ?_
  refine own_vFW m T2 22 #[vR o, vI (0 : Int32), vI (0 : Int32), vI (1 : Int32), .unset] [] (fun t k => XS.icmpYes X2.here hx rfl (pc0 := 17) (pc' := 22) rfl (hb hby d26_17) rfl (feq (by decide : ¬ ((0 : Int32) = (1 : Int32)))).2 (by decide) (by decide) k) ?_
  refine own_vFW m T2 23 #[vR o, vI (0 : Int32), vI (0 : Int32), vI (1 : Int32), .unset] [(.int 0)] (fun t k => XS.iloadN X2.here hx rfl (hb hby d26_22) rfl k) ?_
  refine own_vFW m T2 24 #[vR o, vI (0 : Int32), vI (0 : Int32), vI (1 : Int32), .unset] [(.int 0), (.int 0)] (fun t k => XS.iloadN X2.here hx rfl (hb hby d26_23) rfl k) ?_
  refine own_vFW m T2 25 #[vR o, vI (0 : Int32), vI (0 : Int32), vI (1 : Int32), .unset] [(.int ((0 : Int32) - (0 : Int32)))] (fun t k => XS.isub X2.here hx rfl (hb hby d26_24) rfl k) ?_
  rw [show ((0 : Int32) - (0 : Int32)) = (0 : Int32) from by decide]
  refine own_vFW m T2 27 #[vR o, vI (0 : Int32), vI (0 : Int32), vI (1 : Int32), vI (0 : Int32)] [] (fun t k => XS.istore X2.here hx rfl (hb hby d26_25) rfl (l' := #[vR o, vI (0 : Int32), vI (0 : Int32), vI (1 : Int32), vI (0 : Int32)]) rfl k) ?_
  refine own_vFW m T2 28 #[vR o, vI (0 : Int32), vI (0 : Int32), vI (1 : Int32), vI (0 : Int32)] [(.ref o)] (fun t k => XS.aloadN X2.here hx rfl (hb hby d26_27) rfl rfl k) ?_
  obtain ⟨_, T3, L3, X3, hQ3, st3⟩ := own_callV X2 hx hZ (y := (⟨"java/lang/String", "isLatin1", "()Z"⟩ : MethodName)) (W := 0) (C := "java/lang/String") hown (hw _ (own_mt 48 rfl)) (hw _ (own_mt 49 rfl)) (hw _ (own_mt 51 rfl)) (hw _ (own_mt 50 rfl)) (hw _ (own_mt 12 rfl)) (hw _ (own_mt 52 rfl)) (by decide) (rm_Ql1 l Z a0 hw o ar cs sf iso u8 h0 n0 Z0 Od SS Es Fc Fv) (by decide) (by decide) e2 Es (g := (mkF m 28 #[vR o, vI (0 : Int32), vI (0 : Int32), vI (1 : Int32), vI (0 : Int32)] [(.ref o)])) rfl (by rw [hml]; rfl) (argsL := []) (rest := []) rfl (lenOf pd___Z rfl) rfl own_w0 (hb hby d26_28) (by decide) (by decide)
  obtain ⟨rfl, N3q, e3⟩ := hQ3
  have N3 := Fr.app N2 N3q
  refine own_vFW m T3 31 #[vR o, vI (0 : Int32), vI (0 : Int32), vI (1 : Int32), vI (0 : Int32)] [(.int 1)] (fun t k => st3 t k) ?_
  refine own_vFW m T3 34 #[vR o, vI (0 : Int32), vI (0 : Int32), vI (1 : Int32), vI (0 : Int32)] [] (fun t k => XS.ifNo X3.here hx rfl (hb hby d26_31) rfl ((if0 _ _).trans (feq (by decide : ¬ ((1 : Int32) = (0 : Int32)))).1) k) ?_
  refine own_vFW m T3 35 #[vR o, vI (0 : Int32), vI (0 : Int32), vI (1 : Int32), vI (0 : Int32)] [(.ref o)] (fun t k => XS.aloadN X3.here hx rfl (hb hby d26_34) rfl rfl k) ?_
  obtain ⟨T4, X4, e4, st4⟩ := getF (host := "") X3 hx hZ hown (Or.inl (hw _ (own_mt 36 rfl))) Via.refl e3 Fv (g := (mkF m 35 #[vR o, vI (0 : Int32), vI (0 : Int32), vI (1 : Int32), vI (0 : Int32)] [(.ref o)])) rfl rfl (hb hby d26_35)
  refine own_vFW m T4 38 #[vR o, vI (0 : Int32), vI (0 : Int32), vI (1 : Int32), vI (0 : Int32)] [(.ref ar)] (fun t k => st4 t k) ?_
  refine own_vFW m T4 39 #[vR o, vI (0 : Int32), vI (0 : Int32), vI (1 : Int32), vI (0 : Int32)] [(.int 0), (.ref ar)] (fun t k => XS.iloadN X4.here hx rfl (hb hby d26_38) rfl k) ?_
  refine own_vFW m T4 41 #[vR o, vI (0 : Int32), vI (0 : Int32), vI (1 : Int32), vI (0 : Int32)] [(.int 0), (.int 0), (.ref ar)] (fun t k => XS.iload X4.here hx rfl (hb hby d26_39) rfl k) ?_
  obtain ⟨_, T5, L5, X5, hS, hZ, hown, hQ5, st5⟩ := own_callSW X4 hx hZ hEL hCH (y := (⟨"java/lang/StringLatin1", "newString", "([BII)Ljava/lang/String;"⟩ : MethodName)) (W := 0) hown (hw _ (own_mt 113 rfl)) (hw _ (own_mt 114 rfl)) (hw _ (own_mt 66 rfl)) (hw _ (own_mt 115 rfl)) (by decide) (rm_Qns0 l Z a0 hw ar h0 n0 Z0 Od) (by decide) (by decide) e4 (g := (mkF m 41 #[vR o, vI (0 : Int32), vI (0 : Int32), vI (1 : Int32), vI (0 : Int32)] [(.int 0), (.int 0), (.ref ar)])) rfl (by rw [hml]; rfl) (argsL := [(.ref ar), (.int 0), (.int 0)]) (rest := []) rfl (lenOf pd_ABII__Ljava_lang_String_ rfl) rfl own_w0 (hb hby d26_41) (by decide) (by decide)
  have hk5 : T5.heap.size ≤ T5.heap.size := Nat.le_refl _
  obtain ⟨b5r, rfl, N5q, K5q, Es5, Fc5, b5s, kb5, Fv5, Va5⟩ := hQ5
  have N5 := Fr.app N3 N5q
  have K17 := K0.trans K5q all0
  refine own_vFW m T5 44 #[vR o, vI (0 : Int32), vI (0 : Int32), vI (1 : Int32), vI (0 : Int32)] [(.ref b5r)] (fun t k => st5 t k) ?_
  refine own_vFW m T5 57 #[vR o, vI (0 : Int32), vI (0 : Int32), vI (1 : Int32), vI (0 : Int32)] [(.ref b5r)] (fun t k => XS.goto X5.here hx rfl (pc0 := 44) (pc' := 57) rfl (hb hby d26_44) (by decide) (by decide) k) ?_
  exact own_retW (s := s) X5 hS (by exact hk5) (v := some (.ref b5r)) (fun h => by rw [hret] at h; cases h) hlk (fun fs hr => retOut X5 hx (t := (.object "java/lang/String")) hret rfl (Or.inr (Or.inr (Or.inr (Or.inr ⟨rfl, rfl, rfl⟩)))) (hb hby d26_57) hr) (by exact ⟨b5r, rfl, N5, K17, Es5, Fc5, b5s, _, Fv5, Va5⟩) (by decide) (by decide)
def Qsb20 (Z : State) (o ar : Addr) (kk : ClassId) (v1 v2 : Int32) (cs : Int32) (sf : Value) (iso u8 : Addr) (h0 : Heap) (n0 : Nat) (v : Option Value) (h : Heap) (L : List Loc) : Prop := ∃ r, v = some (.ref r) ∧ Fr n0 L ∧ Keep h0 h [] ∧ Exa Z h r "java/lang/String" ∧ Fld Z h r "java/lang/String" "coder" "B" (.int 0) ∧ ∃ b kb, Fld Z h r "java/lang/String" "value" "[B" (.ref b) ∧ Arv Z h b kb .byte (0 : Int32) [] (.int 0)
set_option maxRecDepth 65536 in
set_option maxHeartbeats 40000000 in
theorem rm_Qsb20 (l : Launch) (Z : State) (a0 : Array Value) (hw : ∀ d ∈ tables_1, d.before a0 Z = true) (o ar : Addr) (kk : ClassId) (v1 v2 : Int32) (cs : Int32) (sf : Value) (iso u8 : Addr) (h0 : Heap) (n0 : Nat) (Z0 : n0 ≤ h0.size) (Od : Old Z n0 h0) (SS : own_SS Z cs sf iso u8) (Es : Exa Z h0 o "java/lang/String") (Fc : Fld Z h0 o "java/lang/String" "coder" "B" (.int 0)) (Fv : Fld Z h0 o "java/lang/String" "value" "[B" (.ref ar)) (Ea : Exa Z h0 ar "[B") (Va : Arv Z h0 ar kk .byte (2 : Int32) [(.int v1), (.int v2)] (.int 0)) :
    own_MW l Z ((⟨"java/lang/String", "substring", "(II)Ljava/lang/String;"⟩ : MethodName)) jdk_42_method_92_code 5 (some (.object "java/lang/String")) ({ frames := 2, cells := 2, slots := 4, locals := 29 } : Room) #[(.ref o), (.int 0), (.int 0)] h0 (Qsb20 Z o ar kk v1 v2 cs sf iso u8 h0 n0) := by
  refine own_mkW (plainFor_of_name pn_java_lang_String) ?_
  intro p e s m below meth c s₁ X0 hx hby hml hown hnm hret hlk hZ e0 hCH
  have hEL := own_hEL hw
  have N0 := Fr.nil n0
  have K0 := Keep.refl h0 []
  rw [ef_RII5 m o (0 : Int32) (0 : Int32)]
  refine own_vFW m s₁ 1 #[vR o, vI (0 : Int32), vI (0 : Int32), .unset, .unset] [(.ref o)] (fun t k => XS.aloadN X0.here hx rfl (hb hby d26_0) rfl rfl k) ?_
  obtain ⟨_, T1, L1, X1, hQ1, st1⟩ := own_callV X0 hx hZ (y := (⟨"java/lang/String", "length", "()I"⟩ : MethodName)) (W := 0) (C := "java/lang/String") hown (hw _ (own_mt 54 rfl)) (hw _ (own_mt 55 rfl)) (hw _ (own_mt 57 rfl)) (hw _ (own_mt 56 rfl)) (hw _ (own_mt 12 rfl)) (hw _ (own_mt 58 rfl)) (by decide) (rm_Qln2 l Z a0 hw o ar kk v1 v2 cs sf iso u8 h0 n0 Z0 Od SS Es Fc Fv Va) (by decide) (by decide) e0 Es (g := (mkF m 1 #[vR o, vI (0 : Int32), vI (0 : Int32), .unset, .unset] [(.ref o)])) rfl (by rw [hml]; rfl) (argsL := []) (rest := []) rfl (lenOf pd___I rfl) rfl own_w0 (hb hby d26_1) (by decide) (by decide)
  obtain ⟨rfl, N1q, e1⟩ := hQ1
  have N1 := Fr.app N0 N1q
  refine own_vFW m T1 4 #[vR o, vI (0 : Int32), vI (0 : Int32), .unset, .unset] [(.int 2)] (fun t k => st1 t k) ?_
  refine own_vFW m T1 5 #[vR o, vI (0 : Int32), vI (0 : Int32), vI (2 : Int32), .unset] [] (fun t k => XS.istoreN X1.here hx rfl (hb hby d26_4) rfl (l' := #[vR o, vI (0 : Int32), vI (0 : Int32), vI (2 : Int32), .unset]) rfl k) ?_
  refine own_vFW m T1 6 #[vR o, vI (0 : Int32), vI (0 : Int32), vI (2 : Int32), .unset] [(.int 0)] (fun t k => XS.iloadN X1.here hx rfl (hb hby d26_5) rfl k) ?_
  refine own_vFW m T1 7 #[vR o, vI (0 : Int32), vI (0 : Int32), vI (2 : Int32), .unset] [(.int 0), (.int 0)] (fun t k => XS.iloadN X1.here hx rfl (hb hby d26_6) rfl k) ?_
  refine own_vFW m T1 8 #[vR o, vI (0 : Int32), vI (0 : Int32), vI (2 : Int32), .unset] [(.int 2), (.int 0), (.int 0)] (fun t k => XS.iloadN X1.here hx rfl (hb hby d26_7) rfl k) ?_
  obtain ⟨_, T2, L2, X2, hQ2, st2⟩ := own_callS X1 hx hZ (y := (⟨"java/lang/String", "checkBoundsBeginEnd", "(III)V"⟩ : MethodName)) (W := 0) hown (hw _ (own_mt 84 rfl)) (hw _ (own_mt 85 rfl)) (hw _ (own_mt 12 rfl)) (hw _ (own_mt 86 rfl)) (by decide) (rm_Qcb l Z a0 hw (0 : Int32) (2 : Int32) cs sf iso u8 h0 n0 Z0 Od SS (by decide) (by decide)) (by decide) (by decide) e1 (g := (mkF m 8 #[vR o, vI (0 : Int32), vI (0 : Int32), vI (2 : Int32), .unset] [(.int 2), (.int 0), (.int 0)])) rfl (by rw [hml]; rfl) (argsL := [(.int 0), (.int 0), (.int 2)]) (rest := []) rfl (lenOf pd_III__V rfl) rfl own_w0 (hb hby d26_8) (by decide) (by decide)
  obtain ⟨rfl, N2q, e2⟩ := hQ2
  have N2 := Fr.app N1 N2q
  refine own_vFW m T2 11 #[vR o, vI (0 : Int32), vI (0 : Int32), vI (2 : Int32), .unset] [] (fun t k => st2 t k) ?_
  refine own_vFW m T2 12 #[vR o, vI (0 : Int32), vI (0 : Int32), vI (2 : Int32), .unset] [(.int 0)] (fun t k => XS.iloadN X2.here hx rfl (hb hby d26_11) rfl k) ?_
  refine own_vFW m T2 15 #[vR o, vI (0 : Int32), vI (0 : Int32), vI (2 : Int32), .unset] [] (fun t k => XS.ifNo X2.here hx rfl (hb hby d26_12) rfl ((if0 _ _).trans (teq (by decide : ((0 : Int32) = (0 : Int32)))).2) k) ?_
  refine own_vFW m T2 16 #[vR o, vI (0 : Int32), vI (0 : Int32), vI (2 : Int32), .unset] [(.int 0)] (fun t k => XS.iloadN X2.here hx rfl (hb hby d26_15) rfl k) ?_
  refine own_vFW m T2 17 #[vR o, vI (0 : Int32), vI (0 : Int32), vI (2 : Int32), .unset] [(.int 2), (.int 0)] (fun t k => XS.iloadN X2.here hx rfl (hb hby d26_16) rfl k) ?_
  refine own_vFW m T2 22 #[vR o, vI (0 : Int32), vI (0 : Int32), vI (2 : Int32), .unset] [] (fun t k => XS.icmpYes X2.here hx rfl (pc0 := 17) (pc' := 22) rfl (hb hby d26_17) rfl (feq (by decide : ¬ ((0 : Int32) = (2 : Int32)))).2 (by decide) (by decide) k) ?_
  refine own_vFW m T2 23 #[vR o, vI (0 : Int32), vI (0 : Int32), vI (2 : Int32), .unset] [(.int 0)] (fun t k => XS.iloadN X2.here hx rfl (hb hby d26_22) rfl k) ?_
  refine own_vFW m T2 24 #[vR o, vI (0 : Int32), vI (0 : Int32), vI (2 : Int32), .unset] [(.int 0), (.int 0)] (fun t k => XS.iloadN X2.here hx rfl (hb hby d26_23) rfl k) ?_
  refine own_vFW m T2 25 #[vR o, vI (0 : Int32), vI (0 : Int32), vI (2 : Int32), .unset] [(.int ((0 : Int32) - (0 : Int32)))] (fun t k => XS.isub X2.here hx rfl (hb hby d26_24) rfl k) ?_
  rw [show ((0 : Int32) - (0 : Int32)) = (0 : Int32) from by decide]
  refine own_vFW m T2 27 #[vR o, vI (0 : Int32), vI (0 : Int32), vI (2 : Int32), vI (0 : Int32)] [] (fun t k => XS.istore X2.here hx rfl (hb hby d26_25) rfl (l' := #[vR o, vI (0 : Int32), vI (0 : Int32), vI (2 : Int32), vI (0 : Int32)]) rfl k) ?_
  refine own_vFW m T2 28 #[vR o, vI (0 : Int32), vI (0 : Int32), vI (2 : Int32), vI (0 : Int32)] [(.ref o)] (fun t k => XS.aloadN X2.here hx rfl (hb hby d26_27) rfl rfl k) ?_
  obtain ⟨_, T3, L3, X3, hQ3, st3⟩ := own_callV X2 hx hZ (y := (⟨"java/lang/String", "isLatin1", "()Z"⟩ : MethodName)) (W := 0) (C := "java/lang/String") hown (hw _ (own_mt 48 rfl)) (hw _ (own_mt 49 rfl)) (hw _ (own_mt 51 rfl)) (hw _ (own_mt 50 rfl)) (hw _ (own_mt 12 rfl)) (hw _ (own_mt 52 rfl)) (by decide) (rm_Ql1 l Z a0 hw o ar cs sf iso u8 h0 n0 Z0 Od SS Es Fc Fv) (by decide) (by decide) e2 Es (g := (mkF m 28 #[vR o, vI (0 : Int32), vI (0 : Int32), vI (2 : Int32), vI (0 : Int32)] [(.ref o)])) rfl (by rw [hml]; rfl) (argsL := []) (rest := []) rfl (lenOf pd___Z rfl) rfl own_w0 (hb hby d26_28) (by decide) (by decide)
  obtain ⟨rfl, N3q, e3⟩ := hQ3
  have N3 := Fr.app N2 N3q
  refine own_vFW m T3 31 #[vR o, vI (0 : Int32), vI (0 : Int32), vI (2 : Int32), vI (0 : Int32)] [(.int 1)] (fun t k => st3 t k) ?_
  refine own_vFW m T3 34 #[vR o, vI (0 : Int32), vI (0 : Int32), vI (2 : Int32), vI (0 : Int32)] [] (fun t k => XS.ifNo X3.here hx rfl (hb hby d26_31) rfl ((if0 _ _).trans (feq (by decide : ¬ ((1 : Int32) = (0 : Int32)))).1) k) ?_
  refine own_vFW m T3 35 #[vR o, vI (0 : Int32), vI (0 : Int32), vI (2 : Int32), vI (0 : Int32)] [(.ref o)] (fun t k => XS.aloadN X3.here hx rfl (hb hby d26_34) rfl rfl k) ?_
  obtain ⟨T4, X4, e4, st4⟩ := getF (host := "") X3 hx hZ hown (Or.inl (hw _ (own_mt 36 rfl))) Via.refl e3 Fv (g := (mkF m 35 #[vR o, vI (0 : Int32), vI (0 : Int32), vI (2 : Int32), vI (0 : Int32)] [(.ref o)])) rfl rfl (hb hby d26_35)
  refine own_vFW m T4 38 #[vR o, vI (0 : Int32), vI (0 : Int32), vI (2 : Int32), vI (0 : Int32)] [(.ref ar)] (fun t k => st4 t k) ?_
  refine own_vFW m T4 39 #[vR o, vI (0 : Int32), vI (0 : Int32), vI (2 : Int32), vI (0 : Int32)] [(.int 0), (.ref ar)] (fun t k => XS.iloadN X4.here hx rfl (hb hby d26_38) rfl k) ?_
  refine own_vFW m T4 41 #[vR o, vI (0 : Int32), vI (0 : Int32), vI (2 : Int32), vI (0 : Int32)] [(.int 0), (.int 0), (.ref ar)] (fun t k => XS.iload X4.here hx rfl (hb hby d26_39) rfl k) ?_
  obtain ⟨_, T5, L5, X5, hS, hZ, hown, hQ5, st5⟩ := own_callSW X4 hx hZ hEL hCH (y := (⟨"java/lang/StringLatin1", "newString", "([BII)Ljava/lang/String;"⟩ : MethodName)) (W := 0) hown (hw _ (own_mt 113 rfl)) (hw _ (own_mt 114 rfl)) (hw _ (own_mt 66 rfl)) (hw _ (own_mt 115 rfl)) (by decide) (rm_Qns0 l Z a0 hw ar h0 n0 Z0 Od) (by decide) (by decide) e4 (g := (mkF m 41 #[vR o, vI (0 : Int32), vI (0 : Int32), vI (2 : Int32), vI (0 : Int32)] [(.int 0), (.int 0), (.ref ar)])) rfl (by rw [hml]; rfl) (argsL := [(.ref ar), (.int 0), (.int 0)]) (rest := []) rfl (lenOf pd_ABII__Ljava_lang_String_ rfl) rfl own_w0 (hb hby d26_41) (by decide) (by decide)
  have hk5 : T5.heap.size ≤ T5.heap.size := Nat.le_refl _
  obtain ⟨b5r, rfl, N5q, K5q, Es5, Fc5, b5s, kb5, Fv5, Va5⟩ := hQ5
  have N5 := Fr.app N3 N5q
  have K17 := K0.trans K5q all0
  refine own_vFW m T5 44 #[vR o, vI (0 : Int32), vI (0 : Int32), vI (2 : Int32), vI (0 : Int32)] [(.ref b5r)] (fun t k => st5 t k) ?_
  refine own_vFW m T5 57 #[vR o, vI (0 : Int32), vI (0 : Int32), vI (2 : Int32), vI (0 : Int32)] [(.ref b5r)] (fun t k => XS.goto X5.here hx rfl (pc0 := 44) (pc' := 57) rfl (hb hby d26_44) (by decide) (by decide) k) ?_
  exact own_retW (s := s) X5 hS (by exact hk5) (v := some (.ref b5r)) (fun h => by rw [hret] at h; cases h) hlk (fun fs hr => retOut X5 hx (t := (.object "java/lang/String")) hret rfl (Or.inr (Or.inr (Or.inr (Or.inr ⟨rfl, rfl, rfl⟩)))) (hb hby d26_57) hr) (by exact ⟨b5r, rfl, N5, K17, Es5, Fc5, b5s, _, Fv5, Va5⟩) (by decide) (by decide)
def Qsb21 (Z : State) (o ar : Addr) (kk : ClassId) (v1 v2 : Int32) (cs : Int32) (sf : Value) (iso u8 : Addr) (h0 : Heap) (n0 : Nat) (v : Option Value) (h : Heap) (L : List Loc) : Prop := ∃ r, v = some (.ref r) ∧ Fr n0 L ∧ Keep h0 h [] ∧ Exa Z h r "java/lang/String" ∧ Fld Z h r "java/lang/String" "coder" "B" (.int 0) ∧ ∃ b kb, Fld Z h r "java/lang/String" "value" "[B" (.ref b) ∧ Exa Z h b "[B" ∧ Arv Z h b kb .byte (1 : Int32) [.int v1] (.int 0)
set_option maxRecDepth 65536 in
set_option maxHeartbeats 40000000 in
theorem rm_Qsb21 (l : Launch) (Z : State) (a0 : Array Value) (hw : ∀ d ∈ tables_1, d.before a0 Z = true) (o ar : Addr) (kk : ClassId) (v1 v2 : Int32) (cs : Int32) (sf : Value) (iso u8 : Addr) (h0 : Heap) (n0 : Nat) (Z0 : n0 ≤ h0.size) (Od : Old Z n0 h0) (SS : own_SS Z cs sf iso u8) (Es : Exa Z h0 o "java/lang/String") (Fc : Fld Z h0 o "java/lang/String" "coder" "B" (.int 0)) (Fv : Fld Z h0 o "java/lang/String" "value" "[B" (.ref ar)) (Ea : Exa Z h0 ar "[B") (Va : Arv Z h0 ar kk .byte (2 : Int32) [(.int v1), (.int v2)] (.int 0)) :
    own_MG l Z ((⟨"java/lang/String", "substring", "(II)Ljava/lang/String;"⟩ : MethodName)) jdk_42_method_92_code 5 (some (.object "java/lang/String")) ({ frames := 4, cells := 2, slots := 5, locals := 106 } : Room) #[(.ref o), (.int 0), (.int 1)] h0 (Qsb21 Z o ar kk v1 v2 cs sf iso u8 h0 n0) := by
  refine own_mkG (plainFor_of_name pn_java_lang_String) ?_
  intro p e s m below meth c s₁ X0 hx hby hml hown hnm hret hlk hZ e0
  have N0 := Fr.nil n0
  have K0 := Keep.refl h0 []
  rw [ef_RII5 m o (0 : Int32) (1 : Int32)]
  refine own_vF m s₁ 1 #[vR o, vI (0 : Int32), vI (1 : Int32), .unset, .unset] [(.ref o)] (fun t k => XS.aloadN X0.here hx rfl (hb hby d26_0) rfl rfl k) ?_
  obtain ⟨_, T1, L1, X1, hQ1, st1⟩ := own_callV X0 hx hZ (y := (⟨"java/lang/String", "length", "()I"⟩ : MethodName)) (W := 0) (C := "java/lang/String") hown (hw _ (own_mt 54 rfl)) (hw _ (own_mt 55 rfl)) (hw _ (own_mt 57 rfl)) (hw _ (own_mt 56 rfl)) (hw _ (own_mt 12 rfl)) (hw _ (own_mt 58 rfl)) (by decide) (rm_Qln2 l Z a0 hw o ar kk v1 v2 cs sf iso u8 h0 n0 Z0 Od SS Es Fc Fv Va) (by decide) (by decide) e0 Es (g := (mkF m 1 #[vR o, vI (0 : Int32), vI (1 : Int32), .unset, .unset] [(.ref o)])) rfl (by rw [hml]; rfl) (argsL := []) (rest := []) rfl (lenOf pd___I rfl) rfl own_w0 (hb hby d26_1) (by decide) (by decide)
  obtain ⟨rfl, N1q, e1⟩ := hQ1
  have N1 := Fr.app N0 N1q
  refine own_vF m T1 4 #[vR o, vI (0 : Int32), vI (1 : Int32), .unset, .unset] [(.int 2)] (fun t k => st1 t k) ?_
  refine own_vF m T1 5 #[vR o, vI (0 : Int32), vI (1 : Int32), vI (2 : Int32), .unset] [] (fun t k => XS.istoreN X1.here hx rfl (hb hby d26_4) rfl (l' := #[vR o, vI (0 : Int32), vI (1 : Int32), vI (2 : Int32), .unset]) rfl k) ?_
  refine own_vF m T1 6 #[vR o, vI (0 : Int32), vI (1 : Int32), vI (2 : Int32), .unset] [(.int 0)] (fun t k => XS.iloadN X1.here hx rfl (hb hby d26_5) rfl k) ?_
  refine own_vF m T1 7 #[vR o, vI (0 : Int32), vI (1 : Int32), vI (2 : Int32), .unset] [(.int 1), (.int 0)] (fun t k => XS.iloadN X1.here hx rfl (hb hby d26_6) rfl k) ?_
  refine own_vF m T1 8 #[vR o, vI (0 : Int32), vI (1 : Int32), vI (2 : Int32), .unset] [(.int 2), (.int 1), (.int 0)] (fun t k => XS.iloadN X1.here hx rfl (hb hby d26_7) rfl k) ?_
  obtain ⟨_, T2, L2, X2, hQ2, st2⟩ := own_callS X1 hx hZ (y := (⟨"java/lang/String", "checkBoundsBeginEnd", "(III)V"⟩ : MethodName)) (W := 0) hown (hw _ (own_mt 84 rfl)) (hw _ (own_mt 85 rfl)) (hw _ (own_mt 12 rfl)) (hw _ (own_mt 86 rfl)) (by decide) (rm_Qcb l Z a0 hw (1 : Int32) (2 : Int32) cs sf iso u8 h0 n0 Z0 Od SS (by decide) (by decide)) (by decide) (by decide) e1 (g := (mkF m 8 #[vR o, vI (0 : Int32), vI (1 : Int32), vI (2 : Int32), .unset] [(.int 2), (.int 1), (.int 0)])) rfl (by rw [hml]; rfl) (argsL := [(.int 0), (.int 1), (.int 2)]) (rest := []) rfl (lenOf pd_III__V rfl) rfl own_w0 (hb hby d26_8) (by decide) (by decide)
  obtain ⟨rfl, N2q, e2⟩ := hQ2
  have N2 := Fr.app N1 N2q
  refine own_vF m T2 11 #[vR o, vI (0 : Int32), vI (1 : Int32), vI (2 : Int32), .unset] [] (fun t k => st2 t k) ?_
  refine own_vF m T2 12 #[vR o, vI (0 : Int32), vI (1 : Int32), vI (2 : Int32), .unset] [(.int 0)] (fun t k => XS.iloadN X2.here hx rfl (hb hby d26_11) rfl k) ?_
  refine own_vF m T2 15 #[vR o, vI (0 : Int32), vI (1 : Int32), vI (2 : Int32), .unset] [] (fun t k => XS.ifNo X2.here hx rfl (hb hby d26_12) rfl ((if0 _ _).trans (teq (by decide : ((0 : Int32) = (0 : Int32)))).2) k) ?_
  refine own_vF m T2 16 #[vR o, vI (0 : Int32), vI (1 : Int32), vI (2 : Int32), .unset] [(.int 1)] (fun t k => XS.iloadN X2.here hx rfl (hb hby d26_15) rfl k) ?_
  refine own_vF m T2 17 #[vR o, vI (0 : Int32), vI (1 : Int32), vI (2 : Int32), .unset] [(.int 2), (.int 1)] (fun t k => XS.iloadN X2.here hx rfl (hb hby d26_16) rfl k) ?_
  refine own_vF m T2 22 #[vR o, vI (0 : Int32), vI (1 : Int32), vI (2 : Int32), .unset] [] (fun t k => XS.icmpYes X2.here hx rfl (pc0 := 17) (pc' := 22) rfl (hb hby d26_17) rfl (feq (by decide : ¬ ((1 : Int32) = (2 : Int32)))).2 (by decide) (by decide) k) ?_
  refine own_vF m T2 23 #[vR o, vI (0 : Int32), vI (1 : Int32), vI (2 : Int32), .unset] [(.int 1)] (fun t k => XS.iloadN X2.here hx rfl (hb hby d26_22) rfl k) ?_
  refine own_vF m T2 24 #[vR o, vI (0 : Int32), vI (1 : Int32), vI (2 : Int32), .unset] [(.int 0), (.int 1)] (fun t k => XS.iloadN X2.here hx rfl (hb hby d26_23) rfl k) ?_
  refine own_vF m T2 25 #[vR o, vI (0 : Int32), vI (1 : Int32), vI (2 : Int32), .unset] [(.int ((1 : Int32) - (0 : Int32)))] (fun t k => XS.isub X2.here hx rfl (hb hby d26_24) rfl k) ?_
  rw [show ((1 : Int32) - (0 : Int32)) = (1 : Int32) from by decide]
  refine own_vF m T2 27 #[vR o, vI (0 : Int32), vI (1 : Int32), vI (2 : Int32), vI (1 : Int32)] [] (fun t k => XS.istore X2.here hx rfl (hb hby d26_25) rfl (l' := #[vR o, vI (0 : Int32), vI (1 : Int32), vI (2 : Int32), vI (1 : Int32)]) rfl k) ?_
  refine own_vF m T2 28 #[vR o, vI (0 : Int32), vI (1 : Int32), vI (2 : Int32), vI (1 : Int32)] [(.ref o)] (fun t k => XS.aloadN X2.here hx rfl (hb hby d26_27) rfl rfl k) ?_
  obtain ⟨_, T3, L3, X3, hQ3, st3⟩ := own_callV X2 hx hZ (y := (⟨"java/lang/String", "isLatin1", "()Z"⟩ : MethodName)) (W := 0) (C := "java/lang/String") hown (hw _ (own_mt 48 rfl)) (hw _ (own_mt 49 rfl)) (hw _ (own_mt 51 rfl)) (hw _ (own_mt 50 rfl)) (hw _ (own_mt 12 rfl)) (hw _ (own_mt 52 rfl)) (by decide) (rm_Ql1 l Z a0 hw o ar cs sf iso u8 h0 n0 Z0 Od SS Es Fc Fv) (by decide) (by decide) e2 Es (g := (mkF m 28 #[vR o, vI (0 : Int32), vI (1 : Int32), vI (2 : Int32), vI (1 : Int32)] [(.ref o)])) rfl (by rw [hml]; rfl) (argsL := []) (rest := []) rfl (lenOf pd___Z rfl) rfl own_w0 (hb hby d26_28) (by decide) (by decide)
  obtain ⟨rfl, N3q, e3⟩ := hQ3
  have N3 := Fr.app N2 N3q
  refine own_vF m T3 31 #[vR o, vI (0 : Int32), vI (1 : Int32), vI (2 : Int32), vI (1 : Int32)] [(.int 1)] (fun t k => st3 t k) ?_
  refine own_vF m T3 34 #[vR o, vI (0 : Int32), vI (1 : Int32), vI (2 : Int32), vI (1 : Int32)] [] (fun t k => XS.ifNo X3.here hx rfl (hb hby d26_31) rfl ((if0 _ _).trans (feq (by decide : ¬ ((1 : Int32) = (0 : Int32)))).1) k) ?_
  refine own_vF m T3 35 #[vR o, vI (0 : Int32), vI (1 : Int32), vI (2 : Int32), vI (1 : Int32)] [(.ref o)] (fun t k => XS.aloadN X3.here hx rfl (hb hby d26_34) rfl rfl k) ?_
  obtain ⟨T4, X4, e4, st4⟩ := getF (host := "") X3 hx hZ hown (Or.inl (hw _ (own_mt 36 rfl))) Via.refl e3 Fv (g := (mkF m 35 #[vR o, vI (0 : Int32), vI (1 : Int32), vI (2 : Int32), vI (1 : Int32)] [(.ref o)])) rfl rfl (hb hby d26_35)
  refine own_vF m T4 38 #[vR o, vI (0 : Int32), vI (1 : Int32), vI (2 : Int32), vI (1 : Int32)] [(.ref ar)] (fun t k => st4 t k) ?_
  refine own_vF m T4 39 #[vR o, vI (0 : Int32), vI (1 : Int32), vI (2 : Int32), vI (1 : Int32)] [(.int 0), (.ref ar)] (fun t k => XS.iloadN X4.here hx rfl (hb hby d26_38) rfl k) ?_
  refine own_vF m T4 41 #[vR o, vI (0 : Int32), vI (1 : Int32), vI (2 : Int32), vI (1 : Int32)] [(.int 1), (.int 0), (.ref ar)] (fun t k => XS.iload X4.here hx rfl (hb hby d26_39) rfl k) ?_
  obtain ⟨_, T5, L5, X5, hQ5, st5⟩ := own_callS X4 hx hZ (y := (⟨"java/lang/StringLatin1", "newString", "([BII)Ljava/lang/String;"⟩ : MethodName)) (W := 0) hown (hw _ (own_mt 113 rfl)) (hw _ (own_mt 114 rfl)) (hw _ (own_mt 66 rfl)) (hw _ (own_mt 115 rfl)) (by decide) (rm_Qns21 l Z a0 hw ar kk v1 v2 h0 n0 Z0 Ea Va) (by decide) (by decide) e4 (g := (mkF m 41 #[vR o, vI (0 : Int32), vI (1 : Int32), vI (2 : Int32), vI (1 : Int32)] [(.int 1), (.int 0), (.ref ar)])) rfl (by rw [hml]; rfl) (argsL := [(.ref ar), (.int 0), (.int 1)]) (rest := []) rfl (lenOf pd_ABII__Ljava_lang_String_ rfl) rfl own_w0 (hb hby d26_41) (by decide) (by decide)
  obtain ⟨b5r, rfl, N5q, K5q, Es5, Fc5, b5s, kb5, Fv5, Eb5, Va5⟩ := hQ5
  have N5 := Fr.app N3 N5q
  have K17 := K0.trans K5q all0
  refine own_vF m T5 44 #[vR o, vI (0 : Int32), vI (1 : Int32), vI (2 : Int32), vI (1 : Int32)] [(.ref b5r)] (fun t k => st5 t k) ?_
  refine own_vF m T5 57 #[vR o, vI (0 : Int32), vI (1 : Int32), vI (2 : Int32), vI (1 : Int32)] [(.ref b5r)] (fun t k => XS.goto X5.here hx rfl (pc0 := 44) (pc' := 57) rfl (hb hby d26_44) (by decide) (by decide) k) ?_
  exact own_ret X5 (v := some (.ref b5r)) (fun h => by rw [hret] at h; cases h) hlk (fun fs hr => retOut X5 hx (t := (.object "java/lang/String")) hret rfl (Or.inr (Or.inr (Or.inr (Or.inr ⟨rfl, rfl, rfl⟩)))) (hb hby d26_57) hr) (by exact ⟨b5r, rfl, N5, K17, Es5, Fc5, b5s, _, Fv5, Eb5, Va5⟩) (by decide) (by decide)
def Qsb30 (Z : State) (o ar : Addr) (kk : ClassId) (v1 v2 v3 : Int32) (cs : Int32) (sf : Value) (iso u8 : Addr) (h0 : Heap) (n0 : Nat) (v : Option Value) (h : Heap) (L : List Loc) : Prop := ∃ r, v = some (.ref r) ∧ Fr n0 L ∧ Keep h0 h [] ∧ Exa Z h r "java/lang/String" ∧ Fld Z h r "java/lang/String" "coder" "B" (.int 0) ∧ ∃ b kb, Fld Z h r "java/lang/String" "value" "[B" (.ref b) ∧ Arv Z h b kb .byte (0 : Int32) [] (.int 0)
set_option maxRecDepth 65536 in
set_option maxHeartbeats 40000000 in
theorem rm_Qsb30 (l : Launch) (Z : State) (a0 : Array Value) (hw : ∀ d ∈ tables_1, d.before a0 Z = true) (o ar : Addr) (kk : ClassId) (v1 v2 v3 : Int32) (cs : Int32) (sf : Value) (iso u8 : Addr) (h0 : Heap) (n0 : Nat) (Z0 : n0 ≤ h0.size) (Od : Old Z n0 h0) (SS : own_SS Z cs sf iso u8) (Es : Exa Z h0 o "java/lang/String") (Fc : Fld Z h0 o "java/lang/String" "coder" "B" (.int 0)) (Fv : Fld Z h0 o "java/lang/String" "value" "[B" (.ref ar)) (Ea : Exa Z h0 ar "[B") (Va : Arv Z h0 ar kk .byte (3 : Int32) [(.int v1), (.int v2), (.int v3)] (.int 0)) :
    own_MW l Z ((⟨"java/lang/String", "substring", "(II)Ljava/lang/String;"⟩ : MethodName)) jdk_42_method_92_code 5 (some (.object "java/lang/String")) ({ frames := 2, cells := 2, slots := 4, locals := 29 } : Room) #[(.ref o), (.int 0), (.int 0)] h0 (Qsb30 Z o ar kk v1 v2 v3 cs sf iso u8 h0 n0) := by
  refine own_mkW (plainFor_of_name pn_java_lang_String) ?_
  intro p e s m below meth c s₁ X0 hx hby hml hown hnm hret hlk hZ e0 hCH
  have hEL := own_hEL hw
  have N0 := Fr.nil n0
  have K0 := Keep.refl h0 []
  rw [ef_RII5 m o (0 : Int32) (0 : Int32)]
  refine own_vFW m s₁ 1 #[vR o, vI (0 : Int32), vI (0 : Int32), .unset, .unset] [(.ref o)] (fun t k => XS.aloadN X0.here hx rfl (hb hby d26_0) rfl rfl k) ?_
  obtain ⟨_, T1, L1, X1, hQ1, st1⟩ := own_callV X0 hx hZ (y := (⟨"java/lang/String", "length", "()I"⟩ : MethodName)) (W := 0) (C := "java/lang/String") hown (hw _ (own_mt 54 rfl)) (hw _ (own_mt 55 rfl)) (hw _ (own_mt 57 rfl)) (hw _ (own_mt 56 rfl)) (hw _ (own_mt 12 rfl)) (hw _ (own_mt 58 rfl)) (by decide) (rm_Qln3 l Z a0 hw o ar kk v1 v2 v3 cs sf iso u8 h0 n0 Z0 Od SS Es Fc Fv Va) (by decide) (by decide) e0 Es (g := (mkF m 1 #[vR o, vI (0 : Int32), vI (0 : Int32), .unset, .unset] [(.ref o)])) rfl (by rw [hml]; rfl) (argsL := []) (rest := []) rfl (lenOf pd___I rfl) rfl own_w0 (hb hby d26_1) (by decide) (by decide)
  obtain ⟨rfl, N1q, e1⟩ := hQ1
  have N1 := Fr.app N0 N1q
  refine own_vFW m T1 4 #[vR o, vI (0 : Int32), vI (0 : Int32), .unset, .unset] [(.int 3)] (fun t k => st1 t k) ?_
  refine own_vFW m T1 5 #[vR o, vI (0 : Int32), vI (0 : Int32), vI (3 : Int32), .unset] [] (fun t k => XS.istoreN X1.here hx rfl (hb hby d26_4) rfl (l' := #[vR o, vI (0 : Int32), vI (0 : Int32), vI (3 : Int32), .unset]) rfl k) ?_
  refine own_vFW m T1 6 #[vR o, vI (0 : Int32), vI (0 : Int32), vI (3 : Int32), .unset] [(.int 0)] (fun t k => XS.iloadN X1.here hx rfl (hb hby d26_5) rfl k) ?_
  refine own_vFW m T1 7 #[vR o, vI (0 : Int32), vI (0 : Int32), vI (3 : Int32), .unset] [(.int 0), (.int 0)] (fun t k => XS.iloadN X1.here hx rfl (hb hby d26_6) rfl k) ?_
  refine own_vFW m T1 8 #[vR o, vI (0 : Int32), vI (0 : Int32), vI (3 : Int32), .unset] [(.int 3), (.int 0), (.int 0)] (fun t k => XS.iloadN X1.here hx rfl (hb hby d26_7) rfl k) ?_
  obtain ⟨_, T2, L2, X2, hQ2, st2⟩ := own_callS X1 hx hZ (y := (⟨"java/lang/String", "checkBoundsBeginEnd", "(III)V"⟩ : MethodName)) (W := 0) hown (hw _ (own_mt 84 rfl)) (hw _ (own_mt 85 rfl)) (hw _ (own_mt 12 rfl)) (hw _ (own_mt 86 rfl)) (by decide) (rm_Qcb l Z a0 hw (0 : Int32) (3 : Int32) cs sf iso u8 h0 n0 Z0 Od SS (by decide) (by decide)) (by decide) (by decide) e1 (g := (mkF m 8 #[vR o, vI (0 : Int32), vI (0 : Int32), vI (3 : Int32), .unset] [(.int 3), (.int 0), (.int 0)])) rfl (by rw [hml]; rfl) (argsL := [(.int 0), (.int 0), (.int 3)]) (rest := []) rfl (lenOf pd_III__V rfl) rfl own_w0 (hb hby d26_8) (by decide) (by decide)
  obtain ⟨rfl, N2q, e2⟩ := hQ2
  have N2 := Fr.app N1 N2q
  refine own_vFW m T2 11 #[vR o, vI (0 : Int32), vI (0 : Int32), vI (3 : Int32), .unset] [] (fun t k => st2 t k) ?_
  refine own_vFW m T2 12 #[vR o, vI (0 : Int32), vI (0 : Int32), vI (3 : Int32), .unset] [(.int 0)] (fun t k => XS.iloadN X2.here hx rfl (hb hby d26_11) rfl k) ?_
  refine own_vFW m T2 15 #[vR o, vI (0 : Int32), vI (0 : Int32), vI (3 : Int32), .unset] [] (fun t k => XS.ifNo X2.here hx rfl (hb hby d26_12) rfl ((if0 _ _).trans (teq (by decide : ((0 : Int32) = (0 : Int32)))).2) k) ?_
  refine own_vFW m T2 16 #[vR o, vI (0 : Int32), vI (0 : Int32), vI (3 : Int32), .unset] [(.int 0)] (fun t k => XS.iloadN X2.here hx rfl (hb hby d26_15) rfl k) ?_
  refine own_vFW m T2 17 #[vR o, vI (0 : Int32), vI (0 : Int32), vI (3 : Int32), .unset] [(.int 3), (.int 0)] (fun t k => XS.iloadN X2.here hx rfl (hb hby d26_16) rfl k) ?_
  refine own_vFW m T2 22 #[vR o, vI (0 : Int32), vI (0 : Int32), vI (3 : Int32), .unset] [] (fun t k => XS.icmpYes X2.here hx rfl (pc0 := 17) (pc' := 22) rfl (hb hby d26_17) rfl (feq (by decide : ¬ ((0 : Int32) = (3 : Int32)))).2 (by decide) (by decide) k) ?_
  refine own_vFW m T2 23 #[vR o, vI (0 : Int32), vI (0 : Int32), vI (3 : Int32), .unset] [(.int 0)] (fun t k => XS.iloadN X2.here hx rfl (hb hby d26_22) rfl k) ?_
  refine own_vFW m T2 24 #[vR o, vI (0 : Int32), vI (0 : Int32), vI (3 : Int32), .unset] [(.int 0), (.int 0)] (fun t k => XS.iloadN X2.here hx rfl (hb hby d26_23) rfl k) ?_
  refine own_vFW m T2 25 #[vR o, vI (0 : Int32), vI (0 : Int32), vI (3 : Int32), .unset] [(.int ((0 : Int32) - (0 : Int32)))] (fun t k => XS.isub X2.here hx rfl (hb hby d26_24) rfl k) ?_
  rw [show ((0 : Int32) - (0 : Int32)) = (0 : Int32) from by decide]
  refine own_vFW m T2 27 #[vR o, vI (0 : Int32), vI (0 : Int32), vI (3 : Int32), vI (0 : Int32)] [] (fun t k => XS.istore X2.here hx rfl (hb hby d26_25) rfl (l' := #[vR o, vI (0 : Int32), vI (0 : Int32), vI (3 : Int32), vI (0 : Int32)]) rfl k) ?_
  refine own_vFW m T2 28 #[vR o, vI (0 : Int32), vI (0 : Int32), vI (3 : Int32), vI (0 : Int32)] [(.ref o)] (fun t k => XS.aloadN X2.here hx rfl (hb hby d26_27) rfl rfl k) ?_
  obtain ⟨_, T3, L3, X3, hQ3, st3⟩ := own_callV X2 hx hZ (y := (⟨"java/lang/String", "isLatin1", "()Z"⟩ : MethodName)) (W := 0) (C := "java/lang/String") hown (hw _ (own_mt 48 rfl)) (hw _ (own_mt 49 rfl)) (hw _ (own_mt 51 rfl)) (hw _ (own_mt 50 rfl)) (hw _ (own_mt 12 rfl)) (hw _ (own_mt 52 rfl)) (by decide) (rm_Ql1 l Z a0 hw o ar cs sf iso u8 h0 n0 Z0 Od SS Es Fc Fv) (by decide) (by decide) e2 Es (g := (mkF m 28 #[vR o, vI (0 : Int32), vI (0 : Int32), vI (3 : Int32), vI (0 : Int32)] [(.ref o)])) rfl (by rw [hml]; rfl) (argsL := []) (rest := []) rfl (lenOf pd___Z rfl) rfl own_w0 (hb hby d26_28) (by decide) (by decide)
  obtain ⟨rfl, N3q, e3⟩ := hQ3
  have N3 := Fr.app N2 N3q
  refine own_vFW m T3 31 #[vR o, vI (0 : Int32), vI (0 : Int32), vI (3 : Int32), vI (0 : Int32)] [(.int 1)] (fun t k => st3 t k) ?_
  refine own_vFW m T3 34 #[vR o, vI (0 : Int32), vI (0 : Int32), vI (3 : Int32), vI (0 : Int32)] [] (fun t k => XS.ifNo X3.here hx rfl (hb hby d26_31) rfl ((if0 _ _).trans (feq (by decide : ¬ ((1 : Int32) = (0 : Int32)))).1) k) ?_
  refine own_vFW m T3 35 #[vR o, vI (0 : Int32), vI (0 : Int32), vI (3 : Int32), vI (0 : Int32)] [(.ref o)] (fun t k => XS.aloadN X3.here hx rfl (hb hby d26_34) rfl rfl k) ?_
  obtain ⟨T4, X4, e4, st4⟩ := getF (host := "") X3 hx hZ hown (Or.inl (hw _ (own_mt 36 rfl))) Via.refl e3 Fv (g := (mkF m 35 #[vR o, vI (0 : Int32), vI (0 : Int32), vI (3 : Int32), vI (0 : Int32)] [(.ref o)])) rfl rfl (hb hby d26_35)
  refine own_vFW m T4 38 #[vR o, vI (0 : Int32), vI (0 : Int32), vI (3 : Int32), vI (0 : Int32)] [(.ref ar)] (fun t k => st4 t k) ?_
  refine own_vFW m T4 39 #[vR o, vI (0 : Int32), vI (0 : Int32), vI (3 : Int32), vI (0 : Int32)] [(.int 0), (.ref ar)] (fun t k => XS.iloadN X4.here hx rfl (hb hby d26_38) rfl k) ?_
  refine own_vFW m T4 41 #[vR o, vI (0 : Int32), vI (0 : Int32), vI (3 : Int32), vI (0 : Int32)] [(.int 0), (.int 0), (.ref ar)] (fun t k => XS.iload X4.here hx rfl (hb hby d26_39) rfl k) ?_
  obtain ⟨_, T5, L5, X5, hS, hZ, hown, hQ5, st5⟩ := own_callSW X4 hx hZ hEL hCH (y := (⟨"java/lang/StringLatin1", "newString", "([BII)Ljava/lang/String;"⟩ : MethodName)) (W := 0) hown (hw _ (own_mt 113 rfl)) (hw _ (own_mt 114 rfl)) (hw _ (own_mt 66 rfl)) (hw _ (own_mt 115 rfl)) (by decide) (rm_Qns0 l Z a0 hw ar h0 n0 Z0 Od) (by decide) (by decide) e4 (g := (mkF m 41 #[vR o, vI (0 : Int32), vI (0 : Int32), vI (3 : Int32), vI (0 : Int32)] [(.int 0), (.int 0), (.ref ar)])) rfl (by rw [hml]; rfl) (argsL := [(.ref ar), (.int 0), (.int 0)]) (rest := []) rfl (lenOf pd_ABII__Ljava_lang_String_ rfl) rfl own_w0 (hb hby d26_41) (by decide) (by decide)
  have hk5 : T5.heap.size ≤ T5.heap.size := Nat.le_refl _
  obtain ⟨b5r, rfl, N5q, K5q, Es5, Fc5, b5s, kb5, Fv5, Va5⟩ := hQ5
  have N5 := Fr.app N3 N5q
  have K17 := K0.trans K5q all0
  refine own_vFW m T5 44 #[vR o, vI (0 : Int32), vI (0 : Int32), vI (3 : Int32), vI (0 : Int32)] [(.ref b5r)] (fun t k => st5 t k) ?_
  refine own_vFW m T5 57 #[vR o, vI (0 : Int32), vI (0 : Int32), vI (3 : Int32), vI (0 : Int32)] [(.ref b5r)] (fun t k => XS.goto X5.here hx rfl (pc0 := 44) (pc' := 57) rfl (hb hby d26_44) (by decide) (by decide) k) ?_
  exact own_retW (s := s) X5 hS (by exact hk5) (v := some (.ref b5r)) (fun h => by rw [hret] at h; cases h) hlk (fun fs hr => retOut X5 hx (t := (.object "java/lang/String")) hret rfl (Or.inr (Or.inr (Or.inr (Or.inr ⟨rfl, rfl, rfl⟩)))) (hb hby d26_57) hr) (by exact ⟨b5r, rfl, N5, K17, Es5, Fc5, b5s, _, Fv5, Va5⟩) (by decide) (by decide)
def Qsb31 (Z : State) (o ar : Addr) (kk : ClassId) (v1 v2 v3 : Int32) (cs : Int32) (sf : Value) (iso u8 : Addr) (h0 : Heap) (n0 : Nat) (v : Option Value) (h : Heap) (L : List Loc) : Prop := ∃ r, v = some (.ref r) ∧ Fr n0 L ∧ Keep h0 h [] ∧ Exa Z h r "java/lang/String" ∧ Fld Z h r "java/lang/String" "coder" "B" (.int 0) ∧ ∃ b kb, Fld Z h r "java/lang/String" "value" "[B" (.ref b) ∧ Exa Z h b "[B" ∧ Arv Z h b kb .byte (1 : Int32) [.int v1] (.int 0)
set_option maxRecDepth 65536 in
set_option maxHeartbeats 40000000 in
theorem rm_Qsb31 (l : Launch) (Z : State) (a0 : Array Value) (hw : ∀ d ∈ tables_1, d.before a0 Z = true) (o ar : Addr) (kk : ClassId) (v1 v2 v3 : Int32) (cs : Int32) (sf : Value) (iso u8 : Addr) (h0 : Heap) (n0 : Nat) (Z0 : n0 ≤ h0.size) (Od : Old Z n0 h0) (SS : own_SS Z cs sf iso u8) (Es : Exa Z h0 o "java/lang/String") (Fc : Fld Z h0 o "java/lang/String" "coder" "B" (.int 0)) (Fv : Fld Z h0 o "java/lang/String" "value" "[B" (.ref ar)) (Ea : Exa Z h0 ar "[B") (Va : Arv Z h0 ar kk .byte (3 : Int32) [(.int v1), (.int v2), (.int v3)] (.int 0)) :
    own_MG l Z ((⟨"java/lang/String", "substring", "(II)Ljava/lang/String;"⟩ : MethodName)) jdk_42_method_92_code 5 (some (.object "java/lang/String")) ({ frames := 4, cells := 2, slots := 5, locals := 106 } : Room) #[(.ref o), (.int 0), (.int 1)] h0 (Qsb31 Z o ar kk v1 v2 v3 cs sf iso u8 h0 n0) := by
  refine own_mkG (plainFor_of_name pn_java_lang_String) ?_
  intro p e s m below meth c s₁ X0 hx hby hml hown hnm hret hlk hZ e0
  have N0 := Fr.nil n0
  have K0 := Keep.refl h0 []
  rw [ef_RII5 m o (0 : Int32) (1 : Int32)]
  refine own_vF m s₁ 1 #[vR o, vI (0 : Int32), vI (1 : Int32), .unset, .unset] [(.ref o)] (fun t k => XS.aloadN X0.here hx rfl (hb hby d26_0) rfl rfl k) ?_
  obtain ⟨_, T1, L1, X1, hQ1, st1⟩ := own_callV X0 hx hZ (y := (⟨"java/lang/String", "length", "()I"⟩ : MethodName)) (W := 0) (C := "java/lang/String") hown (hw _ (own_mt 54 rfl)) (hw _ (own_mt 55 rfl)) (hw _ (own_mt 57 rfl)) (hw _ (own_mt 56 rfl)) (hw _ (own_mt 12 rfl)) (hw _ (own_mt 58 rfl)) (by decide) (rm_Qln3 l Z a0 hw o ar kk v1 v2 v3 cs sf iso u8 h0 n0 Z0 Od SS Es Fc Fv Va) (by decide) (by decide) e0 Es (g := (mkF m 1 #[vR o, vI (0 : Int32), vI (1 : Int32), .unset, .unset] [(.ref o)])) rfl (by rw [hml]; rfl) (argsL := []) (rest := []) rfl (lenOf pd___I rfl) rfl own_w0 (hb hby d26_1) (by decide) (by decide)
  obtain ⟨rfl, N1q, e1⟩ := hQ1
  have N1 := Fr.app N0 N1q
  refine own_vF m T1 4 #[vR o, vI (0 : Int32), vI (1 : Int32), .unset, .unset] [(.int 3)] (fun t k => st1 t k) ?_
  refine own_vF m T1 5 #[vR o, vI (0 : Int32), vI (1 : Int32), vI (3 : Int32), .unset] [] (fun t k => XS.istoreN X1.here hx rfl (hb hby d26_4) rfl (l' := #[vR o, vI (0 : Int32), vI (1 : Int32), vI (3 : Int32), .unset]) rfl k) ?_
  refine own_vF m T1 6 #[vR o, vI (0 : Int32), vI (1 : Int32), vI (3 : Int32), .unset] [(.int 0)] (fun t k => XS.iloadN X1.here hx rfl (hb hby d26_5) rfl k) ?_
  refine own_vF m T1 7 #[vR o, vI (0 : Int32), vI (1 : Int32), vI (3 : Int32), .unset] [(.int 1), (.int 0)] (fun t k => XS.iloadN X1.here hx rfl (hb hby d26_6) rfl k) ?_
  refine own_vF m T1 8 #[vR o, vI (0 : Int32), vI (1 : Int32), vI (3 : Int32), .unset] [(.int 3), (.int 1), (.int 0)] (fun t k => XS.iloadN X1.here hx rfl (hb hby d26_7) rfl k) ?_
  obtain ⟨_, T2, L2, X2, hQ2, st2⟩ := own_callS X1 hx hZ (y := (⟨"java/lang/String", "checkBoundsBeginEnd", "(III)V"⟩ : MethodName)) (W := 0) hown (hw _ (own_mt 84 rfl)) (hw _ (own_mt 85 rfl)) (hw _ (own_mt 12 rfl)) (hw _ (own_mt 86 rfl)) (by decide) (rm_Qcb l Z a0 hw (1 : Int32) (3 : Int32) cs sf iso u8 h0 n0 Z0 Od SS (by decide) (by decide)) (by decide) (by decide) e1 (g := (mkF m 8 #[vR o, vI (0 : Int32), vI (1 : Int32), vI (3 : Int32), .unset] [(.int 3), (.int 1), (.int 0)])) rfl (by rw [hml]; rfl) (argsL := [(.int 0), (.int 1), (.int 3)]) (rest := []) rfl (lenOf pd_III__V rfl) rfl own_w0 (hb hby d26_8) (by decide) (by decide)
  obtain ⟨rfl, N2q, e2⟩ := hQ2
  have N2 := Fr.app N1 N2q
  refine own_vF m T2 11 #[vR o, vI (0 : Int32), vI (1 : Int32), vI (3 : Int32), .unset] [] (fun t k => st2 t k) ?_
  refine own_vF m T2 12 #[vR o, vI (0 : Int32), vI (1 : Int32), vI (3 : Int32), .unset] [(.int 0)] (fun t k => XS.iloadN X2.here hx rfl (hb hby d26_11) rfl k) ?_
  refine own_vF m T2 15 #[vR o, vI (0 : Int32), vI (1 : Int32), vI (3 : Int32), .unset] [] (fun t k => XS.ifNo X2.here hx rfl (hb hby d26_12) rfl ((if0 _ _).trans (teq (by decide : ((0 : Int32) = (0 : Int32)))).2) k) ?_
  refine own_vF m T2 16 #[vR o, vI (0 : Int32), vI (1 : Int32), vI (3 : Int32), .unset] [(.int 1)] (fun t k => XS.iloadN X2.here hx rfl (hb hby d26_15) rfl k) ?_
  refine own_vF m T2 17 #[vR o, vI (0 : Int32), vI (1 : Int32), vI (3 : Int32), .unset] [(.int 3), (.int 1)] (fun t k => XS.iloadN X2.here hx rfl (hb hby d26_16) rfl k) ?_
  refine own_vF m T2 22 #[vR o, vI (0 : Int32), vI (1 : Int32), vI (3 : Int32), .unset] [] (fun t k => XS.icmpYes X2.here hx rfl (pc0 := 17) (pc' := 22) rfl (hb hby d26_17) rfl (feq (by decide : ¬ ((1 : Int32) = (3 : Int32)))).2 (by decide) (by decide) k) ?_
  refine own_vF m T2 23 #[vR o, vI (0 : Int32), vI (1 : Int32), vI (3 : Int32), .unset] [(.int 1)] (fun t k => XS.iloadN X2.here hx rfl (hb hby d26_22) rfl k) ?_
  refine own_vF m T2 24 #[vR o, vI (0 : Int32), vI (1 : Int32), vI (3 : Int32), .unset] [(.int 0), (.int 1)] (fun t k => XS.iloadN X2.here hx rfl (hb hby d26_23) rfl k) ?_
  refine own_vF m T2 25 #[vR o, vI (0 : Int32), vI (1 : Int32), vI (3 : Int32), .unset] [(.int ((1 : Int32) - (0 : Int32)))] (fun t k => XS.isub X2.here hx rfl (hb hby d26_24) rfl k) ?_
  rw [show ((1 : Int32) - (0 : Int32)) = (1 : Int32) from by decide]
  refine own_vF m T2 27 #[vR o, vI (0 : Int32), vI (1 : Int32), vI (3 : Int32), vI (1 : Int32)] [] (fun t k => XS.istore X2.here hx rfl (hb hby d26_25) rfl (l' := #[vR o, vI (0 : Int32), vI (1 : Int32), vI (3 : Int32), vI (1 : Int32)]) rfl k) ?_
  refine own_vF m T2 28 #[vR o, vI (0 : Int32), vI (1 : Int32), vI (3 : Int32), vI (1 : Int32)] [(.ref o)] (fun t k => XS.aloadN X2.here hx rfl (hb hby d26_27) rfl rfl k) ?_
  obtain ⟨_, T3, L3, X3, hQ3, st3⟩ := own_callV X2 hx hZ (y := (⟨"java/lang/String", "isLatin1", "()Z"⟩ : MethodName)) (W := 0) (C := "java/lang/String") hown (hw _ (own_mt 48 rfl)) (hw _ (own_mt 49 rfl)) (hw _ (own_mt 51 rfl)) (hw _ (own_mt 50 rfl)) (hw _ (own_mt 12 rfl)) (hw _ (own_mt 52 rfl)) (by decide) (rm_Ql1 l Z a0 hw o ar cs sf iso u8 h0 n0 Z0 Od SS Es Fc Fv) (by decide) (by decide) e2 Es (g := (mkF m 28 #[vR o, vI (0 : Int32), vI (1 : Int32), vI (3 : Int32), vI (1 : Int32)] [(.ref o)])) rfl (by rw [hml]; rfl) (argsL := []) (rest := []) rfl (lenOf pd___Z rfl) rfl own_w0 (hb hby d26_28) (by decide) (by decide)
  obtain ⟨rfl, N3q, e3⟩ := hQ3
  have N3 := Fr.app N2 N3q
  refine own_vF m T3 31 #[vR o, vI (0 : Int32), vI (1 : Int32), vI (3 : Int32), vI (1 : Int32)] [(.int 1)] (fun t k => st3 t k) ?_
  refine own_vF m T3 34 #[vR o, vI (0 : Int32), vI (1 : Int32), vI (3 : Int32), vI (1 : Int32)] [] (fun t k => XS.ifNo X3.here hx rfl (hb hby d26_31) rfl ((if0 _ _).trans (feq (by decide : ¬ ((1 : Int32) = (0 : Int32)))).1) k) ?_
  refine own_vF m T3 35 #[vR o, vI (0 : Int32), vI (1 : Int32), vI (3 : Int32), vI (1 : Int32)] [(.ref o)] (fun t k => XS.aloadN X3.here hx rfl (hb hby d26_34) rfl rfl k) ?_
  obtain ⟨T4, X4, e4, st4⟩ := getF (host := "") X3 hx hZ hown (Or.inl (hw _ (own_mt 36 rfl))) Via.refl e3 Fv (g := (mkF m 35 #[vR o, vI (0 : Int32), vI (1 : Int32), vI (3 : Int32), vI (1 : Int32)] [(.ref o)])) rfl rfl (hb hby d26_35)
  refine own_vF m T4 38 #[vR o, vI (0 : Int32), vI (1 : Int32), vI (3 : Int32), vI (1 : Int32)] [(.ref ar)] (fun t k => st4 t k) ?_
  refine own_vF m T4 39 #[vR o, vI (0 : Int32), vI (1 : Int32), vI (3 : Int32), vI (1 : Int32)] [(.int 0), (.ref ar)] (fun t k => XS.iloadN X4.here hx rfl (hb hby d26_38) rfl k) ?_
  refine own_vF m T4 41 #[vR o, vI (0 : Int32), vI (1 : Int32), vI (3 : Int32), vI (1 : Int32)] [(.int 1), (.int 0), (.ref ar)] (fun t k => XS.iload X4.here hx rfl (hb hby d26_39) rfl k) ?_
  obtain ⟨_, T5, L5, X5, hQ5, st5⟩ := own_callS X4 hx hZ (y := (⟨"java/lang/StringLatin1", "newString", "([BII)Ljava/lang/String;"⟩ : MethodName)) (W := 0) hown (hw _ (own_mt 113 rfl)) (hw _ (own_mt 114 rfl)) (hw _ (own_mt 66 rfl)) (hw _ (own_mt 115 rfl)) (by decide) (rm_Qns31 l Z a0 hw ar kk v1 v2 v3 h0 n0 Z0 Ea Va) (by decide) (by decide) e4 (g := (mkF m 41 #[vR o, vI (0 : Int32), vI (1 : Int32), vI (3 : Int32), vI (1 : Int32)] [(.int 1), (.int 0), (.ref ar)])) rfl (by rw [hml]; rfl) (argsL := [(.ref ar), (.int 0), (.int 1)]) (rest := []) rfl (lenOf pd_ABII__Ljava_lang_String_ rfl) rfl own_w0 (hb hby d26_41) (by decide) (by decide)
  obtain ⟨b5r, rfl, N5q, K5q, Es5, Fc5, b5s, kb5, Fv5, Eb5, Va5⟩ := hQ5
  have N5 := Fr.app N3 N5q
  have K17 := K0.trans K5q all0
  refine own_vF m T5 44 #[vR o, vI (0 : Int32), vI (1 : Int32), vI (3 : Int32), vI (1 : Int32)] [(.ref b5r)] (fun t k => st5 t k) ?_
  refine own_vF m T5 57 #[vR o, vI (0 : Int32), vI (1 : Int32), vI (3 : Int32), vI (1 : Int32)] [(.ref b5r)] (fun t k => XS.goto X5.here hx rfl (pc0 := 44) (pc' := 57) rfl (hb hby d26_44) (by decide) (by decide) k) ?_
  exact own_ret X5 (v := some (.ref b5r)) (fun h => by rw [hret] at h; cases h) hlk (fun fs hr => retOut X5 hx (t := (.object "java/lang/String")) hret rfl (Or.inr (Or.inr (Or.inr (Or.inr ⟨rfl, rfl, rfl⟩)))) (hb hby d26_57) hr) (by exact ⟨b5r, rfl, N5, K17, Es5, Fc5, b5s, _, Fv5, Eb5, Va5⟩) (by decide) (by decide)
def Qsb32 (Z : State) (o ar : Addr) (kk : ClassId) (v1 v2 v3 : Int32) (cs : Int32) (sf : Value) (iso u8 : Addr) (h0 : Heap) (n0 : Nat) (v : Option Value) (h : Heap) (L : List Loc) : Prop := ∃ r, v = some (.ref r) ∧ Fr n0 L ∧ Keep h0 h [] ∧ Exa Z h r "java/lang/String" ∧ Fld Z h r "java/lang/String" "coder" "B" (.int 0) ∧ ∃ b kb, Fld Z h r "java/lang/String" "value" "[B" (.ref b) ∧ Exa Z h b "[B" ∧ Arv Z h b kb .byte (2 : Int32) [.int v1, .int v2] (.int 0)
set_option maxRecDepth 65536 in
set_option maxHeartbeats 40000000 in
theorem rm_Qsb32 (l : Launch) (Z : State) (a0 : Array Value) (hw : ∀ d ∈ tables_1, d.before a0 Z = true) (o ar : Addr) (kk : ClassId) (v1 v2 v3 : Int32) (cs : Int32) (sf : Value) (iso u8 : Addr) (h0 : Heap) (n0 : Nat) (Z0 : n0 ≤ h0.size) (Od : Old Z n0 h0) (SS : own_SS Z cs sf iso u8) (Es : Exa Z h0 o "java/lang/String") (Fc : Fld Z h0 o "java/lang/String" "coder" "B" (.int 0)) (Fv : Fld Z h0 o "java/lang/String" "value" "[B" (.ref ar)) (Ea : Exa Z h0 ar "[B") (Va : Arv Z h0 ar kk .byte (3 : Int32) [(.int v1), (.int v2), (.int v3)] (.int 0)) :
    own_MG l Z ((⟨"java/lang/String", "substring", "(II)Ljava/lang/String;"⟩ : MethodName)) jdk_42_method_92_code 5 (some (.object "java/lang/String")) ({ frames := 4, cells := 2, slots := 6, locals := 106 } : Room) #[(.ref o), (.int 0), (.int 2)] h0 (Qsb32 Z o ar kk v1 v2 v3 cs sf iso u8 h0 n0) := by
  refine own_mkG (plainFor_of_name pn_java_lang_String) ?_
  intro p e s m below meth c s₁ X0 hx hby hml hown hnm hret hlk hZ e0
  have N0 := Fr.nil n0
  have K0 := Keep.refl h0 []
  rw [ef_RII5 m o (0 : Int32) (2 : Int32)]
  refine own_vF m s₁ 1 #[vR o, vI (0 : Int32), vI (2 : Int32), .unset, .unset] [(.ref o)] (fun t k => XS.aloadN X0.here hx rfl (hb hby d26_0) rfl rfl k) ?_
  obtain ⟨_, T1, L1, X1, hQ1, st1⟩ := own_callV X0 hx hZ (y := (⟨"java/lang/String", "length", "()I"⟩ : MethodName)) (W := 0) (C := "java/lang/String") hown (hw _ (own_mt 54 rfl)) (hw _ (own_mt 55 rfl)) (hw _ (own_mt 57 rfl)) (hw _ (own_mt 56 rfl)) (hw _ (own_mt 12 rfl)) (hw _ (own_mt 58 rfl)) (by decide) (rm_Qln3 l Z a0 hw o ar kk v1 v2 v3 cs sf iso u8 h0 n0 Z0 Od SS Es Fc Fv Va) (by decide) (by decide) e0 Es (g := (mkF m 1 #[vR o, vI (0 : Int32), vI (2 : Int32), .unset, .unset] [(.ref o)])) rfl (by rw [hml]; rfl) (argsL := []) (rest := []) rfl (lenOf pd___I rfl) rfl own_w0 (hb hby d26_1) (by decide) (by decide)
  obtain ⟨rfl, N1q, e1⟩ := hQ1
  have N1 := Fr.app N0 N1q
  refine own_vF m T1 4 #[vR o, vI (0 : Int32), vI (2 : Int32), .unset, .unset] [(.int 3)] (fun t k => st1 t k) ?_
  refine own_vF m T1 5 #[vR o, vI (0 : Int32), vI (2 : Int32), vI (3 : Int32), .unset] [] (fun t k => XS.istoreN X1.here hx rfl (hb hby d26_4) rfl (l' := #[vR o, vI (0 : Int32), vI (2 : Int32), vI (3 : Int32), .unset]) rfl k) ?_
  refine own_vF m T1 6 #[vR o, vI (0 : Int32), vI (2 : Int32), vI (3 : Int32), .unset] [(.int 0)] (fun t k => XS.iloadN X1.here hx rfl (hb hby d26_5) rfl k) ?_
  refine own_vF m T1 7 #[vR o, vI (0 : Int32), vI (2 : Int32), vI (3 : Int32), .unset] [(.int 2), (.int 0)] (fun t k => XS.iloadN X1.here hx rfl (hb hby d26_6) rfl k) ?_
  refine own_vF m T1 8 #[vR o, vI (0 : Int32), vI (2 : Int32), vI (3 : Int32), .unset] [(.int 3), (.int 2), (.int 0)] (fun t k => XS.iloadN X1.here hx rfl (hb hby d26_7) rfl k) ?_
  obtain ⟨_, T2, L2, X2, hQ2, st2⟩ := own_callS X1 hx hZ (y := (⟨"java/lang/String", "checkBoundsBeginEnd", "(III)V"⟩ : MethodName)) (W := 0) hown (hw _ (own_mt 84 rfl)) (hw _ (own_mt 85 rfl)) (hw _ (own_mt 12 rfl)) (hw _ (own_mt 86 rfl)) (by decide) (rm_Qcb l Z a0 hw (2 : Int32) (3 : Int32) cs sf iso u8 h0 n0 Z0 Od SS (by decide) (by decide)) (by decide) (by decide) e1 (g := (mkF m 8 #[vR o, vI (0 : Int32), vI (2 : Int32), vI (3 : Int32), .unset] [(.int 3), (.int 2), (.int 0)])) rfl (by rw [hml]; rfl) (argsL := [(.int 0), (.int 2), (.int 3)]) (rest := []) rfl (lenOf pd_III__V rfl) rfl own_w0 (hb hby d26_8) (by decide) (by decide)
  obtain ⟨rfl, N2q, e2⟩ := hQ2
  have N2 := Fr.app N1 N2q
  refine own_vF m T2 11 #[vR o, vI (0 : Int32), vI (2 : Int32), vI (3 : Int32), .unset] [] (fun t k => st2 t k) ?_
  refine own_vF m T2 12 #[vR o, vI (0 : Int32), vI (2 : Int32), vI (3 : Int32), .unset] [(.int 0)] (fun t k => XS.iloadN X2.here hx rfl (hb hby d26_11) rfl k) ?_
  refine own_vF m T2 15 #[vR o, vI (0 : Int32), vI (2 : Int32), vI (3 : Int32), .unset] [] (fun t k => XS.ifNo X2.here hx rfl (hb hby d26_12) rfl ((if0 _ _).trans (teq (by decide : ((0 : Int32) = (0 : Int32)))).2) k) ?_
  refine own_vF m T2 16 #[vR o, vI (0 : Int32), vI (2 : Int32), vI (3 : Int32), .unset] [(.int 2)] (fun t k => XS.iloadN X2.here hx rfl (hb hby d26_15) rfl k) ?_
  refine own_vF m T2 17 #[vR o, vI (0 : Int32), vI (2 : Int32), vI (3 : Int32), .unset] [(.int 3), (.int 2)] (fun t k => XS.iloadN X2.here hx rfl (hb hby d26_16) rfl k) ?_
  refine own_vF m T2 22 #[vR o, vI (0 : Int32), vI (2 : Int32), vI (3 : Int32), .unset] [] (fun t k => XS.icmpYes X2.here hx rfl (pc0 := 17) (pc' := 22) rfl (hb hby d26_17) rfl (feq (by decide : ¬ ((2 : Int32) = (3 : Int32)))).2 (by decide) (by decide) k) ?_
  refine own_vF m T2 23 #[vR o, vI (0 : Int32), vI (2 : Int32), vI (3 : Int32), .unset] [(.int 2)] (fun t k => XS.iloadN X2.here hx rfl (hb hby d26_22) rfl k) ?_
  refine own_vF m T2 24 #[vR o, vI (0 : Int32), vI (2 : Int32), vI (3 : Int32), .unset] [(.int 0), (.int 2)] (fun t k => XS.iloadN X2.here hx rfl (hb hby d26_23) rfl k) ?_
  refine own_vF m T2 25 #[vR o, vI (0 : Int32), vI (2 : Int32), vI (3 : Int32), .unset] [(.int ((2 : Int32) - (0 : Int32)))] (fun t k => XS.isub X2.here hx rfl (hb hby d26_24) rfl k) ?_
  rw [show ((2 : Int32) - (0 : Int32)) = (2 : Int32) from by decide]
  refine own_vF m T2 27 #[vR o, vI (0 : Int32), vI (2 : Int32), vI (3 : Int32), vI (2 : Int32)] [] (fun t k => XS.istore X2.here hx rfl (hb hby d26_25) rfl (l' := #[vR o, vI (0 : Int32), vI (2 : Int32), vI (3 : Int32), vI (2 : Int32)]) rfl k) ?_
  refine own_vF m T2 28 #[vR o, vI (0 : Int32), vI (2 : Int32), vI (3 : Int32), vI (2 : Int32)] [(.ref o)] (fun t k => XS.aloadN X2.here hx rfl (hb hby d26_27) rfl rfl k) ?_
  obtain ⟨_, T3, L3, X3, hQ3, st3⟩ := own_callV X2 hx hZ (y := (⟨"java/lang/String", "isLatin1", "()Z"⟩ : MethodName)) (W := 0) (C := "java/lang/String") hown (hw _ (own_mt 48 rfl)) (hw _ (own_mt 49 rfl)) (hw _ (own_mt 51 rfl)) (hw _ (own_mt 50 rfl)) (hw _ (own_mt 12 rfl)) (hw _ (own_mt 52 rfl)) (by decide) (rm_Ql1 l Z a0 hw o ar cs sf iso u8 h0 n0 Z0 Od SS Es Fc Fv) (by decide) (by decide) e2 Es (g := (mkF m 28 #[vR o, vI (0 : Int32), vI (2 : Int32), vI (3 : Int32), vI (2 : Int32)] [(.ref o)])) rfl (by rw [hml]; rfl) (argsL := []) (rest := []) rfl (lenOf pd___Z rfl) rfl own_w0 (hb hby d26_28) (by decide) (by decide)
  obtain ⟨rfl, N3q, e3⟩ := hQ3
  have N3 := Fr.app N2 N3q
  refine own_vF m T3 31 #[vR o, vI (0 : Int32), vI (2 : Int32), vI (3 : Int32), vI (2 : Int32)] [(.int 1)] (fun t k => st3 t k) ?_
  refine own_vF m T3 34 #[vR o, vI (0 : Int32), vI (2 : Int32), vI (3 : Int32), vI (2 : Int32)] [] (fun t k => XS.ifNo X3.here hx rfl (hb hby d26_31) rfl ((if0 _ _).trans (feq (by decide : ¬ ((1 : Int32) = (0 : Int32)))).1) k) ?_
  refine own_vF m T3 35 #[vR o, vI (0 : Int32), vI (2 : Int32), vI (3 : Int32), vI (2 : Int32)] [(.ref o)] (fun t k => XS.aloadN X3.here hx rfl (hb hby d26_34) rfl rfl k) ?_
  obtain ⟨T4, X4, e4, st4⟩ := getF (host := "") X3 hx hZ hown (Or.inl (hw _ (own_mt 36 rfl))) Via.refl e3 Fv (g := (mkF m 35 #[vR o, vI (0 : Int32), vI (2 : Int32), vI (3 : Int32), vI (2 : Int32)] [(.ref o)])) rfl rfl (hb hby d26_35)
  refine own_vF m T4 38 #[vR o, vI (0 : Int32), vI (2 : Int32), vI (3 : Int32), vI (2 : Int32)] [(.ref ar)] (fun t k => st4 t k) ?_
  refine own_vF m T4 39 #[vR o, vI (0 : Int32), vI (2 : Int32), vI (3 : Int32), vI (2 : Int32)] [(.int 0), (.ref ar)] (fun t k => XS.iloadN X4.here hx rfl (hb hby d26_38) rfl k) ?_
  refine own_vF m T4 41 #[vR o, vI (0 : Int32), vI (2 : Int32), vI (3 : Int32), vI (2 : Int32)] [(.int 2), (.int 0), (.ref ar)] (fun t k => XS.iload X4.here hx rfl (hb hby d26_39) rfl k) ?_
  obtain ⟨_, T5, L5, X5, hQ5, st5⟩ := own_callS X4 hx hZ (y := (⟨"java/lang/StringLatin1", "newString", "([BII)Ljava/lang/String;"⟩ : MethodName)) (W := 0) hown (hw _ (own_mt 113 rfl)) (hw _ (own_mt 114 rfl)) (hw _ (own_mt 66 rfl)) (hw _ (own_mt 115 rfl)) (by decide) (rm_Qns32 l Z a0 hw ar kk v1 v2 v3 h0 n0 Z0 Ea Va) (by decide) (by decide) e4 (g := (mkF m 41 #[vR o, vI (0 : Int32), vI (2 : Int32), vI (3 : Int32), vI (2 : Int32)] [(.int 2), (.int 0), (.ref ar)])) rfl (by rw [hml]; rfl) (argsL := [(.ref ar), (.int 0), (.int 2)]) (rest := []) rfl (lenOf pd_ABII__Ljava_lang_String_ rfl) rfl own_w0 (hb hby d26_41) (by decide) (by decide)
  obtain ⟨b5r, rfl, N5q, K5q, Es5, Fc5, b5s, kb5, Fv5, Eb5, Va5⟩ := hQ5
  have N5 := Fr.app N3 N5q
  have K17 := K0.trans K5q all0
  refine own_vF m T5 44 #[vR o, vI (0 : Int32), vI (2 : Int32), vI (3 : Int32), vI (2 : Int32)] [(.ref b5r)] (fun t k => st5 t k) ?_
  refine own_vF m T5 57 #[vR o, vI (0 : Int32), vI (2 : Int32), vI (3 : Int32), vI (2 : Int32)] [(.ref b5r)] (fun t k => XS.goto X5.here hx rfl (pc0 := 44) (pc' := 57) rfl (hb hby d26_44) (by decide) (by decide) k) ?_
  exact own_ret X5 (v := some (.ref b5r)) (fun h => by rw [hret] at h; cases h) hlk (fun fs hr => retOut X5 hx (t := (.object "java/lang/String")) hret rfl (Or.inr (Or.inr (Or.inr (Or.inr ⟨rfl, rfl, rfl⟩)))) (hb hby d26_57) hr) (by exact ⟨b5r, rfl, N5, K17, Es5, Fc5, b5s, _, Fv5, Eb5, Va5⟩) (by decide) (by decide)
def Qsb40 (Z : State) (o ar : Addr) (kk : ClassId) (v1 v2 v3 v4 : Int32) (cs : Int32) (sf : Value) (iso u8 : Addr) (h0 : Heap) (n0 : Nat) (v : Option Value) (h : Heap) (L : List Loc) : Prop := ∃ r, v = some (.ref r) ∧ Fr n0 L ∧ Keep h0 h [] ∧ Exa Z h r "java/lang/String" ∧ Fld Z h r "java/lang/String" "coder" "B" (.int 0) ∧ ∃ b kb, Fld Z h r "java/lang/String" "value" "[B" (.ref b) ∧ Arv Z h b kb .byte (0 : Int32) [] (.int 0)
set_option maxRecDepth 65536 in
set_option maxHeartbeats 40000000 in
theorem rm_Qsb40 (l : Launch) (Z : State) (a0 : Array Value) (hw : ∀ d ∈ tables_1, d.before a0 Z = true) (o ar : Addr) (kk : ClassId) (v1 v2 v3 v4 : Int32) (cs : Int32) (sf : Value) (iso u8 : Addr) (h0 : Heap) (n0 : Nat) (Z0 : n0 ≤ h0.size) (Od : Old Z n0 h0) (SS : own_SS Z cs sf iso u8) (Es : Exa Z h0 o "java/lang/String") (Fc : Fld Z h0 o "java/lang/String" "coder" "B" (.int 0)) (Fv : Fld Z h0 o "java/lang/String" "value" "[B" (.ref ar)) (Ea : Exa Z h0 ar "[B") (Va : Arv Z h0 ar kk .byte (4 : Int32) [(.int v1), (.int v2), (.int v3), (.int v4)] (.int 0)) :
    own_MW l Z ((⟨"java/lang/String", "substring", "(II)Ljava/lang/String;"⟩ : MethodName)) jdk_42_method_92_code 5 (some (.object "java/lang/String")) ({ frames := 2, cells := 2, slots := 4, locals := 29 } : Room) #[(.ref o), (.int 0), (.int 0)] h0 (Qsb40 Z o ar kk v1 v2 v3 v4 cs sf iso u8 h0 n0) := by
  refine own_mkW (plainFor_of_name pn_java_lang_String) ?_
  intro p e s m below meth c s₁ X0 hx hby hml hown hnm hret hlk hZ e0 hCH
  have hEL := own_hEL hw
  have N0 := Fr.nil n0
  have K0 := Keep.refl h0 []
  rw [ef_RII5 m o (0 : Int32) (0 : Int32)]
  refine own_vFW m s₁ 1 #[vR o, vI (0 : Int32), vI (0 : Int32), .unset, .unset] [(.ref o)] (fun t k => XS.aloadN X0.here hx rfl (hb hby d26_0) rfl rfl k) ?_
  obtain ⟨_, T1, L1, X1, hQ1, st1⟩ := own_callV X0 hx hZ (y := (⟨"java/lang/String", "length", "()I"⟩ : MethodName)) (W := 0) (C := "java/lang/String") hown (hw _ (own_mt 54 rfl)) (hw _ (own_mt 55 rfl)) (hw _ (own_mt 57 rfl)) (hw _ (own_mt 56 rfl)) (hw _ (own_mt 12 rfl)) (hw _ (own_mt 58 rfl)) (by decide) (rm_Qln4 l Z a0 hw o ar kk v1 v2 v3 v4 cs sf iso u8 h0 n0 Z0 Od SS Es Fc Fv Va) (by decide) (by decide) e0 Es (g := (mkF m 1 #[vR o, vI (0 : Int32), vI (0 : Int32), .unset, .unset] [(.ref o)])) rfl (by rw [hml]; rfl) (argsL := []) (rest := []) rfl (lenOf pd___I rfl) rfl own_w0 (hb hby d26_1) (by decide) (by decide)
  obtain ⟨rfl, N1q, e1⟩ := hQ1
  have N1 := Fr.app N0 N1q
  refine own_vFW m T1 4 #[vR o, vI (0 : Int32), vI (0 : Int32), .unset, .unset] [(.int 4)] (fun t k => st1 t k) ?_
  refine own_vFW m T1 5 #[vR o, vI (0 : Int32), vI (0 : Int32), vI (4 : Int32), .unset] [] (fun t k => XS.istoreN X1.here hx rfl (hb hby d26_4) rfl (l' := #[vR o, vI (0 : Int32), vI (0 : Int32), vI (4 : Int32), .unset]) rfl k) ?_
  refine own_vFW m T1 6 #[vR o, vI (0 : Int32), vI (0 : Int32), vI (4 : Int32), .unset] [(.int 0)] (fun t k => XS.iloadN X1.here hx rfl (hb hby d26_5) rfl k) ?_
  refine own_vFW m T1 7 #[vR o, vI (0 : Int32), vI (0 : Int32), vI (4 : Int32), .unset] [(.int 0), (.int 0)] (fun t k => XS.iloadN X1.here hx rfl (hb hby d26_6) rfl k) ?_
  refine own_vFW m T1 8 #[vR o, vI (0 : Int32), vI (0 : Int32), vI (4 : Int32), .unset] [(.int 4), (.int 0), (.int 0)] (fun t k => XS.iloadN X1.here hx rfl (hb hby d26_7) rfl k) ?_
  obtain ⟨_, T2, L2, X2, hQ2, st2⟩ := own_callS X1 hx hZ (y := (⟨"java/lang/String", "checkBoundsBeginEnd", "(III)V"⟩ : MethodName)) (W := 0) hown (hw _ (own_mt 84 rfl)) (hw _ (own_mt 85 rfl)) (hw _ (own_mt 12 rfl)) (hw _ (own_mt 86 rfl)) (by decide) (rm_Qcb l Z a0 hw (0 : Int32) (4 : Int32) cs sf iso u8 h0 n0 Z0 Od SS (by decide) (by decide)) (by decide) (by decide) e1 (g := (mkF m 8 #[vR o, vI (0 : Int32), vI (0 : Int32), vI (4 : Int32), .unset] [(.int 4), (.int 0), (.int 0)])) rfl (by rw [hml]; rfl) (argsL := [(.int 0), (.int 0), (.int 4)]) (rest := []) rfl (lenOf pd_III__V rfl) rfl own_w0 (hb hby d26_8) (by decide) (by decide)
  obtain ⟨rfl, N2q, e2⟩ := hQ2
  have N2 := Fr.app N1 N2q
  refine own_vFW m T2 11 #[vR o, vI (0 : Int32), vI (0 : Int32), vI (4 : Int32), .unset] [] (fun t k => st2 t k) ?_
  refine own_vFW m T2 12 #[vR o, vI (0 : Int32), vI (0 : Int32), vI (4 : Int32), .unset] [(.int 0)] (fun t k => XS.iloadN X2.here hx rfl (hb hby d26_11) rfl k) ?_
  refine own_vFW m T2 15 #[vR o, vI (0 : Int32), vI (0 : Int32), vI (4 : Int32), .unset] [] (fun t k => XS.ifNo X2.here hx rfl (hb hby d26_12) rfl ((if0 _ _).trans (teq (by decide : ((0 : Int32) = (0 : Int32)))).2) k) ?_
  refine own_vFW m T2 16 #[vR o, vI (0 : Int32), vI (0 : Int32), vI (4 : Int32), .unset] [(.int 0)] (fun t k => XS.iloadN X2.here hx rfl (hb hby d26_15) rfl k) ?_
  refine own_vFW m T2 17 #[vR o, vI (0 : Int32), vI (0 : Int32), vI (4 : Int32), .unset] [(.int 4), (.int 0)] (fun t k => XS.iloadN X2.here hx rfl (hb hby d26_16) rfl k) ?_
  refine own_vFW m T2 22 #[vR o, vI (0 : Int32), vI (0 : Int32), vI (4 : Int32), .unset] [] (fun t k => XS.icmpYes X2.here hx rfl (pc0 := 17) (pc' := 22) rfl (hb hby d26_17) rfl (feq (by decide : ¬ ((0 : Int32) = (4 : Int32)))).2 (by decide) (by decide) k) ?_
  refine own_vFW m T2 23 #[vR o, vI (0 : Int32), vI (0 : Int32), vI (4 : Int32), .unset] [(.int 0)] (fun t k => XS.iloadN X2.here hx rfl (hb hby d26_22) rfl k) ?_
  refine own_vFW m T2 24 #[vR o, vI (0 : Int32), vI (0 : Int32), vI (4 : Int32), .unset] [(.int 0), (.int 0)] (fun t k => XS.iloadN X2.here hx rfl (hb hby d26_23) rfl k) ?_
  refine own_vFW m T2 25 #[vR o, vI (0 : Int32), vI (0 : Int32), vI (4 : Int32), .unset] [(.int ((0 : Int32) - (0 : Int32)))] (fun t k => XS.isub X2.here hx rfl (hb hby d26_24) rfl k) ?_
  rw [show ((0 : Int32) - (0 : Int32)) = (0 : Int32) from by decide]
  refine own_vFW m T2 27 #[vR o, vI (0 : Int32), vI (0 : Int32), vI (4 : Int32), vI (0 : Int32)] [] (fun t k => XS.istore X2.here hx rfl (hb hby d26_25) rfl (l' := #[vR o, vI (0 : Int32), vI (0 : Int32), vI (4 : Int32), vI (0 : Int32)]) rfl k) ?_
  refine own_vFW m T2 28 #[vR o, vI (0 : Int32), vI (0 : Int32), vI (4 : Int32), vI (0 : Int32)] [(.ref o)] (fun t k => XS.aloadN X2.here hx rfl (hb hby d26_27) rfl rfl k) ?_
  obtain ⟨_, T3, L3, X3, hQ3, st3⟩ := own_callV X2 hx hZ (y := (⟨"java/lang/String", "isLatin1", "()Z"⟩ : MethodName)) (W := 0) (C := "java/lang/String") hown (hw _ (own_mt 48 rfl)) (hw _ (own_mt 49 rfl)) (hw _ (own_mt 51 rfl)) (hw _ (own_mt 50 rfl)) (hw _ (own_mt 12 rfl)) (hw _ (own_mt 52 rfl)) (by decide) (rm_Ql1 l Z a0 hw o ar cs sf iso u8 h0 n0 Z0 Od SS Es Fc Fv) (by decide) (by decide) e2 Es (g := (mkF m 28 #[vR o, vI (0 : Int32), vI (0 : Int32), vI (4 : Int32), vI (0 : Int32)] [(.ref o)])) rfl (by rw [hml]; rfl) (argsL := []) (rest := []) rfl (lenOf pd___Z rfl) rfl own_w0 (hb hby d26_28) (by decide) (by decide)
  obtain ⟨rfl, N3q, e3⟩ := hQ3
  have N3 := Fr.app N2 N3q
  refine own_vFW m T3 31 #[vR o, vI (0 : Int32), vI (0 : Int32), vI (4 : Int32), vI (0 : Int32)] [(.int 1)] (fun t k => st3 t k) ?_
  refine own_vFW m T3 34 #[vR o, vI (0 : Int32), vI (0 : Int32), vI (4 : Int32), vI (0 : Int32)] [] (fun t k => XS.ifNo X3.here hx rfl (hb hby d26_31) rfl ((if0 _ _).trans (feq (by decide : ¬ ((1 : Int32) = (0 : Int32)))).1) k) ?_
  refine own_vFW m T3 35 #[vR o, vI (0 : Int32), vI (0 : Int32), vI (4 : Int32), vI (0 : Int32)] [(.ref o)] (fun t k => XS.aloadN X3.here hx rfl (hb hby d26_34) rfl rfl k) ?_
  obtain ⟨T4, X4, e4, st4⟩ := getF (host := "") X3 hx hZ hown (Or.inl (hw _ (own_mt 36 rfl))) Via.refl e3 Fv (g := (mkF m 35 #[vR o, vI (0 : Int32), vI (0 : Int32), vI (4 : Int32), vI (0 : Int32)] [(.ref o)])) rfl rfl (hb hby d26_35)
  refine own_vFW m T4 38 #[vR o, vI (0 : Int32), vI (0 : Int32), vI (4 : Int32), vI (0 : Int32)] [(.ref ar)] (fun t k => st4 t k) ?_
  refine own_vFW m T4 39 #[vR o, vI (0 : Int32), vI (0 : Int32), vI (4 : Int32), vI (0 : Int32)] [(.int 0), (.ref ar)] (fun t k => XS.iloadN X4.here hx rfl (hb hby d26_38) rfl k) ?_
  refine own_vFW m T4 41 #[vR o, vI (0 : Int32), vI (0 : Int32), vI (4 : Int32), vI (0 : Int32)] [(.int 0), (.int 0), (.ref ar)] (fun t k => XS.iload X4.here hx rfl (hb hby d26_39) rfl k) ?_
  obtain ⟨_, T5, L5, X5, hS, hZ, hown, hQ5, st5⟩ := own_callSW X4 hx hZ hEL hCH (y := (⟨"java/lang/StringLatin1", "newString", "([BII)Ljava/lang/String;"⟩ : MethodName)) (W := 0) hown (hw _ (own_mt 113 rfl)) (hw _ (own_mt 114 rfl)) (hw _ (own_mt 66 rfl)) (hw _ (own_mt 115 rfl)) (by decide) (rm_Qns0 l Z a0 hw ar h0 n0 Z0 Od) (by decide) (by decide) e4 (g := (mkF m 41 #[vR o, vI (0 : Int32), vI (0 : Int32), vI (4 : Int32), vI (0 : Int32)] [(.int 0), (.int 0), (.ref ar)])) rfl (by rw [hml]; rfl) (argsL := [(.ref ar), (.int 0), (.int 0)]) (rest := []) rfl (lenOf pd_ABII__Ljava_lang_String_ rfl) rfl own_w0 (hb hby d26_41) (by decide) (by decide)
  have hk5 : T5.heap.size ≤ T5.heap.size := Nat.le_refl _
  obtain ⟨b5r, rfl, N5q, K5q, Es5, Fc5, b5s, kb5, Fv5, Va5⟩ := hQ5
  have N5 := Fr.app N3 N5q
  have K17 := K0.trans K5q all0
  refine own_vFW m T5 44 #[vR o, vI (0 : Int32), vI (0 : Int32), vI (4 : Int32), vI (0 : Int32)] [(.ref b5r)] (fun t k => st5 t k) ?_
  refine own_vFW m T5 57 #[vR o, vI (0 : Int32), vI (0 : Int32), vI (4 : Int32), vI (0 : Int32)] [(.ref b5r)] (fun t k => XS.goto X5.here hx rfl (pc0 := 44) (pc' := 57) rfl (hb hby d26_44) (by decide) (by decide) k) ?_
  exact own_retW (s := s) X5 hS (by exact hk5) (v := some (.ref b5r)) (fun h => by rw [hret] at h; cases h) hlk (fun fs hr => retOut X5 hx (t := (.object "java/lang/String")) hret rfl (Or.inr (Or.inr (Or.inr (Or.inr ⟨rfl, rfl, rfl⟩)))) (hb hby d26_57) hr) (by exact ⟨b5r, rfl, N5, K17, Es5, Fc5, b5s, _, Fv5, Va5⟩) (by decide) (by decide)
def Qsb41 (Z : State) (o ar : Addr) (kk : ClassId) (v1 v2 v3 v4 : Int32) (cs : Int32) (sf : Value) (iso u8 : Addr) (h0 : Heap) (n0 : Nat) (v : Option Value) (h : Heap) (L : List Loc) : Prop := ∃ r, v = some (.ref r) ∧ Fr n0 L ∧ Keep h0 h [] ∧ Exa Z h r "java/lang/String" ∧ Fld Z h r "java/lang/String" "coder" "B" (.int 0) ∧ ∃ b kb, Fld Z h r "java/lang/String" "value" "[B" (.ref b) ∧ Exa Z h b "[B" ∧ Arv Z h b kb .byte (1 : Int32) [.int v1] (.int 0)
set_option maxRecDepth 65536 in
set_option maxHeartbeats 40000000 in
theorem rm_Qsb41 (l : Launch) (Z : State) (a0 : Array Value) (hw : ∀ d ∈ tables_1, d.before a0 Z = true) (o ar : Addr) (kk : ClassId) (v1 v2 v3 v4 : Int32) (cs : Int32) (sf : Value) (iso u8 : Addr) (h0 : Heap) (n0 : Nat) (Z0 : n0 ≤ h0.size) (Od : Old Z n0 h0) (SS : own_SS Z cs sf iso u8) (Es : Exa Z h0 o "java/lang/String") (Fc : Fld Z h0 o "java/lang/String" "coder" "B" (.int 0)) (Fv : Fld Z h0 o "java/lang/String" "value" "[B" (.ref ar)) (Ea : Exa Z h0 ar "[B") (Va : Arv Z h0 ar kk .byte (4 : Int32) [(.int v1), (.int v2), (.int v3), (.int v4)] (.int 0)) :
    own_MG l Z ((⟨"java/lang/String", "substring", "(II)Ljava/lang/String;"⟩ : MethodName)) jdk_42_method_92_code 5 (some (.object "java/lang/String")) ({ frames := 4, cells := 2, slots := 5, locals := 106 } : Room) #[(.ref o), (.int 0), (.int 1)] h0 (Qsb41 Z o ar kk v1 v2 v3 v4 cs sf iso u8 h0 n0) := by
  refine own_mkG (plainFor_of_name pn_java_lang_String) ?_
  intro p e s m below meth c s₁ X0 hx hby hml hown hnm hret hlk hZ e0
  have N0 := Fr.nil n0
  have K0 := Keep.refl h0 []
  rw [ef_RII5 m o (0 : Int32) (1 : Int32)]
  refine own_vF m s₁ 1 #[vR o, vI (0 : Int32), vI (1 : Int32), .unset, .unset] [(.ref o)] (fun t k => XS.aloadN X0.here hx rfl (hb hby d26_0) rfl rfl k) ?_
  obtain ⟨_, T1, L1, X1, hQ1, st1⟩ := own_callV X0 hx hZ (y := (⟨"java/lang/String", "length", "()I"⟩ : MethodName)) (W := 0) (C := "java/lang/String") hown (hw _ (own_mt 54 rfl)) (hw _ (own_mt 55 rfl)) (hw _ (own_mt 57 rfl)) (hw _ (own_mt 56 rfl)) (hw _ (own_mt 12 rfl)) (hw _ (own_mt 58 rfl)) (by decide) (rm_Qln4 l Z a0 hw o ar kk v1 v2 v3 v4 cs sf iso u8 h0 n0 Z0 Od SS Es Fc Fv Va) (by decide) (by decide) e0 Es (g := (mkF m 1 #[vR o, vI (0 : Int32), vI (1 : Int32), .unset, .unset] [(.ref o)])) rfl (by rw [hml]; rfl) (argsL := []) (rest := []) rfl (lenOf pd___I rfl) rfl own_w0 (hb hby d26_1) (by decide) (by decide)
  obtain ⟨rfl, N1q, e1⟩ := hQ1
  have N1 := Fr.app N0 N1q
  refine own_vF m T1 4 #[vR o, vI (0 : Int32), vI (1 : Int32), .unset, .unset] [(.int 4)] (fun t k => st1 t k) ?_
  refine own_vF m T1 5 #[vR o, vI (0 : Int32), vI (1 : Int32), vI (4 : Int32), .unset] [] (fun t k => XS.istoreN X1.here hx rfl (hb hby d26_4) rfl (l' := #[vR o, vI (0 : Int32), vI (1 : Int32), vI (4 : Int32), .unset]) rfl k) ?_
  refine own_vF m T1 6 #[vR o, vI (0 : Int32), vI (1 : Int32), vI (4 : Int32), .unset] [(.int 0)] (fun t k => XS.iloadN X1.here hx rfl (hb hby d26_5) rfl k) ?_
  refine own_vF m T1 7 #[vR o, vI (0 : Int32), vI (1 : Int32), vI (4 : Int32), .unset] [(.int 1), (.int 0)] (fun t k => XS.iloadN X1.here hx rfl (hb hby d26_6) rfl k) ?_
  refine own_vF m T1 8 #[vR o, vI (0 : Int32), vI (1 : Int32), vI (4 : Int32), .unset] [(.int 4), (.int 1), (.int 0)] (fun t k => XS.iloadN X1.here hx rfl (hb hby d26_7) rfl k) ?_
  obtain ⟨_, T2, L2, X2, hQ2, st2⟩ := own_callS X1 hx hZ (y := (⟨"java/lang/String", "checkBoundsBeginEnd", "(III)V"⟩ : MethodName)) (W := 0) hown (hw _ (own_mt 84 rfl)) (hw _ (own_mt 85 rfl)) (hw _ (own_mt 12 rfl)) (hw _ (own_mt 86 rfl)) (by decide) (rm_Qcb l Z a0 hw (1 : Int32) (4 : Int32) cs sf iso u8 h0 n0 Z0 Od SS (by decide) (by decide)) (by decide) (by decide) e1 (g := (mkF m 8 #[vR o, vI (0 : Int32), vI (1 : Int32), vI (4 : Int32), .unset] [(.int 4), (.int 1), (.int 0)])) rfl (by rw [hml]; rfl) (argsL := [(.int 0), (.int 1), (.int 4)]) (rest := []) rfl (lenOf pd_III__V rfl) rfl own_w0 (hb hby d26_8) (by decide) (by decide)
  obtain ⟨rfl, N2q, e2⟩ := hQ2
  have N2 := Fr.app N1 N2q
  refine own_vF m T2 11 #[vR o, vI (0 : Int32), vI (1 : Int32), vI (4 : Int32), .unset] [] (fun t k => st2 t k) ?_
  refine own_vF m T2 12 #[vR o, vI (0 : Int32), vI (1 : Int32), vI (4 : Int32), .unset] [(.int 0)] (fun t k => XS.iloadN X2.here hx rfl (hb hby d26_11) rfl k) ?_
  refine own_vF m T2 15 #[vR o, vI (0 : Int32), vI (1 : Int32), vI (4 : Int32), .unset] [] (fun t k => XS.ifNo X2.here hx rfl (hb hby d26_12) rfl ((if0 _ _).trans (teq (by decide : ((0 : Int32) = (0 : Int32)))).2) k) ?_
  refine own_vF m T2 16 #[vR o, vI (0 : Int32), vI (1 : Int32), vI (4 : Int32), .unset] [(.int 1)] (fun t k => XS.iloadN X2.here hx rfl (hb hby d26_15) rfl k) ?_
  refine own_vF m T2 17 #[vR o, vI (0 : Int32), vI (1 : Int32), vI (4 : Int32), .unset] [(.int 4), (.int 1)] (fun t k => XS.iloadN X2.here hx rfl (hb hby d26_16) rfl k) ?_
  refine own_vF m T2 22 #[vR o, vI (0 : Int32), vI (1 : Int32), vI (4 : Int32), .unset] [] (fun t k => XS.icmpYes X2.here hx rfl (pc0 := 17) (pc' := 22) rfl (hb hby d26_17) rfl (feq (by decide : ¬ ((1 : Int32) = (4 : Int32)))).2 (by decide) (by decide) k) ?_
  refine own_vF m T2 23 #[vR o, vI (0 : Int32), vI (1 : Int32), vI (4 : Int32), .unset] [(.int 1)] (fun t k => XS.iloadN X2.here hx rfl (hb hby d26_22) rfl k) ?_
  refine own_vF m T2 24 #[vR o, vI (0 : Int32), vI (1 : Int32), vI (4 : Int32), .unset] [(.int 0), (.int 1)] (fun t k => XS.iloadN X2.here hx rfl (hb hby d26_23) rfl k) ?_
  refine own_vF m T2 25 #[vR o, vI (0 : Int32), vI (1 : Int32), vI (4 : Int32), .unset] [(.int ((1 : Int32) - (0 : Int32)))] (fun t k => XS.isub X2.here hx rfl (hb hby d26_24) rfl k) ?_
  rw [show ((1 : Int32) - (0 : Int32)) = (1 : Int32) from by decide]
  refine own_vF m T2 27 #[vR o, vI (0 : Int32), vI (1 : Int32), vI (4 : Int32), vI (1 : Int32)] [] (fun t k => XS.istore X2.here hx rfl (hb hby d26_25) rfl (l' := #[vR o, vI (0 : Int32), vI (1 : Int32), vI (4 : Int32), vI (1 : Int32)]) rfl k) ?_
  refine own_vF m T2 28 #[vR o, vI (0 : Int32), vI (1 : Int32), vI (4 : Int32), vI (1 : Int32)] [(.ref o)] (fun t k => XS.aloadN X2.here hx rfl (hb hby d26_27) rfl rfl k) ?_
  obtain ⟨_, T3, L3, X3, hQ3, st3⟩ := own_callV X2 hx hZ (y := (⟨"java/lang/String", "isLatin1", "()Z"⟩ : MethodName)) (W := 0) (C := "java/lang/String") hown (hw _ (own_mt 48 rfl)) (hw _ (own_mt 49 rfl)) (hw _ (own_mt 51 rfl)) (hw _ (own_mt 50 rfl)) (hw _ (own_mt 12 rfl)) (hw _ (own_mt 52 rfl)) (by decide) (rm_Ql1 l Z a0 hw o ar cs sf iso u8 h0 n0 Z0 Od SS Es Fc Fv) (by decide) (by decide) e2 Es (g := (mkF m 28 #[vR o, vI (0 : Int32), vI (1 : Int32), vI (4 : Int32), vI (1 : Int32)] [(.ref o)])) rfl (by rw [hml]; rfl) (argsL := []) (rest := []) rfl (lenOf pd___Z rfl) rfl own_w0 (hb hby d26_28) (by decide) (by decide)
  obtain ⟨rfl, N3q, e3⟩ := hQ3
  have N3 := Fr.app N2 N3q
  refine own_vF m T3 31 #[vR o, vI (0 : Int32), vI (1 : Int32), vI (4 : Int32), vI (1 : Int32)] [(.int 1)] (fun t k => st3 t k) ?_
  refine own_vF m T3 34 #[vR o, vI (0 : Int32), vI (1 : Int32), vI (4 : Int32), vI (1 : Int32)] [] (fun t k => XS.ifNo X3.here hx rfl (hb hby d26_31) rfl ((if0 _ _).trans (feq (by decide : ¬ ((1 : Int32) = (0 : Int32)))).1) k) ?_
  refine own_vF m T3 35 #[vR o, vI (0 : Int32), vI (1 : Int32), vI (4 : Int32), vI (1 : Int32)] [(.ref o)] (fun t k => XS.aloadN X3.here hx rfl (hb hby d26_34) rfl rfl k) ?_
  obtain ⟨T4, X4, e4, st4⟩ := getF (host := "") X3 hx hZ hown (Or.inl (hw _ (own_mt 36 rfl))) Via.refl e3 Fv (g := (mkF m 35 #[vR o, vI (0 : Int32), vI (1 : Int32), vI (4 : Int32), vI (1 : Int32)] [(.ref o)])) rfl rfl (hb hby d26_35)
  refine own_vF m T4 38 #[vR o, vI (0 : Int32), vI (1 : Int32), vI (4 : Int32), vI (1 : Int32)] [(.ref ar)] (fun t k => st4 t k) ?_
  refine own_vF m T4 39 #[vR o, vI (0 : Int32), vI (1 : Int32), vI (4 : Int32), vI (1 : Int32)] [(.int 0), (.ref ar)] (fun t k => XS.iloadN X4.here hx rfl (hb hby d26_38) rfl k) ?_
  refine own_vF m T4 41 #[vR o, vI (0 : Int32), vI (1 : Int32), vI (4 : Int32), vI (1 : Int32)] [(.int 1), (.int 0), (.ref ar)] (fun t k => XS.iload X4.here hx rfl (hb hby d26_39) rfl k) ?_
  obtain ⟨_, T5, L5, X5, hQ5, st5⟩ := own_callS X4 hx hZ (y := (⟨"java/lang/StringLatin1", "newString", "([BII)Ljava/lang/String;"⟩ : MethodName)) (W := 0) hown (hw _ (own_mt 113 rfl)) (hw _ (own_mt 114 rfl)) (hw _ (own_mt 66 rfl)) (hw _ (own_mt 115 rfl)) (by decide) (rm_Qns41 l Z a0 hw ar kk v1 v2 v3 v4 h0 n0 Z0 Ea Va) (by decide) (by decide) e4 (g := (mkF m 41 #[vR o, vI (0 : Int32), vI (1 : Int32), vI (4 : Int32), vI (1 : Int32)] [(.int 1), (.int 0), (.ref ar)])) rfl (by rw [hml]; rfl) (argsL := [(.ref ar), (.int 0), (.int 1)]) (rest := []) rfl (lenOf pd_ABII__Ljava_lang_String_ rfl) rfl own_w0 (hb hby d26_41) (by decide) (by decide)
  obtain ⟨b5r, rfl, N5q, K5q, Es5, Fc5, b5s, kb5, Fv5, Eb5, Va5⟩ := hQ5
  have N5 := Fr.app N3 N5q
  have K17 := K0.trans K5q all0
  refine own_vF m T5 44 #[vR o, vI (0 : Int32), vI (1 : Int32), vI (4 : Int32), vI (1 : Int32)] [(.ref b5r)] (fun t k => st5 t k) ?_
  refine own_vF m T5 57 #[vR o, vI (0 : Int32), vI (1 : Int32), vI (4 : Int32), vI (1 : Int32)] [(.ref b5r)] (fun t k => XS.goto X5.here hx rfl (pc0 := 44) (pc' := 57) rfl (hb hby d26_44) (by decide) (by decide) k) ?_
  exact own_ret X5 (v := some (.ref b5r)) (fun h => by rw [hret] at h; cases h) hlk (fun fs hr => retOut X5 hx (t := (.object "java/lang/String")) hret rfl (Or.inr (Or.inr (Or.inr (Or.inr ⟨rfl, rfl, rfl⟩)))) (hb hby d26_57) hr) (by exact ⟨b5r, rfl, N5, K17, Es5, Fc5, b5s, _, Fv5, Eb5, Va5⟩) (by decide) (by decide)
def Qsb42 (Z : State) (o ar : Addr) (kk : ClassId) (v1 v2 v3 v4 : Int32) (cs : Int32) (sf : Value) (iso u8 : Addr) (h0 : Heap) (n0 : Nat) (v : Option Value) (h : Heap) (L : List Loc) : Prop := ∃ r, v = some (.ref r) ∧ Fr n0 L ∧ Keep h0 h [] ∧ Exa Z h r "java/lang/String" ∧ Fld Z h r "java/lang/String" "coder" "B" (.int 0) ∧ ∃ b kb, Fld Z h r "java/lang/String" "value" "[B" (.ref b) ∧ Exa Z h b "[B" ∧ Arv Z h b kb .byte (2 : Int32) [.int v1, .int v2] (.int 0)
set_option maxRecDepth 65536 in
set_option maxHeartbeats 40000000 in
theorem rm_Qsb42 (l : Launch) (Z : State) (a0 : Array Value) (hw : ∀ d ∈ tables_1, d.before a0 Z = true) (o ar : Addr) (kk : ClassId) (v1 v2 v3 v4 : Int32) (cs : Int32) (sf : Value) (iso u8 : Addr) (h0 : Heap) (n0 : Nat) (Z0 : n0 ≤ h0.size) (Od : Old Z n0 h0) (SS : own_SS Z cs sf iso u8) (Es : Exa Z h0 o "java/lang/String") (Fc : Fld Z h0 o "java/lang/String" "coder" "B" (.int 0)) (Fv : Fld Z h0 o "java/lang/String" "value" "[B" (.ref ar)) (Ea : Exa Z h0 ar "[B") (Va : Arv Z h0 ar kk .byte (4 : Int32) [(.int v1), (.int v2), (.int v3), (.int v4)] (.int 0)) :
    own_MG l Z ((⟨"java/lang/String", "substring", "(II)Ljava/lang/String;"⟩ : MethodName)) jdk_42_method_92_code 5 (some (.object "java/lang/String")) ({ frames := 4, cells := 2, slots := 6, locals := 106 } : Room) #[(.ref o), (.int 0), (.int 2)] h0 (Qsb42 Z o ar kk v1 v2 v3 v4 cs sf iso u8 h0 n0) := by
  refine own_mkG (plainFor_of_name pn_java_lang_String) ?_
  intro p e s m below meth c s₁ X0 hx hby hml hown hnm hret hlk hZ e0
  have N0 := Fr.nil n0
  have K0 := Keep.refl h0 []
  rw [ef_RII5 m o (0 : Int32) (2 : Int32)]
  refine own_vF m s₁ 1 #[vR o, vI (0 : Int32), vI (2 : Int32), .unset, .unset] [(.ref o)] (fun t k => XS.aloadN X0.here hx rfl (hb hby d26_0) rfl rfl k) ?_
  obtain ⟨_, T1, L1, X1, hQ1, st1⟩ := own_callV X0 hx hZ (y := (⟨"java/lang/String", "length", "()I"⟩ : MethodName)) (W := 0) (C := "java/lang/String") hown (hw _ (own_mt 54 rfl)) (hw _ (own_mt 55 rfl)) (hw _ (own_mt 57 rfl)) (hw _ (own_mt 56 rfl)) (hw _ (own_mt 12 rfl)) (hw _ (own_mt 58 rfl)) (by decide) (rm_Qln4 l Z a0 hw o ar kk v1 v2 v3 v4 cs sf iso u8 h0 n0 Z0 Od SS Es Fc Fv Va) (by decide) (by decide) e0 Es (g := (mkF m 1 #[vR o, vI (0 : Int32), vI (2 : Int32), .unset, .unset] [(.ref o)])) rfl (by rw [hml]; rfl) (argsL := []) (rest := []) rfl (lenOf pd___I rfl) rfl own_w0 (hb hby d26_1) (by decide) (by decide)
  obtain ⟨rfl, N1q, e1⟩ := hQ1
  have N1 := Fr.app N0 N1q
  refine own_vF m T1 4 #[vR o, vI (0 : Int32), vI (2 : Int32), .unset, .unset] [(.int 4)] (fun t k => st1 t k) ?_
  refine own_vF m T1 5 #[vR o, vI (0 : Int32), vI (2 : Int32), vI (4 : Int32), .unset] [] (fun t k => XS.istoreN X1.here hx rfl (hb hby d26_4) rfl (l' := #[vR o, vI (0 : Int32), vI (2 : Int32), vI (4 : Int32), .unset]) rfl k) ?_
  refine own_vF m T1 6 #[vR o, vI (0 : Int32), vI (2 : Int32), vI (4 : Int32), .unset] [(.int 0)] (fun t k => XS.iloadN X1.here hx rfl (hb hby d26_5) rfl k) ?_
  refine own_vF m T1 7 #[vR o, vI (0 : Int32), vI (2 : Int32), vI (4 : Int32), .unset] [(.int 2), (.int 0)] (fun t k => XS.iloadN X1.here hx rfl (hb hby d26_6) rfl k) ?_
  refine own_vF m T1 8 #[vR o, vI (0 : Int32), vI (2 : Int32), vI (4 : Int32), .unset] [(.int 4), (.int 2), (.int 0)] (fun t k => XS.iloadN X1.here hx rfl (hb hby d26_7) rfl k) ?_
  obtain ⟨_, T2, L2, X2, hQ2, st2⟩ := own_callS X1 hx hZ (y := (⟨"java/lang/String", "checkBoundsBeginEnd", "(III)V"⟩ : MethodName)) (W := 0) hown (hw _ (own_mt 84 rfl)) (hw _ (own_mt 85 rfl)) (hw _ (own_mt 12 rfl)) (hw _ (own_mt 86 rfl)) (by decide) (rm_Qcb l Z a0 hw (2 : Int32) (4 : Int32) cs sf iso u8 h0 n0 Z0 Od SS (by decide) (by decide)) (by decide) (by decide) e1 (g := (mkF m 8 #[vR o, vI (0 : Int32), vI (2 : Int32), vI (4 : Int32), .unset] [(.int 4), (.int 2), (.int 0)])) rfl (by rw [hml]; rfl) (argsL := [(.int 0), (.int 2), (.int 4)]) (rest := []) rfl (lenOf pd_III__V rfl) rfl own_w0 (hb hby d26_8) (by decide) (by decide)
  obtain ⟨rfl, N2q, e2⟩ := hQ2
  have N2 := Fr.app N1 N2q
  refine own_vF m T2 11 #[vR o, vI (0 : Int32), vI (2 : Int32), vI (4 : Int32), .unset] [] (fun t k => st2 t k) ?_
  refine own_vF m T2 12 #[vR o, vI (0 : Int32), vI (2 : Int32), vI (4 : Int32), .unset] [(.int 0)] (fun t k => XS.iloadN X2.here hx rfl (hb hby d26_11) rfl k) ?_
  refine own_vF m T2 15 #[vR o, vI (0 : Int32), vI (2 : Int32), vI (4 : Int32), .unset] [] (fun t k => XS.ifNo X2.here hx rfl (hb hby d26_12) rfl ((if0 _ _).trans (teq (by decide : ((0 : Int32) = (0 : Int32)))).2) k) ?_
  refine own_vF m T2 16 #[vR o, vI (0 : Int32), vI (2 : Int32), vI (4 : Int32), .unset] [(.int 2)] (fun t k => XS.iloadN X2.here hx rfl (hb hby d26_15) rfl k) ?_
  refine own_vF m T2 17 #[vR o, vI (0 : Int32), vI (2 : Int32), vI (4 : Int32), .unset] [(.int 4), (.int 2)] (fun t k => XS.iloadN X2.here hx rfl (hb hby d26_16) rfl k) ?_
  refine own_vF m T2 22 #[vR o, vI (0 : Int32), vI (2 : Int32), vI (4 : Int32), .unset] [] (fun t k => XS.icmpYes X2.here hx rfl (pc0 := 17) (pc' := 22) rfl (hb hby d26_17) rfl (feq (by decide : ¬ ((2 : Int32) = (4 : Int32)))).2 (by decide) (by decide) k) ?_
  refine own_vF m T2 23 #[vR o, vI (0 : Int32), vI (2 : Int32), vI (4 : Int32), .unset] [(.int 2)] (fun t k => XS.iloadN X2.here hx rfl (hb hby d26_22) rfl k) ?_
  refine own_vF m T2 24 #[vR o, vI (0 : Int32), vI (2 : Int32), vI (4 : Int32), .unset] [(.int 0), (.int 2)] (fun t k => XS.iloadN X2.here hx rfl (hb hby d26_23) rfl k) ?_
  refine own_vF m T2 25 #[vR o, vI (0 : Int32), vI (2 : Int32), vI (4 : Int32), .unset] [(.int ((2 : Int32) - (0 : Int32)))] (fun t k => XS.isub X2.here hx rfl (hb hby d26_24) rfl k) ?_
  rw [show ((2 : Int32) - (0 : Int32)) = (2 : Int32) from by decide]
  refine own_vF m T2 27 #[vR o, vI (0 : Int32), vI (2 : Int32), vI (4 : Int32), vI (2 : Int32)] [] (fun t k => XS.istore X2.here hx rfl (hb hby d26_25) rfl (l' := #[vR o, vI (0 : Int32), vI (2 : Int32), vI (4 : Int32), vI (2 : Int32)]) rfl k) ?_
  refine own_vF m T2 28 #[vR o, vI (0 : Int32), vI (2 : Int32), vI (4 : Int32), vI (2 : Int32)] [(.ref o)] (fun t k => XS.aloadN X2.here hx rfl (hb hby d26_27) rfl rfl k) ?_
  obtain ⟨_, T3, L3, X3, hQ3, st3⟩ := own_callV X2 hx hZ (y := (⟨"java/lang/String", "isLatin1", "()Z"⟩ : MethodName)) (W := 0) (C := "java/lang/String") hown (hw _ (own_mt 48 rfl)) (hw _ (own_mt 49 rfl)) (hw _ (own_mt 51 rfl)) (hw _ (own_mt 50 rfl)) (hw _ (own_mt 12 rfl)) (hw _ (own_mt 52 rfl)) (by decide) (rm_Ql1 l Z a0 hw o ar cs sf iso u8 h0 n0 Z0 Od SS Es Fc Fv) (by decide) (by decide) e2 Es (g := (mkF m 28 #[vR o, vI (0 : Int32), vI (2 : Int32), vI (4 : Int32), vI (2 : Int32)] [(.ref o)])) rfl (by rw [hml]; rfl) (argsL := []) (rest := []) rfl (lenOf pd___Z rfl) rfl own_w0 (hb hby d26_28) (by decide) (by decide)
  obtain ⟨rfl, N3q, e3⟩ := hQ3
  have N3 := Fr.app N2 N3q
  refine own_vF m T3 31 #[vR o, vI (0 : Int32), vI (2 : Int32), vI (4 : Int32), vI (2 : Int32)] [(.int 1)] (fun t k => st3 t k) ?_
  refine own_vF m T3 34 #[vR o, vI (0 : Int32), vI (2 : Int32), vI (4 : Int32), vI (2 : Int32)] [] (fun t k => XS.ifNo X3.here hx rfl (hb hby d26_31) rfl ((if0 _ _).trans (feq (by decide : ¬ ((1 : Int32) = (0 : Int32)))).1) k) ?_
  refine own_vF m T3 35 #[vR o, vI (0 : Int32), vI (2 : Int32), vI (4 : Int32), vI (2 : Int32)] [(.ref o)] (fun t k => XS.aloadN X3.here hx rfl (hb hby d26_34) rfl rfl k) ?_
  obtain ⟨T4, X4, e4, st4⟩ := getF (host := "") X3 hx hZ hown (Or.inl (hw _ (own_mt 36 rfl))) Via.refl e3 Fv (g := (mkF m 35 #[vR o, vI (0 : Int32), vI (2 : Int32), vI (4 : Int32), vI (2 : Int32)] [(.ref o)])) rfl rfl (hb hby d26_35)
  refine own_vF m T4 38 #[vR o, vI (0 : Int32), vI (2 : Int32), vI (4 : Int32), vI (2 : Int32)] [(.ref ar)] (fun t k => st4 t k) ?_
  refine own_vF m T4 39 #[vR o, vI (0 : Int32), vI (2 : Int32), vI (4 : Int32), vI (2 : Int32)] [(.int 0), (.ref ar)] (fun t k => XS.iloadN X4.here hx rfl (hb hby d26_38) rfl k) ?_
  refine own_vF m T4 41 #[vR o, vI (0 : Int32), vI (2 : Int32), vI (4 : Int32), vI (2 : Int32)] [(.int 2), (.int 0), (.ref ar)] (fun t k => XS.iload X4.here hx rfl (hb hby d26_39) rfl k) ?_
  obtain ⟨_, T5, L5, X5, hQ5, st5⟩ := own_callS X4 hx hZ (y := (⟨"java/lang/StringLatin1", "newString", "([BII)Ljava/lang/String;"⟩ : MethodName)) (W := 0) hown (hw _ (own_mt 113 rfl)) (hw _ (own_mt 114 rfl)) (hw _ (own_mt 66 rfl)) (hw _ (own_mt 115 rfl)) (by decide) (rm_Qns42 l Z a0 hw ar kk v1 v2 v3 v4 h0 n0 Z0 Ea Va) (by decide) (by decide) e4 (g := (mkF m 41 #[vR o, vI (0 : Int32), vI (2 : Int32), vI (4 : Int32), vI (2 : Int32)] [(.int 2), (.int 0), (.ref ar)])) rfl (by rw [hml]; rfl) (argsL := [(.ref ar), (.int 0), (.int 2)]) (rest := []) rfl (lenOf pd_ABII__Ljava_lang_String_ rfl) rfl own_w0 (hb hby d26_41) (by decide) (by decide)
  obtain ⟨b5r, rfl, N5q, K5q, Es5, Fc5, b5s, kb5, Fv5, Eb5, Va5⟩ := hQ5
  have N5 := Fr.app N3 N5q
  have K17 := K0.trans K5q all0
  refine own_vF m T5 44 #[vR o, vI (0 : Int32), vI (2 : Int32), vI (4 : Int32), vI (2 : Int32)] [(.ref b5r)] (fun t k => st5 t k) ?_
  refine own_vF m T5 57 #[vR o, vI (0 : Int32), vI (2 : Int32), vI (4 : Int32), vI (2 : Int32)] [(.ref b5r)] (fun t k => XS.goto X5.here hx rfl (pc0 := 44) (pc' := 57) rfl (hb hby d26_44) (by decide) (by decide) k) ?_
  exact own_ret X5 (v := some (.ref b5r)) (fun h => by rw [hret] at h; cases h) hlk (fun fs hr => retOut X5 hx (t := (.object "java/lang/String")) hret rfl (Or.inr (Or.inr (Or.inr (Or.inr ⟨rfl, rfl, rfl⟩)))) (hb hby d26_57) hr) (by exact ⟨b5r, rfl, N5, K17, Es5, Fc5, b5s, _, Fv5, Eb5, Va5⟩) (by decide) (by decide)
def Qsb43 (Z : State) (o ar : Addr) (kk : ClassId) (v1 v2 v3 v4 : Int32) (cs : Int32) (sf : Value) (iso u8 : Addr) (h0 : Heap) (n0 : Nat) (v : Option Value) (h : Heap) (L : List Loc) : Prop := ∃ r, v = some (.ref r) ∧ Fr n0 L ∧ Keep h0 h [] ∧ Exa Z h r "java/lang/String" ∧ Fld Z h r "java/lang/String" "coder" "B" (.int 0) ∧ ∃ b kb, Fld Z h r "java/lang/String" "value" "[B" (.ref b) ∧ Exa Z h b "[B" ∧ Arv Z h b kb .byte (3 : Int32) [.int v1, .int v2, .int v3] (.int 0)
set_option maxRecDepth 65536 in
set_option maxHeartbeats 40000000 in
theorem rm_Qsb43 (l : Launch) (Z : State) (a0 : Array Value) (hw : ∀ d ∈ tables_1, d.before a0 Z = true) (o ar : Addr) (kk : ClassId) (v1 v2 v3 v4 : Int32) (cs : Int32) (sf : Value) (iso u8 : Addr) (h0 : Heap) (n0 : Nat) (Z0 : n0 ≤ h0.size) (Od : Old Z n0 h0) (SS : own_SS Z cs sf iso u8) (Es : Exa Z h0 o "java/lang/String") (Fc : Fld Z h0 o "java/lang/String" "coder" "B" (.int 0)) (Fv : Fld Z h0 o "java/lang/String" "value" "[B" (.ref ar)) (Ea : Exa Z h0 ar "[B") (Va : Arv Z h0 ar kk .byte (4 : Int32) [(.int v1), (.int v2), (.int v3), (.int v4)] (.int 0)) :
    own_MG l Z ((⟨"java/lang/String", "substring", "(II)Ljava/lang/String;"⟩ : MethodName)) jdk_42_method_92_code 5 (some (.object "java/lang/String")) ({ frames := 4, cells := 2, slots := 7, locals := 106 } : Room) #[(.ref o), (.int 0), (.int 3)] h0 (Qsb43 Z o ar kk v1 v2 v3 v4 cs sf iso u8 h0 n0) := by
  refine own_mkG (plainFor_of_name pn_java_lang_String) ?_
  intro p e s m below meth c s₁ X0 hx hby hml hown hnm hret hlk hZ e0
  have N0 := Fr.nil n0
  have K0 := Keep.refl h0 []
  rw [ef_RII5 m o (0 : Int32) (3 : Int32)]
  refine own_vF m s₁ 1 #[vR o, vI (0 : Int32), vI (3 : Int32), .unset, .unset] [(.ref o)] (fun t k => XS.aloadN X0.here hx rfl (hb hby d26_0) rfl rfl k) ?_
  obtain ⟨_, T1, L1, X1, hQ1, st1⟩ := own_callV X0 hx hZ (y := (⟨"java/lang/String", "length", "()I"⟩ : MethodName)) (W := 0) (C := "java/lang/String") hown (hw _ (own_mt 54 rfl)) (hw _ (own_mt 55 rfl)) (hw _ (own_mt 57 rfl)) (hw _ (own_mt 56 rfl)) (hw _ (own_mt 12 rfl)) (hw _ (own_mt 58 rfl)) (by decide) (rm_Qln4 l Z a0 hw o ar kk v1 v2 v3 v4 cs sf iso u8 h0 n0 Z0 Od SS Es Fc Fv Va) (by decide) (by decide) e0 Es (g := (mkF m 1 #[vR o, vI (0 : Int32), vI (3 : Int32), .unset, .unset] [(.ref o)])) rfl (by rw [hml]; rfl) (argsL := []) (rest := []) rfl (lenOf pd___I rfl) rfl own_w0 (hb hby d26_1) (by decide) (by decide)
  obtain ⟨rfl, N1q, e1⟩ := hQ1
  have N1 := Fr.app N0 N1q
  refine own_vF m T1 4 #[vR o, vI (0 : Int32), vI (3 : Int32), .unset, .unset] [(.int 4)] (fun t k => st1 t k) ?_
  refine own_vF m T1 5 #[vR o, vI (0 : Int32), vI (3 : Int32), vI (4 : Int32), .unset] [] (fun t k => XS.istoreN X1.here hx rfl (hb hby d26_4) rfl (l' := #[vR o, vI (0 : Int32), vI (3 : Int32), vI (4 : Int32), .unset]) rfl k) ?_
  refine own_vF m T1 6 #[vR o, vI (0 : Int32), vI (3 : Int32), vI (4 : Int32), .unset] [(.int 0)] (fun t k => XS.iloadN X1.here hx rfl (hb hby d26_5) rfl k) ?_
  refine own_vF m T1 7 #[vR o, vI (0 : Int32), vI (3 : Int32), vI (4 : Int32), .unset] [(.int 3), (.int 0)] (fun t k => XS.iloadN X1.here hx rfl (hb hby d26_6) rfl k) ?_
  refine own_vF m T1 8 #[vR o, vI (0 : Int32), vI (3 : Int32), vI (4 : Int32), .unset] [(.int 4), (.int 3), (.int 0)] (fun t k => XS.iloadN X1.here hx rfl (hb hby d26_7) rfl k) ?_
  obtain ⟨_, T2, L2, X2, hQ2, st2⟩ := own_callS X1 hx hZ (y := (⟨"java/lang/String", "checkBoundsBeginEnd", "(III)V"⟩ : MethodName)) (W := 0) hown (hw _ (own_mt 84 rfl)) (hw _ (own_mt 85 rfl)) (hw _ (own_mt 12 rfl)) (hw _ (own_mt 86 rfl)) (by decide) (rm_Qcb l Z a0 hw (3 : Int32) (4 : Int32) cs sf iso u8 h0 n0 Z0 Od SS (by decide) (by decide)) (by decide) (by decide) e1 (g := (mkF m 8 #[vR o, vI (0 : Int32), vI (3 : Int32), vI (4 : Int32), .unset] [(.int 4), (.int 3), (.int 0)])) rfl (by rw [hml]; rfl) (argsL := [(.int 0), (.int 3), (.int 4)]) (rest := []) rfl (lenOf pd_III__V rfl) rfl own_w0 (hb hby d26_8) (by decide) (by decide)
  obtain ⟨rfl, N2q, e2⟩ := hQ2
  have N2 := Fr.app N1 N2q
  refine own_vF m T2 11 #[vR o, vI (0 : Int32), vI (3 : Int32), vI (4 : Int32), .unset] [] (fun t k => st2 t k) ?_
  refine own_vF m T2 12 #[vR o, vI (0 : Int32), vI (3 : Int32), vI (4 : Int32), .unset] [(.int 0)] (fun t k => XS.iloadN X2.here hx rfl (hb hby d26_11) rfl k) ?_
  refine own_vF m T2 15 #[vR o, vI (0 : Int32), vI (3 : Int32), vI (4 : Int32), .unset] [] (fun t k => XS.ifNo X2.here hx rfl (hb hby d26_12) rfl ((if0 _ _).trans (teq (by decide : ((0 : Int32) = (0 : Int32)))).2) k) ?_
  refine own_vF m T2 16 #[vR o, vI (0 : Int32), vI (3 : Int32), vI (4 : Int32), .unset] [(.int 3)] (fun t k => XS.iloadN X2.here hx rfl (hb hby d26_15) rfl k) ?_
  refine own_vF m T2 17 #[vR o, vI (0 : Int32), vI (3 : Int32), vI (4 : Int32), .unset] [(.int 4), (.int 3)] (fun t k => XS.iloadN X2.here hx rfl (hb hby d26_16) rfl k) ?_
  refine own_vF m T2 22 #[vR o, vI (0 : Int32), vI (3 : Int32), vI (4 : Int32), .unset] [] (fun t k => XS.icmpYes X2.here hx rfl (pc0 := 17) (pc' := 22) rfl (hb hby d26_17) rfl (feq (by decide : ¬ ((3 : Int32) = (4 : Int32)))).2 (by decide) (by decide) k) ?_
  refine own_vF m T2 23 #[vR o, vI (0 : Int32), vI (3 : Int32), vI (4 : Int32), .unset] [(.int 3)] (fun t k => XS.iloadN X2.here hx rfl (hb hby d26_22) rfl k) ?_
  refine own_vF m T2 24 #[vR o, vI (0 : Int32), vI (3 : Int32), vI (4 : Int32), .unset] [(.int 0), (.int 3)] (fun t k => XS.iloadN X2.here hx rfl (hb hby d26_23) rfl k) ?_
  refine own_vF m T2 25 #[vR o, vI (0 : Int32), vI (3 : Int32), vI (4 : Int32), .unset] [(.int ((3 : Int32) - (0 : Int32)))] (fun t k => XS.isub X2.here hx rfl (hb hby d26_24) rfl k) ?_
  rw [show ((3 : Int32) - (0 : Int32)) = (3 : Int32) from by decide]
  refine own_vF m T2 27 #[vR o, vI (0 : Int32), vI (3 : Int32), vI (4 : Int32), vI (3 : Int32)] [] (fun t k => XS.istore X2.here hx rfl (hb hby d26_25) rfl (l' := #[vR o, vI (0 : Int32), vI (3 : Int32), vI (4 : Int32), vI (3 : Int32)]) rfl k) ?_
  refine own_vF m T2 28 #[vR o, vI (0 : Int32), vI (3 : Int32), vI (4 : Int32), vI (3 : Int32)] [(.ref o)] (fun t k => XS.aloadN X2.here hx rfl (hb hby d26_27) rfl rfl k) ?_
  obtain ⟨_, T3, L3, X3, hQ3, st3⟩ := own_callV X2 hx hZ (y := (⟨"java/lang/String", "isLatin1", "()Z"⟩ : MethodName)) (W := 0) (C := "java/lang/String") hown (hw _ (own_mt 48 rfl)) (hw _ (own_mt 49 rfl)) (hw _ (own_mt 51 rfl)) (hw _ (own_mt 50 rfl)) (hw _ (own_mt 12 rfl)) (hw _ (own_mt 52 rfl)) (by decide) (rm_Ql1 l Z a0 hw o ar cs sf iso u8 h0 n0 Z0 Od SS Es Fc Fv) (by decide) (by decide) e2 Es (g := (mkF m 28 #[vR o, vI (0 : Int32), vI (3 : Int32), vI (4 : Int32), vI (3 : Int32)] [(.ref o)])) rfl (by rw [hml]; rfl) (argsL := []) (rest := []) rfl (lenOf pd___Z rfl) rfl own_w0 (hb hby d26_28) (by decide) (by decide)
  obtain ⟨rfl, N3q, e3⟩ := hQ3
  have N3 := Fr.app N2 N3q
  refine own_vF m T3 31 #[vR o, vI (0 : Int32), vI (3 : Int32), vI (4 : Int32), vI (3 : Int32)] [(.int 1)] (fun t k => st3 t k) ?_
  refine own_vF m T3 34 #[vR o, vI (0 : Int32), vI (3 : Int32), vI (4 : Int32), vI (3 : Int32)] [] (fun t k => XS.ifNo X3.here hx rfl (hb hby d26_31) rfl ((if0 _ _).trans (feq (by decide : ¬ ((1 : Int32) = (0 : Int32)))).1) k) ?_
  refine own_vF m T3 35 #[vR o, vI (0 : Int32), vI (3 : Int32), vI (4 : Int32), vI (3 : Int32)] [(.ref o)] (fun t k => XS.aloadN X3.here hx rfl (hb hby d26_34) rfl rfl k) ?_
  obtain ⟨T4, X4, e4, st4⟩ := getF (host := "") X3 hx hZ hown (Or.inl (hw _ (own_mt 36 rfl))) Via.refl e3 Fv (g := (mkF m 35 #[vR o, vI (0 : Int32), vI (3 : Int32), vI (4 : Int32), vI (3 : Int32)] [(.ref o)])) rfl rfl (hb hby d26_35)
  refine own_vF m T4 38 #[vR o, vI (0 : Int32), vI (3 : Int32), vI (4 : Int32), vI (3 : Int32)] [(.ref ar)] (fun t k => st4 t k) ?_
  refine own_vF m T4 39 #[vR o, vI (0 : Int32), vI (3 : Int32), vI (4 : Int32), vI (3 : Int32)] [(.int 0), (.ref ar)] (fun t k => XS.iloadN X4.here hx rfl (hb hby d26_38) rfl k) ?_
  refine own_vF m T4 41 #[vR o, vI (0 : Int32), vI (3 : Int32), vI (4 : Int32), vI (3 : Int32)] [(.int 3), (.int 0), (.ref ar)] (fun t k => XS.iload X4.here hx rfl (hb hby d26_39) rfl k) ?_
  obtain ⟨_, T5, L5, X5, hQ5, st5⟩ := own_callS X4 hx hZ (y := (⟨"java/lang/StringLatin1", "newString", "([BII)Ljava/lang/String;"⟩ : MethodName)) (W := 0) hown (hw _ (own_mt 113 rfl)) (hw _ (own_mt 114 rfl)) (hw _ (own_mt 66 rfl)) (hw _ (own_mt 115 rfl)) (by decide) (rm_Qns43 l Z a0 hw ar kk v1 v2 v3 v4 h0 n0 Z0 Ea Va) (by decide) (by decide) e4 (g := (mkF m 41 #[vR o, vI (0 : Int32), vI (3 : Int32), vI (4 : Int32), vI (3 : Int32)] [(.int 3), (.int 0), (.ref ar)])) rfl (by rw [hml]; rfl) (argsL := [(.ref ar), (.int 0), (.int 3)]) (rest := []) rfl (lenOf pd_ABII__Ljava_lang_String_ rfl) rfl own_w0 (hb hby d26_41) (by decide) (by decide)
  obtain ⟨b5r, rfl, N5q, K5q, Es5, Fc5, b5s, kb5, Fv5, Eb5, Va5⟩ := hQ5
  have N5 := Fr.app N3 N5q
  have K17 := K0.trans K5q all0
  refine own_vF m T5 44 #[vR o, vI (0 : Int32), vI (3 : Int32), vI (4 : Int32), vI (3 : Int32)] [(.ref b5r)] (fun t k => st5 t k) ?_
  refine own_vF m T5 57 #[vR o, vI (0 : Int32), vI (3 : Int32), vI (4 : Int32), vI (3 : Int32)] [(.ref b5r)] (fun t k => XS.goto X5.here hx rfl (pc0 := 44) (pc' := 57) rfl (hb hby d26_44) (by decide) (by decide) k) ?_
  exact own_ret X5 (v := some (.ref b5r)) (fun h => by rw [hret] at h; cases h) hlk (fun fs hr => retOut X5 hx (t := (.object "java/lang/String")) hret rfl (Or.inr (Or.inr (Or.inr (Or.inr ⟨rfl, rfl, rfl⟩)))) (hb hby d26_57) hr) (by exact ⟨b5r, rfl, N5, K17, Es5, Fc5, b5s, _, Fv5, Eb5, Va5⟩) (by decide) (by decide)
def Qnm00 (Z : State) (ar : Addr) (kk : ClassId)  (cs : Int32) (sf : Value) (iso u8 : Addr) (h0 : Heap) (n0 : Nat) (v : Option Value) (h : Heap) (L : List Loc) : Prop := ∃ r, v = some (.ref r) ∧ Fr n0 L ∧ Keep h0 h [] ∧ Exa Z h r "java/lang/String" ∧ Fld Z h r "java/lang/String" "coder" "B" (.int 0) ∧ ∃ b kb, Fld Z h r "java/lang/String" "value" "[B" (.ref b) ∧ Arv Z h b kb .byte (0 : Int32) [] (.int 0)
theorem d27_0 : decode prog_10_method_3_code 0 = .ok (.new 28, 3) := by decide +kernel
theorem d27_3 : decode prog_10_method_3_code 3 = .ok (.dup, 1) := by decide +kernel
theorem d27_4 : decode prog_10_method_3_code 4 = .ok (.aload_n 0, 1) := by decide +kernel
theorem d27_5 : decode prog_10_method_3_code 5 = .ok (.getstatic 30, 3) := by decide +kernel
theorem pd_ABLjava_nio_charset_Charset___V : parseMethodDescriptor "([BLjava/nio/charset/Charset;)V" = some ⟨[(.array .byte), (.object "java/nio/charset/Charset")], none⟩ := by decide +kernel
theorem d27_8 : decode prog_10_method_3_code 8 = .ok (.invokespecial 36, 3) := by decide +kernel
theorem d27_11 : decode prog_10_method_3_code 11 = .ok (.astore_n 1, 1) := by decide +kernel
theorem d27_12 : decode prog_10_method_3_code 12 = .ok (.aload_n 1, 1) := by decide +kernel
theorem d27_13 : decode prog_10_method_3_code 13 = .ok (.iconst 0, 1) := by decide +kernel
theorem d27_14 : decode prog_10_method_3_code 14 = .ok (.iconst 0, 1) := by decide +kernel
theorem d27_15 : decode prog_10_method_3_code 15 = .ok (.aload_n 1, 1) := by decide +kernel
theorem d27_16 : decode prog_10_method_3_code 16 = .ok (.bipush 61, 2) := by decide +kernel
theorem pd_I__I : parseMethodDescriptor "(I)I" = some ⟨[.int], some .int⟩ := by decide +kernel
theorem d27_18 : decode prog_10_method_3_code 18 = .ok (.invokevirtual 39, 3) := by decide +kernel
theorem d27_21 : decode prog_10_method_3_code 21 = .ok (.invokestatic 43, 3) := by decide +kernel
theorem pd_II__Ljava_lang_String_ : parseMethodDescriptor "(II)Ljava/lang/String;" = some ⟨[.int, .int], some (.object "java/lang/String")⟩ := by decide +kernel
theorem d27_24 : decode prog_10_method_3_code 24 = .ok (.invokevirtual 49, 3) := by decide +kernel
theorem d27_27 : decode prog_10_method_3_code 27 = .ok (.areturn, 1) := by decide +kernel
theorem ef_R2 (m : MethodId) (x0 : Addr) : entryFrame m #[(.ref x0)] 2 = mkF m 0 #[vR x0, .unset] [] := by first | (simp [entryFrame, mkF, argsToLocals, Value.category]; done) | rfl
theorem pn_com_example_bdelloid_bdelloid_os_Environment : plainName "com/example/bdelloid/bdelloid/os/Environment" = true := by first | (simp [plainName, overriddenIn]; done) | decide +kernel
set_option maxRecDepth 65536 in
set_option maxHeartbeats 40000000 in
theorem rm_Qnm00 (l : Launch) (Z : State) (a0 : Array Value) (hw : ∀ d ∈ tables_1, d.before a0 Z = true) (ar : Addr) (kk : ClassId)  (cs : Int32) (sf : Value) (iso u8 : Addr) (h0 : Heap) (n0 : Nat) (Z0 : n0 ≤ h0.size) (Od : Old Z n0 h0) (SS : own_SS Z cs sf iso u8) (Ea : Exa Z h0 ar "[B") (Va : Arv Z h0 ar kk .byte (0 : Int32) [] (.int 0)) (hm : (if (0 : Int32) < (-1 : Int32) then (-1 : Int32) else (0 : Int32)) = (0 : Int32)) :
    own_MW l Z ((⟨"com/example/bdelloid/bdelloid/os/Environment", "name", "([B)Ljava/lang/String;"⟩ : MethodName)) prog_10_method_3_code 2 (some (.object "java/lang/String")) ({ frames := 4, cells := 3, slots := 8, locals := 58 } : Room) #[(.ref ar)] h0 (Qnm00 Z ar kk  cs sf iso u8 h0 n0) := by
  refine own_mkW (plainFor_of_name pn_com_example_bdelloid_bdelloid_os_Environment) ?_
  intro p e s m below meth c s₁ X0 hx hby hml hown hnm hret hlk hZ e0 hCH
  have hEL := own_hEL hw
  have N0 := Fr.nil n0
  have K0 := Keep.refl h0 []
  rw [ef_R2 m ar]
  have Siso := SS.2.2.2.2.1.ext Od.2
  obtain ⟨T1, h1, X1, e1, E1, A1, D1, -, st1⟩ := newO X0 hx hZ hown (hw _ (own_mt 10 rfl)) (hw _ (own_mt 11 rfl)) (hw _ (own_mt 12 rfl)) e0 (g := (mkF m 0 #[vR ar, .unset] [])) rfl (hb hby d27_0) (by decide) (by decide)
  obtain ⟨b1, g1⟩ : ∃ z, z = h0.size := ⟨_, rfl⟩
  rw [← g1] at A1 D1 st1
  have ne2 : ar ≠ b1 := Nat.ne_of_lt (Nat.lt_of_lt_of_le Ea.lt (Nat.le_of_eq g1.symm))
  have gn_b1 : n0 ≤ b1 := Nat.le_trans Z0 (Nat.le_of_eq g1.symm)
  have sz_b1 : h0.size ≤ b1 := Nat.le_trans K0.1 (Nat.le_of_eq g1.symm)
  have f5 := Siso.ext E1
  have f8 := Od.ext E1
  have f9 := Ea.ext E1
  have f11 := Va.ext E1
  have f12 : Fld Z h1 b1 "java/lang/String" "value" "[B" .null := D1 (Or.inr (hw _ (own_mt 32 rfl))) (ty := (.array .byte)) (by decide)
  have f13 : Fld Z h1 b1 "java/lang/String" "coder" "B" (.int 0) := D1 (Or.inr (hw _ (own_mt 33 rfl))) (ty := .byte) (by decide)
  have Z14 : n0 ≤ h1.size := Nat.le_trans Z0 E1.1
  have K14 := K0.ext E1
  refine own_vFW m T1 3 #[vR ar, .unset] [(.ref b1)] (fun t k => st1 t k) ?_
  refine own_vFW m T1 4 #[vR ar, .unset] [(.ref b1), (.ref b1)] (fun t k => XS.dup X1.here hx rfl (hb hby d27_3) rfl rfl k) ?_
  refine own_vFW m T1 5 #[vR ar, .unset] [(.ref ar), (.ref b1), (.ref b1)] (fun t k => XS.aloadN X1.here hx rfl (hb hby d27_4) rfl rfl k) ?_
  obtain ⟨T15, X15, e15, st15⟩ := getS2 (host := "") X1 hx hZ hown (Or.inl (hw _ (own_mt 13 rfl))) Via.refl e1 f5 (g := (mkF m 5 #[vR ar, .unset] [(.ref ar), (.ref b1), (.ref b1)])) rfl (hb hby d27_5)
  refine own_vFW m T15 8 #[vR ar, .unset] [(.ref iso), (.ref ar), (.ref b1), (.ref b1)] (fun t k => st15 t k) ?_
  obtain ⟨_, T16, L16, X16, hS, hZ, hown, hQ16, st16⟩ := own_callIW X15 hx hZ hEL hCH (y := (⟨"java/lang/String", "<init>", "([BLjava/nio/charset/Charset;)V"⟩ : MethodName)) rfl (W := 1) hown (hw _ (own_mt 15 rfl)) (hw _ (own_mt 16 rfl)) (hw _ (own_mt 12 rfl)) (hw _ (own_mt 17 rfl)) (by decide) (rm_Qi20 l Z a0 hw b1 ar kk  cs sf iso u8 h1 n0 Z14 f8 SS A1 f12 f13 gn_b1 ne2 f9 f11) (by decide) (by decide) e15 (a := b1) (g := (mkF m 8 #[vR ar, .unset] [(.ref iso), (.ref ar), (.ref b1), (.ref b1)])) rfl (by rw [hml]; rfl) (argsL := [(.ref ar), (.ref iso)]) (rest := [(.ref b1)]) rfl (lenOf pd_ABLjava_nio_charset_Charset___V rfl) rfl own_w0 (hb hby d27_8) (by decide) (by decide)
  have hk16 : T16.heap.size ≤ T16.heap.size := Nat.le_refl _
  obtain ⟨rfl, N16q, K16q, Es16, Fc16, b16s, kb16, Fv16, Va16⟩ := hQ16
  have N16 := Fr.app N0 N16q
  have f22 := f8.keep K16q (allS gn_b1 all0)
  have Z27 : n0 ≤ T16.heap.size := Nat.le_trans Z14 K16q.1
  have K27 := K14.trans K16q (allS (Or.inr sz_b1) all0)
  refine own_vFW m T16 11 #[vR ar, .unset] [(.ref b1)] (fun t k => st16 t k) ?_
  refine own_vFW m T16 12 #[vR ar, vR b1] [] (fun t k => XS.astoreN X16.here hx rfl (hb hby d27_11) rfl rfl (l' := #[vR ar, vR b1]) rfl k) ?_
  refine own_vFW m T16 13 #[vR ar, vR b1] [(.ref b1)] (fun t k => XS.aloadN X16.here hx rfl (hb hby d27_12) rfl rfl k) ?_
  refine own_vFW m T16 14 #[vR ar, vR b1] [(.int 0), (.ref b1)] (fun t k => XS.iconst X16.here hx rfl (hb hby d27_13) k) ?_
  refine own_vFW m T16 15 #[vR ar, vR b1] [(.int 0), (.int 0), (.ref b1)] (fun t k => XS.iconst X16.here hx rfl (hb hby d27_14) k) ?_
  refine own_vFW m T16 16 #[vR ar, vR b1] [(.ref b1), (.int 0), (.int 0), (.ref b1)] (fun t k => XS.aloadN X16.here hx rfl (hb hby d27_15) rfl rfl k) ?_
  refine own_vFW m T16 18 #[vR ar, vR b1] [(.int 61), (.ref b1), (.int 0), (.int 0), (.ref b1)] (fun t k => XS.bipush X16.here hx rfl (hb hby d27_16) k) ?_
  obtain ⟨_, T28, L28, X28, hQ28, st28⟩ := own_callV X16 hx hZ (y := (⟨"java/lang/String", "indexOf", "(I)I"⟩ : MethodName)) (W := 3) (C := "java/lang/String") hown (hw _ (own_mt 38 rfl)) (hw _ (own_mt 39 rfl)) (hw _ (own_mt 41 rfl)) (hw _ (own_mt 40 rfl)) (hw _ (own_mt 12 rfl)) (hw _ (own_mt 42 rfl)) (by decide) (rm_Qx10 l Z a0 hw b1 b16s kb16  cs sf iso u8 T16.heap n0 Z27 f22 SS Es16 Fc16 Fv16 Va16) (by decide) (by decide) rfl Es16 (g := (mkF m 18 #[vR ar, vR b1] [(.int 61), (.ref b1), (.int 0), (.int 0), (.ref b1)])) rfl (by rw [hml]; rfl) (argsL := [(.int 61)]) (rest := [(.int 0), (.int 0), (.ref b1)]) rfl (lenOf pd_I__I rfl) rfl own_w0 (hb hby d27_18) (by decide) (by decide)
  obtain ⟨rfl, N28q, e28⟩ := hQ28
  have N28 := Fr.app N16 N28q
  refine own_vFW m T28 21 #[vR ar, vR b1] [(.int (-1)), (.int 0), (.int 0), (.ref b1)] (fun t k => st28 t k) ?_
  obtain ⟨_, T29, L29, X29, hQ29, st29⟩ := own_callS X28 hx hZ (y := (⟨"java/lang/Math", "max", "(II)I"⟩ : MethodName)) (W := 2) hown (hw _ (own_mt 78 rfl)) (hw _ (own_mt 72 rfl)) (hw _ (own_mt 73 rfl)) (hw _ (own_mt 74 rfl)) (by decide) (rm_Qmax l Z a0 hw (0 : Int32) (-1 : Int32) T16.heap n0 Z27) (by decide) (by decide) e28 (g := (mkF m 21 #[vR ar, vR b1] [(.int (-1)), (.int 0), (.int 0), (.ref b1)])) rfl (by rw [hml]; rfl) (argsL := [(.int 0), (.int (-1))]) (rest := [(.int 0), (.ref b1)]) rfl (lenOf pd_II__I rfl) rfl own_w0 (hb hby d27_21) (by decide) (by decide)
  obtain ⟨rfl, N29q, e29⟩ := hQ29
  have N29 := Fr.app N28 N29q
  refine own_vFW m T29 24 #[vR ar, vR b1] [(.int (if (0 : Int32) < (-1 : Int32) then (-1 : Int32) else (0 : Int32))), (.int 0), (.ref b1)] (fun t k => st29 t k) ?_
  rw [show (if (0 : Int32) < (-1 : Int32) then (-1 : Int32) else (0 : Int32)) = (0 : Int32) from by decide]
  obtain ⟨_, T30, L30, X30, hQ30, st30⟩ := own_callV X29 hx hZ (y := (⟨"java/lang/String", "substring", "(II)Ljava/lang/String;"⟩ : MethodName)) (W := 0) (C := "java/lang/String") hown (hw _ (own_mt 79 rfl)) (hw _ (own_mt 80 rfl)) (hw _ (own_mt 82 rfl)) (hw _ (own_mt 81 rfl)) (hw _ (own_mt 12 rfl)) (hw _ (own_mt 83 rfl)) (by decide) (rm_Qsb00 l Z a0 hw b1 b16s kb16  cs sf iso u8 T16.heap n0 Z27 f22 SS Es16 Fc16 Fv16 Va16) (by decide) (by decide) e29 Es16 (g := (mkF m 24 #[vR ar, vR b1] [(.int 0), (.int 0), (.ref b1)])) rfl (by rw [hml]; rfl) (argsL := [(.int 0), (.int 0)]) (rest := []) rfl (lenOf pd_II__Ljava_lang_String_ rfl) rfl own_w0 (hb hby d27_24) (by decide) (by decide)
  obtain ⟨rfl, N30q, e30⟩ := hQ30
  have N30 := Fr.app N29 N30q
  refine own_vFW m T30 27 #[vR ar, vR b1] [(.ref b1)] (fun t k => st30 t k) ?_
  exact own_retW (s := s) X30 hS (by rw [e30]; exact hk16) (v := some (.ref b1)) (fun h => by rw [hret] at h; cases h) hlk (fun fs hr => retOut X30 hx (t := (.object "java/lang/String")) hret rfl (Or.inr (Or.inr (Or.inr (Or.inr ⟨rfl, rfl, rfl⟩)))) (hb hby d27_27) hr) (by rw [e30]; exact ⟨b1, rfl, N30, K27, Es16, Fc16, b16s, _, Fv16, Va16⟩) (by decide) (by decide)
def Qnm10 (Z : State) (ar : Addr) (kk : ClassId) (v1 : Int32) (cs : Int32) (sf : Value) (iso u8 : Addr) (h0 : Heap) (n0 : Nat) (v : Option Value) (h : Heap) (L : List Loc) : Prop := ∃ r, v = some (.ref r) ∧ Fr n0 L ∧ Keep h0 h [] ∧ Exa Z h r "java/lang/String" ∧ Fld Z h r "java/lang/String" "coder" "B" (.int 0) ∧ ∃ b kb, Fld Z h r "java/lang/String" "value" "[B" (.ref b) ∧ Arv Z h b kb .byte (0 : Int32) [] (.int 0)
set_option maxRecDepth 65536 in
set_option maxHeartbeats 40000000 in
theorem rm_Qnm10 (l : Launch) (Z : State) (a0 : Array Value) (hw : ∀ d ∈ tables_1, d.before a0 Z = true) (ar : Addr) (kk : ClassId) (v1 : Int32) (cs : Int32) (sf : Value) (iso u8 : Addr) (h0 : Heap) (n0 : Nat) (Z0 : n0 ≤ h0.size) (Od : Old Z n0 h0) (SS : own_SS Z cs sf iso u8) (Ea : Exa Z h0 ar "[B") (Va : Arv Z h0 ar kk .byte (1 : Int32) [(.int v1)] (.int 0)) (hm : (if (0 : Int32) < (if v1 = (61 : Int32) then (0 : Int32) else (-1 : Int32)) then (if v1 = (61 : Int32) then (0 : Int32) else (-1 : Int32)) else (0 : Int32)) = (0 : Int32)) :
    own_MW l Z ((⟨"com/example/bdelloid/bdelloid/os/Environment", "name", "([B)Ljava/lang/String;"⟩ : MethodName)) prog_10_method_3_code 2 (some (.object "java/lang/String")) ({ frames := 4, cells := 4, slots := 9, locals := 66 } : Room) #[(.ref ar)] h0 (Qnm10 Z ar kk v1 cs sf iso u8 h0 n0) := by
  refine own_mkW (plainFor_of_name pn_com_example_bdelloid_bdelloid_os_Environment) ?_
  intro p e s m below meth c s₁ X0 hx hby hml hown hnm hret hlk hZ e0 hCH
  have hEL := own_hEL hw
  have N0 := Fr.nil n0
  have K0 := Keep.refl h0 []
  rw [ef_R2 m ar]
  have Siso := SS.2.2.2.2.1.ext Od.2
  obtain ⟨T1, h1, X1, e1, E1, A1, D1, -, st1⟩ := newO X0 hx hZ hown (hw _ (own_mt 10 rfl)) (hw _ (own_mt 11 rfl)) (hw _ (own_mt 12 rfl)) e0 (g := (mkF m 0 #[vR ar, .unset] [])) rfl (hb hby d27_0) (by decide) (by decide)
  obtain ⟨b1, g1⟩ : ∃ z, z = h0.size := ⟨_, rfl⟩
  rw [← g1] at A1 D1 st1
  have ne2 : ar ≠ b1 := Nat.ne_of_lt (Nat.lt_of_lt_of_le Ea.lt (Nat.le_of_eq g1.symm))
  have gn_b1 : n0 ≤ b1 := Nat.le_trans Z0 (Nat.le_of_eq g1.symm)
  have sz_b1 : h0.size ≤ b1 := Nat.le_trans K0.1 (Nat.le_of_eq g1.symm)
  have f5 := Siso.ext E1
  have f8 := Od.ext E1
  have f9 := Ea.ext E1
  have f11 := Va.ext E1
  have f12 : Fld Z h1 b1 "java/lang/String" "value" "[B" .null := D1 (Or.inr (hw _ (own_mt 32 rfl))) (ty := (.array .byte)) (by decide)
  have f13 : Fld Z h1 b1 "java/lang/String" "coder" "B" (.int 0) := D1 (Or.inr (hw _ (own_mt 33 rfl))) (ty := .byte) (by decide)
  have Z14 : n0 ≤ h1.size := Nat.le_trans Z0 E1.1
  have K14 := K0.ext E1
  refine own_vFW m T1 3 #[vR ar, .unset] [(.ref b1)] (fun t k => st1 t k) ?_
  refine own_vFW m T1 4 #[vR ar, .unset] [(.ref b1), (.ref b1)] (fun t k => XS.dup X1.here hx rfl (hb hby d27_3) rfl rfl k) ?_
  refine own_vFW m T1 5 #[vR ar, .unset] [(.ref ar), (.ref b1), (.ref b1)] (fun t k => XS.aloadN X1.here hx rfl (hb hby d27_4) rfl rfl k) ?_
  obtain ⟨T15, X15, e15, st15⟩ := getS2 (host := "") X1 hx hZ hown (Or.inl (hw _ (own_mt 13 rfl))) Via.refl e1 f5 (g := (mkF m 5 #[vR ar, .unset] [(.ref ar), (.ref b1), (.ref b1)])) rfl (hb hby d27_5)
  refine own_vFW m T15 8 #[vR ar, .unset] [(.ref iso), (.ref ar), (.ref b1), (.ref b1)] (fun t k => st15 t k) ?_
  obtain ⟨_, T16, L16, X16, hQ16, st16⟩ := own_callI X15 hx hZ (y := (⟨"java/lang/String", "<init>", "([BLjava/nio/charset/Charset;)V"⟩ : MethodName)) rfl (W := 1) hown (hw _ (own_mt 15 rfl)) (hw _ (own_mt 16 rfl)) (hw _ (own_mt 12 rfl)) (hw _ (own_mt 17 rfl)) (by decide) (rm_Qi21 l Z a0 hw b1 ar kk v1 cs sf iso u8 h1 n0 Z14 f8 SS A1 f12 f13 gn_b1 ne2 f9 f11) (by decide) (by decide) e15 (a := b1) (g := (mkF m 8 #[vR ar, .unset] [(.ref iso), (.ref ar), (.ref b1), (.ref b1)])) rfl (by rw [hml]; rfl) (argsL := [(.ref ar), (.ref iso)]) (rest := [(.ref b1)]) rfl (lenOf pd_ABLjava_nio_charset_Charset___V rfl) rfl own_w0 (hb hby d27_8) (by decide) (by decide)
  obtain ⟨rfl, N16q, K16q, Es16, Fc16, b16s, kb16, Fv16, Eb16, Va16⟩ := hQ16
  have N16 := Fr.app N0 N16q
  have f22 := f8.keep K16q (allS gn_b1 all0)
  have Z27 : n0 ≤ T16.heap.size := Nat.le_trans Z14 K16q.1
  have K27 := K14.trans K16q (allS (Or.inr sz_b1) all0)
  refine own_vFW m T16 11 #[vR ar, .unset] [(.ref b1)] (fun t k => st16 t k) ?_
  refine own_vFW m T16 12 #[vR ar, vR b1] [] (fun t k => XS.astoreN X16.here hx rfl (hb hby d27_11) rfl rfl (l' := #[vR ar, vR b1]) rfl k) ?_
  refine own_vFW m T16 13 #[vR ar, vR b1] [(.ref b1)] (fun t k => XS.aloadN X16.here hx rfl (hb hby d27_12) rfl rfl k) ?_
  refine own_vFW m T16 14 #[vR ar, vR b1] [(.int 0), (.ref b1)] (fun t k => XS.iconst X16.here hx rfl (hb hby d27_13) k) ?_
  refine own_vFW m T16 15 #[vR ar, vR b1] [(.int 0), (.int 0), (.ref b1)] (fun t k => XS.iconst X16.here hx rfl (hb hby d27_14) k) ?_
  refine own_vFW m T16 16 #[vR ar, vR b1] [(.ref b1), (.int 0), (.int 0), (.ref b1)] (fun t k => XS.aloadN X16.here hx rfl (hb hby d27_15) rfl rfl k) ?_
  refine own_vFW m T16 18 #[vR ar, vR b1] [(.int 61), (.ref b1), (.int 0), (.int 0), (.ref b1)] (fun t k => XS.bipush X16.here hx rfl (hb hby d27_16) k) ?_
  obtain ⟨_, T28, L28, X28, hQ28, st28⟩ := own_callV X16 hx hZ (y := (⟨"java/lang/String", "indexOf", "(I)I"⟩ : MethodName)) (W := 3) (C := "java/lang/String") hown (hw _ (own_mt 38 rfl)) (hw _ (own_mt 39 rfl)) (hw _ (own_mt 41 rfl)) (hw _ (own_mt 40 rfl)) (hw _ (own_mt 12 rfl)) (hw _ (own_mt 42 rfl)) (by decide) (rm_Qx11 l Z a0 hw b1 b16s kb16 v1 cs sf iso u8 T16.heap n0 Z27 f22 SS Es16 Fc16 Fv16 Va16) (by decide) (by decide) rfl Es16 (g := (mkF m 18 #[vR ar, vR b1] [(.int 61), (.ref b1), (.int 0), (.int 0), (.ref b1)])) rfl (by rw [hml]; rfl) (argsL := [(.int 61)]) (rest := [(.int 0), (.int 0), (.ref b1)]) rfl (lenOf pd_I__I rfl) rfl own_w0 (hb hby d27_18) (by decide) (by decide)
  obtain ⟨rfl, N28q, e28⟩ := hQ28
  have N28 := Fr.app N16 N28q
  refine own_vFW m T28 21 #[vR ar, vR b1] [(.int (if v1 = (61 : Int32) then (0 : Int32) else (-1 : Int32))), (.int 0), (.int 0), (.ref b1)] (fun t k => st28 t k) ?_
  obtain ⟨_, T29, L29, X29, hQ29, st29⟩ := own_callS X28 hx hZ (y := (⟨"java/lang/Math", "max", "(II)I"⟩ : MethodName)) (W := 2) hown (hw _ (own_mt 78 rfl)) (hw _ (own_mt 72 rfl)) (hw _ (own_mt 73 rfl)) (hw _ (own_mt 74 rfl)) (by decide) (rm_Qmax l Z a0 hw (0 : Int32) (if v1 = (61 : Int32) then (0 : Int32) else (-1 : Int32)) T16.heap n0 Z27) (by decide) (by decide) e28 (g := (mkF m 21 #[vR ar, vR b1] [(.int (if v1 = (61 : Int32) then (0 : Int32) else (-1 : Int32))), (.int 0), (.int 0), (.ref b1)])) rfl (by rw [hml]; rfl) (argsL := [(.int 0), (.int (if v1 = (61 : Int32) then (0 : Int32) else (-1 : Int32)))]) (rest := [(.int 0), (.ref b1)]) rfl (lenOf pd_II__I rfl) rfl own_w0 (hb hby d27_21) (by decide) (by decide)
  obtain ⟨rfl, N29q, e29⟩ := hQ29
  have N29 := Fr.app N28 N29q
  refine own_vFW m T29 24 #[vR ar, vR b1] [(.int (if (0 : Int32) < (if v1 = (61 : Int32) then (0 : Int32) else (-1 : Int32)) then (if v1 = (61 : Int32) then (0 : Int32) else (-1 : Int32)) else (0 : Int32))), (.int 0), (.ref b1)] (fun t k => st29 t k) ?_
  rw [hm]
  obtain ⟨_, T30, L30, X30, hS, hZ, hown, hQ30, st30⟩ := own_callVW X29 hx hZ hEL hCH (y := (⟨"java/lang/String", "substring", "(II)Ljava/lang/String;"⟩ : MethodName)) (W := 0) (C := "java/lang/String") hown (hw _ (own_mt 79 rfl)) (hw _ (own_mt 80 rfl)) (hw _ (own_mt 82 rfl)) (hw _ (own_mt 81 rfl)) (hw _ (own_mt 12 rfl)) (hw _ (own_mt 83 rfl)) (by decide) (rm_Qsb10 l Z a0 hw b1 b16s kb16 v1 cs sf iso u8 T16.heap n0 Z27 f22 SS Es16 Fc16 Fv16 Eb16 Va16) (by decide) (by decide) e29 Es16 (g := (mkF m 24 #[vR ar, vR b1] [(.int 0), (.int 0), (.ref b1)])) rfl (by rw [hml]; rfl) (argsL := [(.int 0), (.int 0)]) (rest := []) rfl (lenOf pd_II__Ljava_lang_String_ rfl) rfl own_w0 (hb hby d27_24) (by decide) (by decide)
  have hk30 : T30.heap.size ≤ T30.heap.size := Nat.le_refl _
  obtain ⟨b30r, rfl, N30q, K30q, Es30, Fc30, b30s, kb30, Fv30, Va30⟩ := hQ30
  have N30 := Fr.app N29 N30q
  have K45 := K27.trans K30q all0
  refine own_vFW m T30 27 #[vR ar, vR b1] [(.ref b30r)] (fun t k => st30 t k) ?_
  exact own_retW (s := s) X30 hS (by exact hk30) (v := some (.ref b30r)) (fun h => by rw [hret] at h; cases h) hlk (fun fs hr => retOut X30 hx (t := (.object "java/lang/String")) hret rfl (Or.inr (Or.inr (Or.inr (Or.inr ⟨rfl, rfl, rfl⟩)))) (hb hby d27_27) hr) (by exact ⟨b30r, rfl, N30, K45, Es30, Fc30, b30s, _, Fv30, Va30⟩) (by decide) (by decide)
def Qnm20 (Z : State) (ar : Addr) (kk : ClassId) (v1 v2 : Int32) (cs : Int32) (sf : Value) (iso u8 : Addr) (h0 : Heap) (n0 : Nat) (v : Option Value) (h : Heap) (L : List Loc) : Prop := ∃ r, v = some (.ref r) ∧ Fr n0 L ∧ Keep h0 h [] ∧ Exa Z h r "java/lang/String" ∧ Fld Z h r "java/lang/String" "coder" "B" (.int 0) ∧ ∃ b kb, Fld Z h r "java/lang/String" "value" "[B" (.ref b) ∧ Arv Z h b kb .byte (0 : Int32) [] (.int 0)
set_option maxRecDepth 65536 in
set_option maxHeartbeats 40000000 in
theorem rm_Qnm20 (l : Launch) (Z : State) (a0 : Array Value) (hw : ∀ d ∈ tables_1, d.before a0 Z = true) (ar : Addr) (kk : ClassId) (v1 v2 : Int32) (cs : Int32) (sf : Value) (iso u8 : Addr) (h0 : Heap) (n0 : Nat) (Z0 : n0 ≤ h0.size) (Od : Old Z n0 h0) (SS : own_SS Z cs sf iso u8) (Ea : Exa Z h0 ar "[B") (Va : Arv Z h0 ar kk .byte (2 : Int32) [(.int v1), (.int v2)] (.int 0)) (hm : (if (0 : Int32) < (if v1 = (61 : Int32) then (0 : Int32) else (if v2 = (61 : Int32) then (1 : Int32) else (-1 : Int32))) then (if v1 = (61 : Int32) then (0 : Int32) else (if v2 = (61 : Int32) then (1 : Int32) else (-1 : Int32))) else (0 : Int32)) = (0 : Int32)) :
    own_MW l Z ((⟨"com/example/bdelloid/bdelloid/os/Environment", "name", "([B)Ljava/lang/String;"⟩ : MethodName)) prog_10_method_3_code 2 (some (.object "java/lang/String")) ({ frames := 4, cells := 4, slots := 10, locals := 66 } : Room) #[(.ref ar)] h0 (Qnm20 Z ar kk v1 v2 cs sf iso u8 h0 n0) := by
  refine own_mkW (plainFor_of_name pn_com_example_bdelloid_bdelloid_os_Environment) ?_
  intro p e s m below meth c s₁ X0 hx hby hml hown hnm hret hlk hZ e0 hCH
  have hEL := own_hEL hw
  have N0 := Fr.nil n0
  have K0 := Keep.refl h0 []
  rw [ef_R2 m ar]
  have Siso := SS.2.2.2.2.1.ext Od.2
  obtain ⟨T1, h1, X1, e1, E1, A1, D1, -, st1⟩ := newO X0 hx hZ hown (hw _ (own_mt 10 rfl)) (hw _ (own_mt 11 rfl)) (hw _ (own_mt 12 rfl)) e0 (g := (mkF m 0 #[vR ar, .unset] [])) rfl (hb hby d27_0) (by decide) (by decide)
  obtain ⟨b1, g1⟩ : ∃ z, z = h0.size := ⟨_, rfl⟩
  rw [← g1] at A1 D1 st1
  have ne2 : ar ≠ b1 := Nat.ne_of_lt (Nat.lt_of_lt_of_le Ea.lt (Nat.le_of_eq g1.symm))
  have gn_b1 : n0 ≤ b1 := Nat.le_trans Z0 (Nat.le_of_eq g1.symm)
  have sz_b1 : h0.size ≤ b1 := Nat.le_trans K0.1 (Nat.le_of_eq g1.symm)
  have f5 := Siso.ext E1
  have f8 := Od.ext E1
  have f9 := Ea.ext E1
  have f11 := Va.ext E1
  have f12 : Fld Z h1 b1 "java/lang/String" "value" "[B" .null := D1 (Or.inr (hw _ (own_mt 32 rfl))) (ty := (.array .byte)) (by decide)
  have f13 : Fld Z h1 b1 "java/lang/String" "coder" "B" (.int 0) := D1 (Or.inr (hw _ (own_mt 33 rfl))) (ty := .byte) (by decide)
  have Z14 : n0 ≤ h1.size := Nat.le_trans Z0 E1.1
  have K14 := K0.ext E1
  refine own_vFW m T1 3 #[vR ar, .unset] [(.ref b1)] (fun t k => st1 t k) ?_
  refine own_vFW m T1 4 #[vR ar, .unset] [(.ref b1), (.ref b1)] (fun t k => XS.dup X1.here hx rfl (hb hby d27_3) rfl rfl k) ?_
  refine own_vFW m T1 5 #[vR ar, .unset] [(.ref ar), (.ref b1), (.ref b1)] (fun t k => XS.aloadN X1.here hx rfl (hb hby d27_4) rfl rfl k) ?_
  obtain ⟨T15, X15, e15, st15⟩ := getS2 (host := "") X1 hx hZ hown (Or.inl (hw _ (own_mt 13 rfl))) Via.refl e1 f5 (g := (mkF m 5 #[vR ar, .unset] [(.ref ar), (.ref b1), (.ref b1)])) rfl (hb hby d27_5)
  refine own_vFW m T15 8 #[vR ar, .unset] [(.ref iso), (.ref ar), (.ref b1), (.ref b1)] (fun t k => st15 t k) ?_
  obtain ⟨_, T16, L16, X16, hQ16, st16⟩ := own_callI X15 hx hZ (y := (⟨"java/lang/String", "<init>", "([BLjava/nio/charset/Charset;)V"⟩ : MethodName)) rfl (W := 1) hown (hw _ (own_mt 15 rfl)) (hw _ (own_mt 16 rfl)) (hw _ (own_mt 12 rfl)) (hw _ (own_mt 17 rfl)) (by decide) (rm_Qi22 l Z a0 hw b1 ar kk v1 v2 cs sf iso u8 h1 n0 Z14 f8 SS A1 f12 f13 gn_b1 ne2 f9 f11) (by decide) (by decide) e15 (a := b1) (g := (mkF m 8 #[vR ar, .unset] [(.ref iso), (.ref ar), (.ref b1), (.ref b1)])) rfl (by rw [hml]; rfl) (argsL := [(.ref ar), (.ref iso)]) (rest := [(.ref b1)]) rfl (lenOf pd_ABLjava_nio_charset_Charset___V rfl) rfl own_w0 (hb hby d27_8) (by decide) (by decide)
  obtain ⟨rfl, N16q, K16q, Es16, Fc16, b16s, kb16, Fv16, Eb16, Va16⟩ := hQ16
  have N16 := Fr.app N0 N16q
  have f22 := f8.keep K16q (allS gn_b1 all0)
  have Z27 : n0 ≤ T16.heap.size := Nat.le_trans Z14 K16q.1
  have K27 := K14.trans K16q (allS (Or.inr sz_b1) all0)
  refine own_vFW m T16 11 #[vR ar, .unset] [(.ref b1)] (fun t k => st16 t k) ?_
  refine own_vFW m T16 12 #[vR ar, vR b1] [] (fun t k => XS.astoreN X16.here hx rfl (hb hby d27_11) rfl rfl (l' := #[vR ar, vR b1]) rfl k) ?_
  refine own_vFW m T16 13 #[vR ar, vR b1] [(.ref b1)] (fun t k => XS.aloadN X16.here hx rfl (hb hby d27_12) rfl rfl k) ?_
  refine own_vFW m T16 14 #[vR ar, vR b1] [(.int 0), (.ref b1)] (fun t k => XS.iconst X16.here hx rfl (hb hby d27_13) k) ?_
  refine own_vFW m T16 15 #[vR ar, vR b1] [(.int 0), (.int 0), (.ref b1)] (fun t k => XS.iconst X16.here hx rfl (hb hby d27_14) k) ?_
  refine own_vFW m T16 16 #[vR ar, vR b1] [(.ref b1), (.int 0), (.int 0), (.ref b1)] (fun t k => XS.aloadN X16.here hx rfl (hb hby d27_15) rfl rfl k) ?_
  refine own_vFW m T16 18 #[vR ar, vR b1] [(.int 61), (.ref b1), (.int 0), (.int 0), (.ref b1)] (fun t k => XS.bipush X16.here hx rfl (hb hby d27_16) k) ?_
  obtain ⟨_, T28, L28, X28, hQ28, st28⟩ := own_callV X16 hx hZ (y := (⟨"java/lang/String", "indexOf", "(I)I"⟩ : MethodName)) (W := 3) (C := "java/lang/String") hown (hw _ (own_mt 38 rfl)) (hw _ (own_mt 39 rfl)) (hw _ (own_mt 41 rfl)) (hw _ (own_mt 40 rfl)) (hw _ (own_mt 12 rfl)) (hw _ (own_mt 42 rfl)) (by decide) (rm_Qx12 l Z a0 hw b1 b16s kb16 v1 v2 cs sf iso u8 T16.heap n0 Z27 f22 SS Es16 Fc16 Fv16 Va16) (by decide) (by decide) rfl Es16 (g := (mkF m 18 #[vR ar, vR b1] [(.int 61), (.ref b1), (.int 0), (.int 0), (.ref b1)])) rfl (by rw [hml]; rfl) (argsL := [(.int 61)]) (rest := [(.int 0), (.int 0), (.ref b1)]) rfl (lenOf pd_I__I rfl) rfl own_w0 (hb hby d27_18) (by decide) (by decide)
  obtain ⟨rfl, N28q, e28⟩ := hQ28
  have N28 := Fr.app N16 N28q
  refine own_vFW m T28 21 #[vR ar, vR b1] [(.int (if v1 = (61 : Int32) then (0 : Int32) else (if v2 = (61 : Int32) then (1 : Int32) else (-1 : Int32)))), (.int 0), (.int 0), (.ref b1)] (fun t k => st28 t k) ?_
  obtain ⟨_, T29, L29, X29, hQ29, st29⟩ := own_callS X28 hx hZ (y := (⟨"java/lang/Math", "max", "(II)I"⟩ : MethodName)) (W := 2) hown (hw _ (own_mt 78 rfl)) (hw _ (own_mt 72 rfl)) (hw _ (own_mt 73 rfl)) (hw _ (own_mt 74 rfl)) (by decide) (rm_Qmax l Z a0 hw (0 : Int32) (if v1 = (61 : Int32) then (0 : Int32) else (if v2 = (61 : Int32) then (1 : Int32) else (-1 : Int32))) T16.heap n0 Z27) (by decide) (by decide) e28 (g := (mkF m 21 #[vR ar, vR b1] [(.int (if v1 = (61 : Int32) then (0 : Int32) else (if v2 = (61 : Int32) then (1 : Int32) else (-1 : Int32)))), (.int 0), (.int 0), (.ref b1)])) rfl (by rw [hml]; rfl) (argsL := [(.int 0), (.int (if v1 = (61 : Int32) then (0 : Int32) else (if v2 = (61 : Int32) then (1 : Int32) else (-1 : Int32))))]) (rest := [(.int 0), (.ref b1)]) rfl (lenOf pd_II__I rfl) rfl own_w0 (hb hby d27_21) (by decide) (by decide)
  obtain ⟨rfl, N29q, e29⟩ := hQ29
  have N29 := Fr.app N28 N29q
  refine own_vFW m T29 24 #[vR ar, vR b1] [(.int (if (0 : Int32) < (if v1 = (61 : Int32) then (0 : Int32) else (if v2 = (61 : Int32) then (1 : Int32) else (-1 : Int32))) then (if v1 = (61 : Int32) then (0 : Int32) else (if v2 = (61 : Int32) then (1 : Int32) else (-1 : Int32))) else (0 : Int32))), (.int 0), (.ref b1)] (fun t k => st29 t k) ?_
  rw [hm]
  obtain ⟨_, T30, L30, X30, hS, hZ, hown, hQ30, st30⟩ := own_callVW X29 hx hZ hEL hCH (y := (⟨"java/lang/String", "substring", "(II)Ljava/lang/String;"⟩ : MethodName)) (W := 0) (C := "java/lang/String") hown (hw _ (own_mt 79 rfl)) (hw _ (own_mt 80 rfl)) (hw _ (own_mt 82 rfl)) (hw _ (own_mt 81 rfl)) (hw _ (own_mt 12 rfl)) (hw _ (own_mt 83 rfl)) (by decide) (rm_Qsb20 l Z a0 hw b1 b16s kb16 v1 v2 cs sf iso u8 T16.heap n0 Z27 f22 SS Es16 Fc16 Fv16 Eb16 Va16) (by decide) (by decide) e29 Es16 (g := (mkF m 24 #[vR ar, vR b1] [(.int 0), (.int 0), (.ref b1)])) rfl (by rw [hml]; rfl) (argsL := [(.int 0), (.int 0)]) (rest := []) rfl (lenOf pd_II__Ljava_lang_String_ rfl) rfl own_w0 (hb hby d27_24) (by decide) (by decide)
  have hk30 : T30.heap.size ≤ T30.heap.size := Nat.le_refl _
  obtain ⟨b30r, rfl, N30q, K30q, Es30, Fc30, b30s, kb30, Fv30, Va30⟩ := hQ30
  have N30 := Fr.app N29 N30q
  have K45 := K27.trans K30q all0
  refine own_vFW m T30 27 #[vR ar, vR b1] [(.ref b30r)] (fun t k => st30 t k) ?_
  exact own_retW (s := s) X30 hS (by exact hk30) (v := some (.ref b30r)) (fun h => by rw [hret] at h; cases h) hlk (fun fs hr => retOut X30 hx (t := (.object "java/lang/String")) hret rfl (Or.inr (Or.inr (Or.inr (Or.inr ⟨rfl, rfl, rfl⟩)))) (hb hby d27_27) hr) (by exact ⟨b30r, rfl, N30, K45, Es30, Fc30, b30s, _, Fv30, Va30⟩) (by decide) (by decide)
def Qnm21 (Z : State) (ar : Addr) (kk : ClassId) (v1 v2 : Int32) (cs : Int32) (sf : Value) (iso u8 : Addr) (h0 : Heap) (n0 : Nat) (v : Option Value) (h : Heap) (L : List Loc) : Prop := ∃ r, v = some (.ref r) ∧ Fr n0 L ∧ Keep h0 h [] ∧ Exa Z h r "java/lang/String" ∧ Fld Z h r "java/lang/String" "coder" "B" (.int 0) ∧ ∃ b kb, Fld Z h r "java/lang/String" "value" "[B" (.ref b) ∧ Exa Z h b "[B" ∧ Arv Z h b kb .byte (1 : Int32) [.int v1] (.int 0)
set_option maxRecDepth 65536 in
set_option maxHeartbeats 40000000 in
theorem rm_Qnm21 (l : Launch) (Z : State) (a0 : Array Value) (hw : ∀ d ∈ tables_1, d.before a0 Z = true) (ar : Addr) (kk : ClassId) (v1 v2 : Int32) (cs : Int32) (sf : Value) (iso u8 : Addr) (h0 : Heap) (n0 : Nat) (Z0 : n0 ≤ h0.size) (Od : Old Z n0 h0) (SS : own_SS Z cs sf iso u8) (Ea : Exa Z h0 ar "[B") (Va : Arv Z h0 ar kk .byte (2 : Int32) [(.int v1), (.int v2)] (.int 0)) (hm : (if (0 : Int32) < (if v1 = (61 : Int32) then (0 : Int32) else (if v2 = (61 : Int32) then (1 : Int32) else (-1 : Int32))) then (if v1 = (61 : Int32) then (0 : Int32) else (if v2 = (61 : Int32) then (1 : Int32) else (-1 : Int32))) else (0 : Int32)) = (1 : Int32)) :
    own_MG l Z ((⟨"com/example/bdelloid/bdelloid/os/Environment", "name", "([B)Ljava/lang/String;"⟩ : MethodName)) prog_10_method_3_code 2 (some (.object "java/lang/String")) ({ frames := 5, cells := 4, slots := 11, locals := 122 } : Room) #[(.ref ar)] h0 (Qnm21 Z ar kk v1 v2 cs sf iso u8 h0 n0) := by
  refine own_mkG (plainFor_of_name pn_com_example_bdelloid_bdelloid_os_Environment) ?_
  intro p e s m below meth c s₁ X0 hx hby hml hown hnm hret hlk hZ e0
  have N0 := Fr.nil n0
  have K0 := Keep.refl h0 []
  rw [ef_R2 m ar]
  have Siso := SS.2.2.2.2.1.ext Od.2
  obtain ⟨T1, h1, X1, e1, E1, A1, D1, -, st1⟩ := newO X0 hx hZ hown (hw _ (own_mt 10 rfl)) (hw _ (own_mt 11 rfl)) (hw _ (own_mt 12 rfl)) e0 (g := (mkF m 0 #[vR ar, .unset] [])) rfl (hb hby d27_0) (by decide) (by decide)
  obtain ⟨b1, g1⟩ : ∃ z, z = h0.size := ⟨_, rfl⟩
  rw [← g1] at A1 D1 st1
  have ne2 : ar ≠ b1 := Nat.ne_of_lt (Nat.lt_of_lt_of_le Ea.lt (Nat.le_of_eq g1.symm))
  have gn_b1 : n0 ≤ b1 := Nat.le_trans Z0 (Nat.le_of_eq g1.symm)
  have sz_b1 : h0.size ≤ b1 := Nat.le_trans K0.1 (Nat.le_of_eq g1.symm)
  have f5 := Siso.ext E1
  have f8 := Od.ext E1
  have f9 := Ea.ext E1
  have f11 := Va.ext E1
  have f12 : Fld Z h1 b1 "java/lang/String" "value" "[B" .null := D1 (Or.inr (hw _ (own_mt 32 rfl))) (ty := (.array .byte)) (by decide)
  have f13 : Fld Z h1 b1 "java/lang/String" "coder" "B" (.int 0) := D1 (Or.inr (hw _ (own_mt 33 rfl))) (ty := .byte) (by decide)
  have Z14 : n0 ≤ h1.size := Nat.le_trans Z0 E1.1
  have K14 := K0.ext E1
  refine own_vF m T1 3 #[vR ar, .unset] [(.ref b1)] (fun t k => st1 t k) ?_
  refine own_vF m T1 4 #[vR ar, .unset] [(.ref b1), (.ref b1)] (fun t k => XS.dup X1.here hx rfl (hb hby d27_3) rfl rfl k) ?_
  refine own_vF m T1 5 #[vR ar, .unset] [(.ref ar), (.ref b1), (.ref b1)] (fun t k => XS.aloadN X1.here hx rfl (hb hby d27_4) rfl rfl k) ?_
  obtain ⟨T15, X15, e15, st15⟩ := getS2 (host := "") X1 hx hZ hown (Or.inl (hw _ (own_mt 13 rfl))) Via.refl e1 f5 (g := (mkF m 5 #[vR ar, .unset] [(.ref ar), (.ref b1), (.ref b1)])) rfl (hb hby d27_5)
  refine own_vF m T15 8 #[vR ar, .unset] [(.ref iso), (.ref ar), (.ref b1), (.ref b1)] (fun t k => st15 t k) ?_
  obtain ⟨_, T16, L16, X16, hQ16, st16⟩ := own_callI X15 hx hZ (y := (⟨"java/lang/String", "<init>", "([BLjava/nio/charset/Charset;)V"⟩ : MethodName)) rfl (W := 1) hown (hw _ (own_mt 15 rfl)) (hw _ (own_mt 16 rfl)) (hw _ (own_mt 12 rfl)) (hw _ (own_mt 17 rfl)) (by decide) (rm_Qi22 l Z a0 hw b1 ar kk v1 v2 cs sf iso u8 h1 n0 Z14 f8 SS A1 f12 f13 gn_b1 ne2 f9 f11) (by decide) (by decide) e15 (a := b1) (g := (mkF m 8 #[vR ar, .unset] [(.ref iso), (.ref ar), (.ref b1), (.ref b1)])) rfl (by rw [hml]; rfl) (argsL := [(.ref ar), (.ref iso)]) (rest := [(.ref b1)]) rfl (lenOf pd_ABLjava_nio_charset_Charset___V rfl) rfl own_w0 (hb hby d27_8) (by decide) (by decide)
  obtain ⟨rfl, N16q, K16q, Es16, Fc16, b16s, kb16, Fv16, Eb16, Va16⟩ := hQ16
  have N16 := Fr.app N0 N16q
  have f22 := f8.keep K16q (allS gn_b1 all0)
  have Z27 : n0 ≤ T16.heap.size := Nat.le_trans Z14 K16q.1
  have K27 := K14.trans K16q (allS (Or.inr sz_b1) all0)
  refine own_vF m T16 11 #[vR ar, .unset] [(.ref b1)] (fun t k => st16 t k) ?_
  refine own_vF m T16 12 #[vR ar, vR b1] [] (fun t k => XS.astoreN X16.here hx rfl (hb hby d27_11) rfl rfl (l' := #[vR ar, vR b1]) rfl k) ?_
  refine own_vF m T16 13 #[vR ar, vR b1] [(.ref b1)] (fun t k => XS.aloadN X16.here hx rfl (hb hby d27_12) rfl rfl k) ?_
  refine own_vF m T16 14 #[vR ar, vR b1] [(.int 0), (.ref b1)] (fun t k => XS.iconst X16.here hx rfl (hb hby d27_13) k) ?_
  refine own_vF m T16 15 #[vR ar, vR b1] [(.int 0), (.int 0), (.ref b1)] (fun t k => XS.iconst X16.here hx rfl (hb hby d27_14) k) ?_
  refine own_vF m T16 16 #[vR ar, vR b1] [(.ref b1), (.int 0), (.int 0), (.ref b1)] (fun t k => XS.aloadN X16.here hx rfl (hb hby d27_15) rfl rfl k) ?_
  refine own_vF m T16 18 #[vR ar, vR b1] [(.int 61), (.ref b1), (.int 0), (.int 0), (.ref b1)] (fun t k => XS.bipush X16.here hx rfl (hb hby d27_16) k) ?_
  obtain ⟨_, T28, L28, X28, hQ28, st28⟩ := own_callV X16 hx hZ (y := (⟨"java/lang/String", "indexOf", "(I)I"⟩ : MethodName)) (W := 3) (C := "java/lang/String") hown (hw _ (own_mt 38 rfl)) (hw _ (own_mt 39 rfl)) (hw _ (own_mt 41 rfl)) (hw _ (own_mt 40 rfl)) (hw _ (own_mt 12 rfl)) (hw _ (own_mt 42 rfl)) (by decide) (rm_Qx12 l Z a0 hw b1 b16s kb16 v1 v2 cs sf iso u8 T16.heap n0 Z27 f22 SS Es16 Fc16 Fv16 Va16) (by decide) (by decide) rfl Es16 (g := (mkF m 18 #[vR ar, vR b1] [(.int 61), (.ref b1), (.int 0), (.int 0), (.ref b1)])) rfl (by rw [hml]; rfl) (argsL := [(.int 61)]) (rest := [(.int 0), (.int 0), (.ref b1)]) rfl (lenOf pd_I__I rfl) rfl own_w0 (hb hby d27_18) (by decide) (by decide)
  obtain ⟨rfl, N28q, e28⟩ := hQ28
  have N28 := Fr.app N16 N28q
  refine own_vF m T28 21 #[vR ar, vR b1] [(.int (if v1 = (61 : Int32) then (0 : Int32) else (if v2 = (61 : Int32) then (1 : Int32) else (-1 : Int32)))), (.int 0), (.int 0), (.ref b1)] (fun t k => st28 t k) ?_
  obtain ⟨_, T29, L29, X29, hQ29, st29⟩ := own_callS X28 hx hZ (y := (⟨"java/lang/Math", "max", "(II)I"⟩ : MethodName)) (W := 2) hown (hw _ (own_mt 78 rfl)) (hw _ (own_mt 72 rfl)) (hw _ (own_mt 73 rfl)) (hw _ (own_mt 74 rfl)) (by decide) (rm_Qmax l Z a0 hw (0 : Int32) (if v1 = (61 : Int32) then (0 : Int32) else (if v2 = (61 : Int32) then (1 : Int32) else (-1 : Int32))) T16.heap n0 Z27) (by decide) (by decide) e28 (g := (mkF m 21 #[vR ar, vR b1] [(.int (if v1 = (61 : Int32) then (0 : Int32) else (if v2 = (61 : Int32) then (1 : Int32) else (-1 : Int32)))), (.int 0), (.int 0), (.ref b1)])) rfl (by rw [hml]; rfl) (argsL := [(.int 0), (.int (if v1 = (61 : Int32) then (0 : Int32) else (if v2 = (61 : Int32) then (1 : Int32) else (-1 : Int32))))]) (rest := [(.int 0), (.ref b1)]) rfl (lenOf pd_II__I rfl) rfl own_w0 (hb hby d27_21) (by decide) (by decide)
  obtain ⟨rfl, N29q, e29⟩ := hQ29
  have N29 := Fr.app N28 N29q
  refine own_vF m T29 24 #[vR ar, vR b1] [(.int (if (0 : Int32) < (if v1 = (61 : Int32) then (0 : Int32) else (if v2 = (61 : Int32) then (1 : Int32) else (-1 : Int32))) then (if v1 = (61 : Int32) then (0 : Int32) else (if v2 = (61 : Int32) then (1 : Int32) else (-1 : Int32))) else (0 : Int32))), (.int 0), (.ref b1)] (fun t k => st29 t k) ?_
  rw [hm]
  obtain ⟨_, T30, L30, X30, hQ30, st30⟩ := own_callV X29 hx hZ (y := (⟨"java/lang/String", "substring", "(II)Ljava/lang/String;"⟩ : MethodName)) (W := 0) (C := "java/lang/String") hown (hw _ (own_mt 79 rfl)) (hw _ (own_mt 80 rfl)) (hw _ (own_mt 82 rfl)) (hw _ (own_mt 81 rfl)) (hw _ (own_mt 12 rfl)) (hw _ (own_mt 83 rfl)) (by decide) (rm_Qsb21 l Z a0 hw b1 b16s kb16 v1 v2 cs sf iso u8 T16.heap n0 Z27 f22 SS Es16 Fc16 Fv16 Eb16 Va16) (by decide) (by decide) e29 Es16 (g := (mkF m 24 #[vR ar, vR b1] [(.int 1), (.int 0), (.ref b1)])) rfl (by rw [hml]; rfl) (argsL := [(.int 0), (.int 1)]) (rest := []) rfl (lenOf pd_II__Ljava_lang_String_ rfl) rfl own_w0 (hb hby d27_24) (by decide) (by decide)
  obtain ⟨b30r, rfl, N30q, K30q, Es30, Fc30, b30s, kb30, Fv30, Eb30, Va30⟩ := hQ30
  have N30 := Fr.app N29 N30q
  have K45 := K27.trans K30q all0
  refine own_vF m T30 27 #[vR ar, vR b1] [(.ref b30r)] (fun t k => st30 t k) ?_
  exact own_ret X30 (v := some (.ref b30r)) (fun h => by rw [hret] at h; cases h) hlk (fun fs hr => retOut X30 hx (t := (.object "java/lang/String")) hret rfl (Or.inr (Or.inr (Or.inr (Or.inr ⟨rfl, rfl, rfl⟩)))) (hb hby d27_27) hr) (by exact ⟨b30r, rfl, N30, K45, Es30, Fc30, b30s, _, Fv30, Eb30, Va30⟩) (by decide) (by decide)
def Qnm30 (Z : State) (ar : Addr) (kk : ClassId) (v1 v2 v3 : Int32) (cs : Int32) (sf : Value) (iso u8 : Addr) (h0 : Heap) (n0 : Nat) (v : Option Value) (h : Heap) (L : List Loc) : Prop := ∃ r, v = some (.ref r) ∧ Fr n0 L ∧ Keep h0 h [] ∧ Exa Z h r "java/lang/String" ∧ Fld Z h r "java/lang/String" "coder" "B" (.int 0) ∧ ∃ b kb, Fld Z h r "java/lang/String" "value" "[B" (.ref b) ∧ Arv Z h b kb .byte (0 : Int32) [] (.int 0)
set_option maxRecDepth 65536 in
set_option maxHeartbeats 40000000 in
theorem rm_Qnm30 (l : Launch) (Z : State) (a0 : Array Value) (hw : ∀ d ∈ tables_1, d.before a0 Z = true) (ar : Addr) (kk : ClassId) (v1 v2 v3 : Int32) (cs : Int32) (sf : Value) (iso u8 : Addr) (h0 : Heap) (n0 : Nat) (Z0 : n0 ≤ h0.size) (Od : Old Z n0 h0) (SS : own_SS Z cs sf iso u8) (Ea : Exa Z h0 ar "[B") (Va : Arv Z h0 ar kk .byte (3 : Int32) [(.int v1), (.int v2), (.int v3)] (.int 0)) (hm : (if (0 : Int32) < (if v1 = (61 : Int32) then (0 : Int32) else (if v2 = (61 : Int32) then (1 : Int32) else (if v3 = (61 : Int32) then (2 : Int32) else (-1 : Int32)))) then (if v1 = (61 : Int32) then (0 : Int32) else (if v2 = (61 : Int32) then (1 : Int32) else (if v3 = (61 : Int32) then (2 : Int32) else (-1 : Int32)))) else (0 : Int32)) = (0 : Int32)) :
    own_MW l Z ((⟨"com/example/bdelloid/bdelloid/os/Environment", "name", "([B)Ljava/lang/String;"⟩ : MethodName)) prog_10_method_3_code 2 (some (.object "java/lang/String")) ({ frames := 4, cells := 4, slots := 11, locals := 66 } : Room) #[(.ref ar)] h0 (Qnm30 Z ar kk v1 v2 v3 cs sf iso u8 h0 n0) := by
  refine own_mkW (plainFor_of_name pn_com_example_bdelloid_bdelloid_os_Environment) ?_
  intro p e s m below meth c s₁ X0 hx hby hml hown hnm hret hlk hZ e0 hCH
  have hEL := own_hEL hw
  have N0 := Fr.nil n0
  have K0 := Keep.refl h0 []
  rw [ef_R2 m ar]
  have Siso := SS.2.2.2.2.1.ext Od.2
  obtain ⟨T1, h1, X1, e1, E1, A1, D1, -, st1⟩ := newO X0 hx hZ hown (hw _ (own_mt 10 rfl)) (hw _ (own_mt 11 rfl)) (hw _ (own_mt 12 rfl)) e0 (g := (mkF m 0 #[vR ar, .unset] [])) rfl (hb hby d27_0) (by decide) (by decide)
  obtain ⟨b1, g1⟩ : ∃ z, z = h0.size := ⟨_, rfl⟩
  rw [← g1] at A1 D1 st1
  have ne2 : ar ≠ b1 := Nat.ne_of_lt (Nat.lt_of_lt_of_le Ea.lt (Nat.le_of_eq g1.symm))
  have gn_b1 : n0 ≤ b1 := Nat.le_trans Z0 (Nat.le_of_eq g1.symm)
  have sz_b1 : h0.size ≤ b1 := Nat.le_trans K0.1 (Nat.le_of_eq g1.symm)
  have f5 := Siso.ext E1
  have f8 := Od.ext E1
  have f9 := Ea.ext E1
  have f11 := Va.ext E1
  have f12 : Fld Z h1 b1 "java/lang/String" "value" "[B" .null := D1 (Or.inr (hw _ (own_mt 32 rfl))) (ty := (.array .byte)) (by decide)
  have f13 : Fld Z h1 b1 "java/lang/String" "coder" "B" (.int 0) := D1 (Or.inr (hw _ (own_mt 33 rfl))) (ty := .byte) (by decide)
  have Z14 : n0 ≤ h1.size := Nat.le_trans Z0 E1.1
  have K14 := K0.ext E1
  refine own_vFW m T1 3 #[vR ar, .unset] [(.ref b1)] (fun t k => st1 t k) ?_
  refine own_vFW m T1 4 #[vR ar, .unset] [(.ref b1), (.ref b1)] (fun t k => XS.dup X1.here hx rfl (hb hby d27_3) rfl rfl k) ?_
  refine own_vFW m T1 5 #[vR ar, .unset] [(.ref ar), (.ref b1), (.ref b1)] (fun t k => XS.aloadN X1.here hx rfl (hb hby d27_4) rfl rfl k) ?_
  obtain ⟨T15, X15, e15, st15⟩ := getS2 (host := "") X1 hx hZ hown (Or.inl (hw _ (own_mt 13 rfl))) Via.refl e1 f5 (g := (mkF m 5 #[vR ar, .unset] [(.ref ar), (.ref b1), (.ref b1)])) rfl (hb hby d27_5)
  refine own_vFW m T15 8 #[vR ar, .unset] [(.ref iso), (.ref ar), (.ref b1), (.ref b1)] (fun t k => st15 t k) ?_
  obtain ⟨_, T16, L16, X16, hQ16, st16⟩ := own_callI X15 hx hZ (y := (⟨"java/lang/String", "<init>", "([BLjava/nio/charset/Charset;)V"⟩ : MethodName)) rfl (W := 1) hown (hw _ (own_mt 15 rfl)) (hw _ (own_mt 16 rfl)) (hw _ (own_mt 12 rfl)) (hw _ (own_mt 17 rfl)) (by decide) (rm_Qi23 l Z a0 hw b1 ar kk v1 v2 v3 cs sf iso u8 h1 n0 Z14 f8 SS A1 f12 f13 gn_b1 ne2 f9 f11) (by decide) (by decide) e15 (a := b1) (g := (mkF m 8 #[vR ar, .unset] [(.ref iso), (.ref ar), (.ref b1), (.ref b1)])) rfl (by rw [hml]; rfl) (argsL := [(.ref ar), (.ref iso)]) (rest := [(.ref b1)]) rfl (lenOf pd_ABLjava_nio_charset_Charset___V rfl) rfl own_w0 (hb hby d27_8) (by decide) (by decide)
  obtain ⟨rfl, N16q, K16q, Es16, Fc16, b16s, kb16, Fv16, Eb16, Va16⟩ := hQ16
  have N16 := Fr.app N0 N16q
  have f22 := f8.keep K16q (allS gn_b1 all0)
  have Z27 : n0 ≤ T16.heap.size := Nat.le_trans Z14 K16q.1
  have K27 := K14.trans K16q (allS (Or.inr sz_b1) all0)
  refine own_vFW m T16 11 #[vR ar, .unset] [(.ref b1)] (fun t k => st16 t k) ?_
  refine own_vFW m T16 12 #[vR ar, vR b1] [] (fun t k => XS.astoreN X16.here hx rfl (hb hby d27_11) rfl rfl (l' := #[vR ar, vR b1]) rfl k) ?_
  refine own_vFW m T16 13 #[vR ar, vR b1] [(.ref b1)] (fun t k => XS.aloadN X16.here hx rfl (hb hby d27_12) rfl rfl k) ?_
  refine own_vFW m T16 14 #[vR ar, vR b1] [(.int 0), (.ref b1)] (fun t k => XS.iconst X16.here hx rfl (hb hby d27_13) k) ?_
  refine own_vFW m T16 15 #[vR ar, vR b1] [(.int 0), (.int 0), (.ref b1)] (fun t k => XS.iconst X16.here hx rfl (hb hby d27_14) k) ?_
  refine own_vFW m T16 16 #[vR ar, vR b1] [(.ref b1), (.int 0), (.int 0), (.ref b1)] (fun t k => XS.aloadN X16.here hx rfl (hb hby d27_15) rfl rfl k) ?_
  refine own_vFW m T16 18 #[vR ar, vR b1] [(.int 61), (.ref b1), (.int 0), (.int 0), (.ref b1)] (fun t k => XS.bipush X16.here hx rfl (hb hby d27_16) k) ?_
  obtain ⟨_, T28, L28, X28, hQ28, st28⟩ := own_callV X16 hx hZ (y := (⟨"java/lang/String", "indexOf", "(I)I"⟩ : MethodName)) (W := 3) (C := "java/lang/String") hown (hw _ (own_mt 38 rfl)) (hw _ (own_mt 39 rfl)) (hw _ (own_mt 41 rfl)) (hw _ (own_mt 40 rfl)) (hw _ (own_mt 12 rfl)) (hw _ (own_mt 42 rfl)) (by decide) (rm_Qx13 l Z a0 hw b1 b16s kb16 v1 v2 v3 cs sf iso u8 T16.heap n0 Z27 f22 SS Es16 Fc16 Fv16 Va16) (by decide) (by decide) rfl Es16 (g := (mkF m 18 #[vR ar, vR b1] [(.int 61), (.ref b1), (.int 0), (.int 0), (.ref b1)])) rfl (by rw [hml]; rfl) (argsL := [(.int 61)]) (rest := [(.int 0), (.int 0), (.ref b1)]) rfl (lenOf pd_I__I rfl) rfl own_w0 (hb hby d27_18) (by decide) (by decide)
  obtain ⟨rfl, N28q, e28⟩ := hQ28
  have N28 := Fr.app N16 N28q
  refine own_vFW m T28 21 #[vR ar, vR b1] [(.int (if v1 = (61 : Int32) then (0 : Int32) else (if v2 = (61 : Int32) then (1 : Int32) else (if v3 = (61 : Int32) then (2 : Int32) else (-1 : Int32))))), (.int 0), (.int 0), (.ref b1)] (fun t k => st28 t k) ?_
  obtain ⟨_, T29, L29, X29, hQ29, st29⟩ := own_callS X28 hx hZ (y := (⟨"java/lang/Math", "max", "(II)I"⟩ : MethodName)) (W := 2) hown (hw _ (own_mt 78 rfl)) (hw _ (own_mt 72 rfl)) (hw _ (own_mt 73 rfl)) (hw _ (own_mt 74 rfl)) (by decide) (rm_Qmax l Z a0 hw (0 : Int32) (if v1 = (61 : Int32) then (0 : Int32) else (if v2 = (61 : Int32) then (1 : Int32) else (if v3 = (61 : Int32) then (2 : Int32) else (-1 : Int32)))) T16.heap n0 Z27) (by decide) (by decide) e28 (g := (mkF m 21 #[vR ar, vR b1] [(.int (if v1 = (61 : Int32) then (0 : Int32) else (if v2 = (61 : Int32) then (1 : Int32) else (if v3 = (61 : Int32) then (2 : Int32) else (-1 : Int32))))), (.int 0), (.int 0), (.ref b1)])) rfl (by rw [hml]; rfl) (argsL := [(.int 0), (.int (if v1 = (61 : Int32) then (0 : Int32) else (if v2 = (61 : Int32) then (1 : Int32) else (if v3 = (61 : Int32) then (2 : Int32) else (-1 : Int32)))))]) (rest := [(.int 0), (.ref b1)]) rfl (lenOf pd_II__I rfl) rfl own_w0 (hb hby d27_21) (by decide) (by decide)
  obtain ⟨rfl, N29q, e29⟩ := hQ29
  have N29 := Fr.app N28 N29q
  refine own_vFW m T29 24 #[vR ar, vR b1] [(.int (if (0 : Int32) < (if v1 = (61 : Int32) then (0 : Int32) else (if v2 = (61 : Int32) then (1 : Int32) else (if v3 = (61 : Int32) then (2 : Int32) else (-1 : Int32)))) then (if v1 = (61 : Int32) then (0 : Int32) else (if v2 = (61 : Int32) then (1 : Int32) else (if v3 = (61 : Int32) then (2 : Int32) else (-1 : Int32)))) else (0 : Int32))), (.int 0), (.ref b1)] (fun t k => st29 t k) ?_
  rw [hm]
  obtain ⟨_, T30, L30, X30, hS, hZ, hown, hQ30, st30⟩ := own_callVW X29 hx hZ hEL hCH (y := (⟨"java/lang/String", "substring", "(II)Ljava/lang/String;"⟩ : MethodName)) (W := 0) (C := "java/lang/String") hown (hw _ (own_mt 79 rfl)) (hw _ (own_mt 80 rfl)) (hw _ (own_mt 82 rfl)) (hw _ (own_mt 81 rfl)) (hw _ (own_mt 12 rfl)) (hw _ (own_mt 83 rfl)) (by decide) (rm_Qsb30 l Z a0 hw b1 b16s kb16 v1 v2 v3 cs sf iso u8 T16.heap n0 Z27 f22 SS Es16 Fc16 Fv16 Eb16 Va16) (by decide) (by decide) e29 Es16 (g := (mkF m 24 #[vR ar, vR b1] [(.int 0), (.int 0), (.ref b1)])) rfl (by rw [hml]; rfl) (argsL := [(.int 0), (.int 0)]) (rest := []) rfl (lenOf pd_II__Ljava_lang_String_ rfl) rfl own_w0 (hb hby d27_24) (by decide) (by decide)
  have hk30 : T30.heap.size ≤ T30.heap.size := Nat.le_refl _
  obtain ⟨b30r, rfl, N30q, K30q, Es30, Fc30, b30s, kb30, Fv30, Va30⟩ := hQ30
  have N30 := Fr.app N29 N30q
  have K45 := K27.trans K30q all0
  refine own_vFW m T30 27 #[vR ar, vR b1] [(.ref b30r)] (fun t k => st30 t k) ?_
  exact own_retW (s := s) X30 hS (by exact hk30) (v := some (.ref b30r)) (fun h => by rw [hret] at h; cases h) hlk (fun fs hr => retOut X30 hx (t := (.object "java/lang/String")) hret rfl (Or.inr (Or.inr (Or.inr (Or.inr ⟨rfl, rfl, rfl⟩)))) (hb hby d27_27) hr) (by exact ⟨b30r, rfl, N30, K45, Es30, Fc30, b30s, _, Fv30, Va30⟩) (by decide) (by decide)
def Qnm31 (Z : State) (ar : Addr) (kk : ClassId) (v1 v2 v3 : Int32) (cs : Int32) (sf : Value) (iso u8 : Addr) (h0 : Heap) (n0 : Nat) (v : Option Value) (h : Heap) (L : List Loc) : Prop := ∃ r, v = some (.ref r) ∧ Fr n0 L ∧ Keep h0 h [] ∧ Exa Z h r "java/lang/String" ∧ Fld Z h r "java/lang/String" "coder" "B" (.int 0) ∧ ∃ b kb, Fld Z h r "java/lang/String" "value" "[B" (.ref b) ∧ Exa Z h b "[B" ∧ Arv Z h b kb .byte (1 : Int32) [.int v1] (.int 0)
set_option maxRecDepth 65536 in
set_option maxHeartbeats 40000000 in
theorem rm_Qnm31 (l : Launch) (Z : State) (a0 : Array Value) (hw : ∀ d ∈ tables_1, d.before a0 Z = true) (ar : Addr) (kk : ClassId) (v1 v2 v3 : Int32) (cs : Int32) (sf : Value) (iso u8 : Addr) (h0 : Heap) (n0 : Nat) (Z0 : n0 ≤ h0.size) (Od : Old Z n0 h0) (SS : own_SS Z cs sf iso u8) (Ea : Exa Z h0 ar "[B") (Va : Arv Z h0 ar kk .byte (3 : Int32) [(.int v1), (.int v2), (.int v3)] (.int 0)) (hm : (if (0 : Int32) < (if v1 = (61 : Int32) then (0 : Int32) else (if v2 = (61 : Int32) then (1 : Int32) else (if v3 = (61 : Int32) then (2 : Int32) else (-1 : Int32)))) then (if v1 = (61 : Int32) then (0 : Int32) else (if v2 = (61 : Int32) then (1 : Int32) else (if v3 = (61 : Int32) then (2 : Int32) else (-1 : Int32)))) else (0 : Int32)) = (1 : Int32)) :
    own_MG l Z ((⟨"com/example/bdelloid/bdelloid/os/Environment", "name", "([B)Ljava/lang/String;"⟩ : MethodName)) prog_10_method_3_code 2 (some (.object "java/lang/String")) ({ frames := 5, cells := 4, slots := 12, locals := 122 } : Room) #[(.ref ar)] h0 (Qnm31 Z ar kk v1 v2 v3 cs sf iso u8 h0 n0) := by
  refine own_mkG (plainFor_of_name pn_com_example_bdelloid_bdelloid_os_Environment) ?_
  intro p e s m below meth c s₁ X0 hx hby hml hown hnm hret hlk hZ e0
  have N0 := Fr.nil n0
  have K0 := Keep.refl h0 []
  rw [ef_R2 m ar]
  have Siso := SS.2.2.2.2.1.ext Od.2
  obtain ⟨T1, h1, X1, e1, E1, A1, D1, -, st1⟩ := newO X0 hx hZ hown (hw _ (own_mt 10 rfl)) (hw _ (own_mt 11 rfl)) (hw _ (own_mt 12 rfl)) e0 (g := (mkF m 0 #[vR ar, .unset] [])) rfl (hb hby d27_0) (by decide) (by decide)
  obtain ⟨b1, g1⟩ : ∃ z, z = h0.size := ⟨_, rfl⟩
  rw [← g1] at A1 D1 st1
  have ne2 : ar ≠ b1 := Nat.ne_of_lt (Nat.lt_of_lt_of_le Ea.lt (Nat.le_of_eq g1.symm))
  have gn_b1 : n0 ≤ b1 := Nat.le_trans Z0 (Nat.le_of_eq g1.symm)
  have sz_b1 : h0.size ≤ b1 := Nat.le_trans K0.1 (Nat.le_of_eq g1.symm)
  have f5 := Siso.ext E1
  have f8 := Od.ext E1
  have f9 := Ea.ext E1
  have f11 := Va.ext E1
  have f12 : Fld Z h1 b1 "java/lang/String" "value" "[B" .null := D1 (Or.inr (hw _ (own_mt 32 rfl))) (ty := (.array .byte)) (by decide)
  have f13 : Fld Z h1 b1 "java/lang/String" "coder" "B" (.int 0) := D1 (Or.inr (hw _ (own_mt 33 rfl))) (ty := .byte) (by decide)
  have Z14 : n0 ≤ h1.size := Nat.le_trans Z0 E1.1
  have K14 := K0.ext E1
  refine own_vF m T1 3 #[vR ar, .unset] [(.ref b1)] (fun t k => st1 t k) ?_
  refine own_vF m T1 4 #[vR ar, .unset] [(.ref b1), (.ref b1)] (fun t k => XS.dup X1.here hx rfl (hb hby d27_3) rfl rfl k) ?_
  refine own_vF m T1 5 #[vR ar, .unset] [(.ref ar), (.ref b1), (.ref b1)] (fun t k => XS.aloadN X1.here hx rfl (hb hby d27_4) rfl rfl k) ?_
  obtain ⟨T15, X15, e15, st15⟩ := getS2 (host := "") X1 hx hZ hown (Or.inl (hw _ (own_mt 13 rfl))) Via.refl e1 f5 (g := (mkF m 5 #[vR ar, .unset] [(.ref ar), (.ref b1), (.ref b1)])) rfl (hb hby d27_5)
  refine own_vF m T15 8 #[vR ar, .unset] [(.ref iso), (.ref ar), (.ref b1), (.ref b1)] (fun t k => st15 t k) ?_
  obtain ⟨_, T16, L16, X16, hQ16, st16⟩ := own_callI X15 hx hZ (y := (⟨"java/lang/String", "<init>", "([BLjava/nio/charset/Charset;)V"⟩ : MethodName)) rfl (W := 1) hown (hw _ (own_mt 15 rfl)) (hw _ (own_mt 16 rfl)) (hw _ (own_mt 12 rfl)) (hw _ (own_mt 17 rfl)) (by decide) (rm_Qi23 l Z a0 hw b1 ar kk v1 v2 v3 cs sf iso u8 h1 n0 Z14 f8 SS A1 f12 f13 gn_b1 ne2 f9 f11) (by decide) (by decide) e15 (a := b1) (g := (mkF m 8 #[vR ar, .unset] [(.ref iso), (.ref ar), (.ref b1), (.ref b1)])) rfl (by rw [hml]; rfl) (argsL := [(.ref ar), (.ref iso)]) (rest := [(.ref b1)]) rfl (lenOf pd_ABLjava_nio_charset_Charset___V rfl) rfl own_w0 (hb hby d27_8) (by decide) (by decide)
  obtain ⟨rfl, N16q, K16q, Es16, Fc16, b16s, kb16, Fv16, Eb16, Va16⟩ := hQ16
  have N16 := Fr.app N0 N16q
  have f22 := f8.keep K16q (allS gn_b1 all0)
  have Z27 : n0 ≤ T16.heap.size := Nat.le_trans Z14 K16q.1
  have K27 := K14.trans K16q (allS (Or.inr sz_b1) all0)
  refine own_vF m T16 11 #[vR ar, .unset] [(.ref b1)] (fun t k => st16 t k) ?_
  refine own_vF m T16 12 #[vR ar, vR b1] [] (fun t k => XS.astoreN X16.here hx rfl (hb hby d27_11) rfl rfl (l' := #[vR ar, vR b1]) rfl k) ?_
  refine own_vF m T16 13 #[vR ar, vR b1] [(.ref b1)] (fun t k => XS.aloadN X16.here hx rfl (hb hby d27_12) rfl rfl k) ?_
  refine own_vF m T16 14 #[vR ar, vR b1] [(.int 0), (.ref b1)] (fun t k => XS.iconst X16.here hx rfl (hb hby d27_13) k) ?_
  refine own_vF m T16 15 #[vR ar, vR b1] [(.int 0), (.int 0), (.ref b1)] (fun t k => XS.iconst X16.here hx rfl (hb hby d27_14) k) ?_
  refine own_vF m T16 16 #[vR ar, vR b1] [(.ref b1), (.int 0), (.int 0), (.ref b1)] (fun t k => XS.aloadN X16.here hx rfl (hb hby d27_15) rfl rfl k) ?_
  refine own_vF m T16 18 #[vR ar, vR b1] [(.int 61), (.ref b1), (.int 0), (.int 0), (.ref b1)] (fun t k => XS.bipush X16.here hx rfl (hb hby d27_16) k) ?_
  obtain ⟨_, T28, L28, X28, hQ28, st28⟩ := own_callV X16 hx hZ (y := (⟨"java/lang/String", "indexOf", "(I)I"⟩ : MethodName)) (W := 3) (C := "java/lang/String") hown (hw _ (own_mt 38 rfl)) (hw _ (own_mt 39 rfl)) (hw _ (own_mt 41 rfl)) (hw _ (own_mt 40 rfl)) (hw _ (own_mt 12 rfl)) (hw _ (own_mt 42 rfl)) (by decide) (rm_Qx13 l Z a0 hw b1 b16s kb16 v1 v2 v3 cs sf iso u8 T16.heap n0 Z27 f22 SS Es16 Fc16 Fv16 Va16) (by decide) (by decide) rfl Es16 (g := (mkF m 18 #[vR ar, vR b1] [(.int 61), (.ref b1), (.int 0), (.int 0), (.ref b1)])) rfl (by rw [hml]; rfl) (argsL := [(.int 61)]) (rest := [(.int 0), (.int 0), (.ref b1)]) rfl (lenOf pd_I__I rfl) rfl own_w0 (hb hby d27_18) (by decide) (by decide)
  obtain ⟨rfl, N28q, e28⟩ := hQ28
  have N28 := Fr.app N16 N28q
  refine own_vF m T28 21 #[vR ar, vR b1] [(.int (if v1 = (61 : Int32) then (0 : Int32) else (if v2 = (61 : Int32) then (1 : Int32) else (if v3 = (61 : Int32) then (2 : Int32) else (-1 : Int32))))), (.int 0), (.int 0), (.ref b1)] (fun t k => st28 t k) ?_
  obtain ⟨_, T29, L29, X29, hQ29, st29⟩ := own_callS X28 hx hZ (y := (⟨"java/lang/Math", "max", "(II)I"⟩ : MethodName)) (W := 2) hown (hw _ (own_mt 78 rfl)) (hw _ (own_mt 72 rfl)) (hw _ (own_mt 73 rfl)) (hw _ (own_mt 74 rfl)) (by decide) (rm_Qmax l Z a0 hw (0 : Int32) (if v1 = (61 : Int32) then (0 : Int32) else (if v2 = (61 : Int32) then (1 : Int32) else (if v3 = (61 : Int32) then (2 : Int32) else (-1 : Int32)))) T16.heap n0 Z27) (by decide) (by decide) e28 (g := (mkF m 21 #[vR ar, vR b1] [(.int (if v1 = (61 : Int32) then (0 : Int32) else (if v2 = (61 : Int32) then (1 : Int32) else (if v3 = (61 : Int32) then (2 : Int32) else (-1 : Int32))))), (.int 0), (.int 0), (.ref b1)])) rfl (by rw [hml]; rfl) (argsL := [(.int 0), (.int (if v1 = (61 : Int32) then (0 : Int32) else (if v2 = (61 : Int32) then (1 : Int32) else (if v3 = (61 : Int32) then (2 : Int32) else (-1 : Int32)))))]) (rest := [(.int 0), (.ref b1)]) rfl (lenOf pd_II__I rfl) rfl own_w0 (hb hby d27_21) (by decide) (by decide)
  obtain ⟨rfl, N29q, e29⟩ := hQ29
  have N29 := Fr.app N28 N29q
  refine own_vF m T29 24 #[vR ar, vR b1] [(.int (if (0 : Int32) < (if v1 = (61 : Int32) then (0 : Int32) else (if v2 = (61 : Int32) then (1 : Int32) else (if v3 = (61 : Int32) then (2 : Int32) else (-1 : Int32)))) then (if v1 = (61 : Int32) then (0 : Int32) else (if v2 = (61 : Int32) then (1 : Int32) else (if v3 = (61 : Int32) then (2 : Int32) else (-1 : Int32)))) else (0 : Int32))), (.int 0), (.ref b1)] (fun t k => st29 t k) ?_
  rw [hm]
  obtain ⟨_, T30, L30, X30, hQ30, st30⟩ := own_callV X29 hx hZ (y := (⟨"java/lang/String", "substring", "(II)Ljava/lang/String;"⟩ : MethodName)) (W := 0) (C := "java/lang/String") hown (hw _ (own_mt 79 rfl)) (hw _ (own_mt 80 rfl)) (hw _ (own_mt 82 rfl)) (hw _ (own_mt 81 rfl)) (hw _ (own_mt 12 rfl)) (hw _ (own_mt 83 rfl)) (by decide) (rm_Qsb31 l Z a0 hw b1 b16s kb16 v1 v2 v3 cs sf iso u8 T16.heap n0 Z27 f22 SS Es16 Fc16 Fv16 Eb16 Va16) (by decide) (by decide) e29 Es16 (g := (mkF m 24 #[vR ar, vR b1] [(.int 1), (.int 0), (.ref b1)])) rfl (by rw [hml]; rfl) (argsL := [(.int 0), (.int 1)]) (rest := []) rfl (lenOf pd_II__Ljava_lang_String_ rfl) rfl own_w0 (hb hby d27_24) (by decide) (by decide)
  obtain ⟨b30r, rfl, N30q, K30q, Es30, Fc30, b30s, kb30, Fv30, Eb30, Va30⟩ := hQ30
  have N30 := Fr.app N29 N30q
  have K45 := K27.trans K30q all0
  refine own_vF m T30 27 #[vR ar, vR b1] [(.ref b30r)] (fun t k => st30 t k) ?_
  exact own_ret X30 (v := some (.ref b30r)) (fun h => by rw [hret] at h; cases h) hlk (fun fs hr => retOut X30 hx (t := (.object "java/lang/String")) hret rfl (Or.inr (Or.inr (Or.inr (Or.inr ⟨rfl, rfl, rfl⟩)))) (hb hby d27_27) hr) (by exact ⟨b30r, rfl, N30, K45, Es30, Fc30, b30s, _, Fv30, Eb30, Va30⟩) (by decide) (by decide)
def Qnm32 (Z : State) (ar : Addr) (kk : ClassId) (v1 v2 v3 : Int32) (cs : Int32) (sf : Value) (iso u8 : Addr) (h0 : Heap) (n0 : Nat) (v : Option Value) (h : Heap) (L : List Loc) : Prop := ∃ r, v = some (.ref r) ∧ Fr n0 L ∧ Keep h0 h [] ∧ Exa Z h r "java/lang/String" ∧ Fld Z h r "java/lang/String" "coder" "B" (.int 0) ∧ ∃ b kb, Fld Z h r "java/lang/String" "value" "[B" (.ref b) ∧ Exa Z h b "[B" ∧ Arv Z h b kb .byte (2 : Int32) [.int v1, .int v2] (.int 0)
set_option maxRecDepth 65536 in
set_option maxHeartbeats 40000000 in
theorem rm_Qnm32 (l : Launch) (Z : State) (a0 : Array Value) (hw : ∀ d ∈ tables_1, d.before a0 Z = true) (ar : Addr) (kk : ClassId) (v1 v2 v3 : Int32) (cs : Int32) (sf : Value) (iso u8 : Addr) (h0 : Heap) (n0 : Nat) (Z0 : n0 ≤ h0.size) (Od : Old Z n0 h0) (SS : own_SS Z cs sf iso u8) (Ea : Exa Z h0 ar "[B") (Va : Arv Z h0 ar kk .byte (3 : Int32) [(.int v1), (.int v2), (.int v3)] (.int 0)) (hm : (if (0 : Int32) < (if v1 = (61 : Int32) then (0 : Int32) else (if v2 = (61 : Int32) then (1 : Int32) else (if v3 = (61 : Int32) then (2 : Int32) else (-1 : Int32)))) then (if v1 = (61 : Int32) then (0 : Int32) else (if v2 = (61 : Int32) then (1 : Int32) else (if v3 = (61 : Int32) then (2 : Int32) else (-1 : Int32)))) else (0 : Int32)) = (2 : Int32)) :
    own_MG l Z ((⟨"com/example/bdelloid/bdelloid/os/Environment", "name", "([B)Ljava/lang/String;"⟩ : MethodName)) prog_10_method_3_code 2 (some (.object "java/lang/String")) ({ frames := 5, cells := 4, slots := 13, locals := 122 } : Room) #[(.ref ar)] h0 (Qnm32 Z ar kk v1 v2 v3 cs sf iso u8 h0 n0) := by
  refine own_mkG (plainFor_of_name pn_com_example_bdelloid_bdelloid_os_Environment) ?_
  intro p e s m below meth c s₁ X0 hx hby hml hown hnm hret hlk hZ e0
  have N0 := Fr.nil n0
  have K0 := Keep.refl h0 []
  rw [ef_R2 m ar]
  have Siso := SS.2.2.2.2.1.ext Od.2
  obtain ⟨T1, h1, X1, e1, E1, A1, D1, -, st1⟩ := newO X0 hx hZ hown (hw _ (own_mt 10 rfl)) (hw _ (own_mt 11 rfl)) (hw _ (own_mt 12 rfl)) e0 (g := (mkF m 0 #[vR ar, .unset] [])) rfl (hb hby d27_0) (by decide) (by decide)
  obtain ⟨b1, g1⟩ : ∃ z, z = h0.size := ⟨_, rfl⟩
  rw [← g1] at A1 D1 st1
  have ne2 : ar ≠ b1 := Nat.ne_of_lt (Nat.lt_of_lt_of_le Ea.lt (Nat.le_of_eq g1.symm))
  have gn_b1 : n0 ≤ b1 := Nat.le_trans Z0 (Nat.le_of_eq g1.symm)
  have sz_b1 : h0.size ≤ b1 := Nat.le_trans K0.1 (Nat.le_of_eq g1.symm)
  have f5 := Siso.ext E1
  have f8 := Od.ext E1
  have f9 := Ea.ext E1
  have f11 := Va.ext E1
  have f12 : Fld Z h1 b1 "java/lang/String" "value" "[B" .null := D1 (Or.inr (hw _ (own_mt 32 rfl))) (ty := (.array .byte)) (by decide)
  have f13 : Fld Z h1 b1 "java/lang/String" "coder" "B" (.int 0) := D1 (Or.inr (hw _ (own_mt 33 rfl))) (ty := .byte) (by decide)
  have Z14 : n0 ≤ h1.size := Nat.le_trans Z0 E1.1
  have K14 := K0.ext E1
  refine own_vF m T1 3 #[vR ar, .unset] [(.ref b1)] (fun t k => st1 t k) ?_
  refine own_vF m T1 4 #[vR ar, .unset] [(.ref b1), (.ref b1)] (fun t k => XS.dup X1.here hx rfl (hb hby d27_3) rfl rfl k) ?_
  refine own_vF m T1 5 #[vR ar, .unset] [(.ref ar), (.ref b1), (.ref b1)] (fun t k => XS.aloadN X1.here hx rfl (hb hby d27_4) rfl rfl k) ?_
  obtain ⟨T15, X15, e15, st15⟩ := getS2 (host := "") X1 hx hZ hown (Or.inl (hw _ (own_mt 13 rfl))) Via.refl e1 f5 (g := (mkF m 5 #[vR ar, .unset] [(.ref ar), (.ref b1), (.ref b1)])) rfl (hb hby d27_5)
  refine own_vF m T15 8 #[vR ar, .unset] [(.ref iso), (.ref ar), (.ref b1), (.ref b1)] (fun t k => st15 t k) ?_
  obtain ⟨_, T16, L16, X16, hQ16, st16⟩ := own_callI X15 hx hZ (y := (⟨"java/lang/String", "<init>", "([BLjava/nio/charset/Charset;)V"⟩ : MethodName)) rfl (W := 1) hown (hw _ (own_mt 15 rfl)) (hw _ (own_mt 16 rfl)) (hw _ (own_mt 12 rfl)) (hw _ (own_mt 17 rfl)) (by decide) (rm_Qi23 l Z a0 hw b1 ar kk v1 v2 v3 cs sf iso u8 h1 n0 Z14 f8 SS A1 f12 f13 gn_b1 ne2 f9 f11) (by decide) (by decide) e15 (a := b1) (g := (mkF m 8 #[vR ar, .unset] [(.ref iso), (.ref ar), (.ref b1), (.ref b1)])) rfl (by rw [hml]; rfl) (argsL := [(.ref ar), (.ref iso)]) (rest := [(.ref b1)]) rfl (lenOf pd_ABLjava_nio_charset_Charset___V rfl) rfl own_w0 (hb hby d27_8) (by decide) (by decide)
  obtain ⟨rfl, N16q, K16q, Es16, Fc16, b16s, kb16, Fv16, Eb16, Va16⟩ := hQ16
  have N16 := Fr.app N0 N16q
  have f22 := f8.keep K16q (allS gn_b1 all0)
  have Z27 : n0 ≤ T16.heap.size := Nat.le_trans Z14 K16q.1
  have K27 := K14.trans K16q (allS (Or.inr sz_b1) all0)
  refine own_vF m T16 11 #[vR ar, .unset] [(.ref b1)] (fun t k => st16 t k) ?_
  refine own_vF m T16 12 #[vR ar, vR b1] [] (fun t k => XS.astoreN X16.here hx rfl (hb hby d27_11) rfl rfl (l' := #[vR ar, vR b1]) rfl k) ?_
  refine own_vF m T16 13 #[vR ar, vR b1] [(.ref b1)] (fun t k => XS.aloadN X16.here hx rfl (hb hby d27_12) rfl rfl k) ?_
  refine own_vF m T16 14 #[vR ar, vR b1] [(.int 0), (.ref b1)] (fun t k => XS.iconst X16.here hx rfl (hb hby d27_13) k) ?_
  refine own_vF m T16 15 #[vR ar, vR b1] [(.int 0), (.int 0), (.ref b1)] (fun t k => XS.iconst X16.here hx rfl (hb hby d27_14) k) ?_
  refine own_vF m T16 16 #[vR ar, vR b1] [(.ref b1), (.int 0), (.int 0), (.ref b1)] (fun t k => XS.aloadN X16.here hx rfl (hb hby d27_15) rfl rfl k) ?_
  refine own_vF m T16 18 #[vR ar, vR b1] [(.int 61), (.ref b1), (.int 0), (.int 0), (.ref b1)] (fun t k => XS.bipush X16.here hx rfl (hb hby d27_16) k) ?_
  obtain ⟨_, T28, L28, X28, hQ28, st28⟩ := own_callV X16 hx hZ (y := (⟨"java/lang/String", "indexOf", "(I)I"⟩ : MethodName)) (W := 3) (C := "java/lang/String") hown (hw _ (own_mt 38 rfl)) (hw _ (own_mt 39 rfl)) (hw _ (own_mt 41 rfl)) (hw _ (own_mt 40 rfl)) (hw _ (own_mt 12 rfl)) (hw _ (own_mt 42 rfl)) (by decide) (rm_Qx13 l Z a0 hw b1 b16s kb16 v1 v2 v3 cs sf iso u8 T16.heap n0 Z27 f22 SS Es16 Fc16 Fv16 Va16) (by decide) (by decide) rfl Es16 (g := (mkF m 18 #[vR ar, vR b1] [(.int 61), (.ref b1), (.int 0), (.int 0), (.ref b1)])) rfl (by rw [hml]; rfl) (argsL := [(.int 61)]) (rest := [(.int 0), (.int 0), (.ref b1)]) rfl (lenOf pd_I__I rfl) rfl own_w0 (hb hby d27_18) (by decide) (by decide)
  obtain ⟨rfl, N28q, e28⟩ := hQ28
  have N28 := Fr.app N16 N28q
  refine own_vF m T28 21 #[vR ar, vR b1] [(.int (if v1 = (61 : Int32) then (0 : Int32) else (if v2 = (61 : Int32) then (1 : Int32) else (if v3 = (61 : Int32) then (2 : Int32) else (-1 : Int32))))), (.int 0), (.int 0), (.ref b1)] (fun t k => st28 t k) ?_
  obtain ⟨_, T29, L29, X29, hQ29, st29⟩ := own_callS X28 hx hZ (y := (⟨"java/lang/Math", "max", "(II)I"⟩ : MethodName)) (W := 2) hown (hw _ (own_mt 78 rfl)) (hw _ (own_mt 72 rfl)) (hw _ (own_mt 73 rfl)) (hw _ (own_mt 74 rfl)) (by decide) (rm_Qmax l Z a0 hw (0 : Int32) (if v1 = (61 : Int32) then (0 : Int32) else (if v2 = (61 : Int32) then (1 : Int32) else (if v3 = (61 : Int32) then (2 : Int32) else (-1 : Int32)))) T16.heap n0 Z27) (by decide) (by decide) e28 (g := (mkF m 21 #[vR ar, vR b1] [(.int (if v1 = (61 : Int32) then (0 : Int32) else (if v2 = (61 : Int32) then (1 : Int32) else (if v3 = (61 : Int32) then (2 : Int32) else (-1 : Int32))))), (.int 0), (.int 0), (.ref b1)])) rfl (by rw [hml]; rfl) (argsL := [(.int 0), (.int (if v1 = (61 : Int32) then (0 : Int32) else (if v2 = (61 : Int32) then (1 : Int32) else (if v3 = (61 : Int32) then (2 : Int32) else (-1 : Int32)))))]) (rest := [(.int 0), (.ref b1)]) rfl (lenOf pd_II__I rfl) rfl own_w0 (hb hby d27_21) (by decide) (by decide)
  obtain ⟨rfl, N29q, e29⟩ := hQ29
  have N29 := Fr.app N28 N29q
  refine own_vF m T29 24 #[vR ar, vR b1] [(.int (if (0 : Int32) < (if v1 = (61 : Int32) then (0 : Int32) else (if v2 = (61 : Int32) then (1 : Int32) else (if v3 = (61 : Int32) then (2 : Int32) else (-1 : Int32)))) then (if v1 = (61 : Int32) then (0 : Int32) else (if v2 = (61 : Int32) then (1 : Int32) else (if v3 = (61 : Int32) then (2 : Int32) else (-1 : Int32)))) else (0 : Int32))), (.int 0), (.ref b1)] (fun t k => st29 t k) ?_
  rw [hm]
  obtain ⟨_, T30, L30, X30, hQ30, st30⟩ := own_callV X29 hx hZ (y := (⟨"java/lang/String", "substring", "(II)Ljava/lang/String;"⟩ : MethodName)) (W := 0) (C := "java/lang/String") hown (hw _ (own_mt 79 rfl)) (hw _ (own_mt 80 rfl)) (hw _ (own_mt 82 rfl)) (hw _ (own_mt 81 rfl)) (hw _ (own_mt 12 rfl)) (hw _ (own_mt 83 rfl)) (by decide) (rm_Qsb32 l Z a0 hw b1 b16s kb16 v1 v2 v3 cs sf iso u8 T16.heap n0 Z27 f22 SS Es16 Fc16 Fv16 Eb16 Va16) (by decide) (by decide) e29 Es16 (g := (mkF m 24 #[vR ar, vR b1] [(.int 2), (.int 0), (.ref b1)])) rfl (by rw [hml]; rfl) (argsL := [(.int 0), (.int 2)]) (rest := []) rfl (lenOf pd_II__Ljava_lang_String_ rfl) rfl own_w0 (hb hby d27_24) (by decide) (by decide)
  obtain ⟨b30r, rfl, N30q, K30q, Es30, Fc30, b30s, kb30, Fv30, Eb30, Va30⟩ := hQ30
  have N30 := Fr.app N29 N30q
  have K45 := K27.trans K30q all0
  refine own_vF m T30 27 #[vR ar, vR b1] [(.ref b30r)] (fun t k => st30 t k) ?_
  exact own_ret X30 (v := some (.ref b30r)) (fun h => by rw [hret] at h; cases h) hlk (fun fs hr => retOut X30 hx (t := (.object "java/lang/String")) hret rfl (Or.inr (Or.inr (Or.inr (Or.inr ⟨rfl, rfl, rfl⟩)))) (hb hby d27_27) hr) (by exact ⟨b30r, rfl, N30, K45, Es30, Fc30, b30s, _, Fv30, Eb30, Va30⟩) (by decide) (by decide)
def Qnm40 (Z : State) (ar : Addr) (kk : ClassId) (v1 v2 v3 v4 : Int32) (cs : Int32) (sf : Value) (iso u8 : Addr) (h0 : Heap) (n0 : Nat) (v : Option Value) (h : Heap) (L : List Loc) : Prop := ∃ r, v = some (.ref r) ∧ Fr n0 L ∧ Keep h0 h [] ∧ Exa Z h r "java/lang/String" ∧ Fld Z h r "java/lang/String" "coder" "B" (.int 0) ∧ ∃ b kb, Fld Z h r "java/lang/String" "value" "[B" (.ref b) ∧ Arv Z h b kb .byte (0 : Int32) [] (.int 0)
set_option maxRecDepth 65536 in
set_option maxHeartbeats 40000000 in
theorem rm_Qnm40 (l : Launch) (Z : State) (a0 : Array Value) (hw : ∀ d ∈ tables_1, d.before a0 Z = true) (ar : Addr) (kk : ClassId) (v1 v2 v3 v4 : Int32) (cs : Int32) (sf : Value) (iso u8 : Addr) (h0 : Heap) (n0 : Nat) (Z0 : n0 ≤ h0.size) (Od : Old Z n0 h0) (SS : own_SS Z cs sf iso u8) (Ea : Exa Z h0 ar "[B") (Va : Arv Z h0 ar kk .byte (4 : Int32) [(.int v1), (.int v2), (.int v3), (.int v4)] (.int 0)) (hm : (if (0 : Int32) < (if v1 = (61 : Int32) then (0 : Int32) else (if v2 = (61 : Int32) then (1 : Int32) else (if v3 = (61 : Int32) then (2 : Int32) else (if v4 = (61 : Int32) then (3 : Int32) else (-1 : Int32))))) then (if v1 = (61 : Int32) then (0 : Int32) else (if v2 = (61 : Int32) then (1 : Int32) else (if v3 = (61 : Int32) then (2 : Int32) else (if v4 = (61 : Int32) then (3 : Int32) else (-1 : Int32))))) else (0 : Int32)) = (0 : Int32)) :
    own_MW l Z ((⟨"com/example/bdelloid/bdelloid/os/Environment", "name", "([B)Ljava/lang/String;"⟩ : MethodName)) prog_10_method_3_code 2 (some (.object "java/lang/String")) ({ frames := 4, cells := 4, slots := 12, locals := 66 } : Room) #[(.ref ar)] h0 (Qnm40 Z ar kk v1 v2 v3 v4 cs sf iso u8 h0 n0) := by
  refine own_mkW (plainFor_of_name pn_com_example_bdelloid_bdelloid_os_Environment) ?_
  intro p e s m below meth c s₁ X0 hx hby hml hown hnm hret hlk hZ e0 hCH
  have hEL := own_hEL hw
  have N0 := Fr.nil n0
  have K0 := Keep.refl h0 []
  rw [ef_R2 m ar]
  have Siso := SS.2.2.2.2.1.ext Od.2
  obtain ⟨T1, h1, X1, e1, E1, A1, D1, -, st1⟩ := newO X0 hx hZ hown (hw _ (own_mt 10 rfl)) (hw _ (own_mt 11 rfl)) (hw _ (own_mt 12 rfl)) e0 (g := (mkF m 0 #[vR ar, .unset] [])) rfl (hb hby d27_0) (by decide) (by decide)
  obtain ⟨b1, g1⟩ : ∃ z, z = h0.size := ⟨_, rfl⟩
  rw [← g1] at A1 D1 st1
  have ne2 : ar ≠ b1 := Nat.ne_of_lt (Nat.lt_of_lt_of_le Ea.lt (Nat.le_of_eq g1.symm))
  have gn_b1 : n0 ≤ b1 := Nat.le_trans Z0 (Nat.le_of_eq g1.symm)
  have sz_b1 : h0.size ≤ b1 := Nat.le_trans K0.1 (Nat.le_of_eq g1.symm)
  have f5 := Siso.ext E1
  have f8 := Od.ext E1
  have f9 := Ea.ext E1
  have f11 := Va.ext E1
  have f12 : Fld Z h1 b1 "java/lang/String" "value" "[B" .null := D1 (Or.inr (hw _ (own_mt 32 rfl))) (ty := (.array .byte)) (by decide)
  have f13 : Fld Z h1 b1 "java/lang/String" "coder" "B" (.int 0) := D1 (Or.inr (hw _ (own_mt 33 rfl))) (ty := .byte) (by decide)
  have Z14 : n0 ≤ h1.size := Nat.le_trans Z0 E1.1
  have K14 := K0.ext E1
  refine own_vFW m T1 3 #[vR ar, .unset] [(.ref b1)] (fun t k => st1 t k) ?_
  refine own_vFW m T1 4 #[vR ar, .unset] [(.ref b1), (.ref b1)] (fun t k => XS.dup X1.here hx rfl (hb hby d27_3) rfl rfl k) ?_
  refine own_vFW m T1 5 #[vR ar, .unset] [(.ref ar), (.ref b1), (.ref b1)] (fun t k => XS.aloadN X1.here hx rfl (hb hby d27_4) rfl rfl k) ?_
  obtain ⟨T15, X15, e15, st15⟩ := getS2 (host := "") X1 hx hZ hown (Or.inl (hw _ (own_mt 13 rfl))) Via.refl e1 f5 (g := (mkF m 5 #[vR ar, .unset] [(.ref ar), (.ref b1), (.ref b1)])) rfl (hb hby d27_5)
  refine own_vFW m T15 8 #[vR ar, .unset] [(.ref iso), (.ref ar), (.ref b1), (.ref b1)] (fun t k => st15 t k) ?_
  obtain ⟨_, T16, L16, X16, hQ16, st16⟩ := own_callI X15 hx hZ (y := (⟨"java/lang/String", "<init>", "([BLjava/nio/charset/Charset;)V"⟩ : MethodName)) rfl (W := 1) hown (hw _ (own_mt 15 rfl)) (hw _ (own_mt 16 rfl)) (hw _ (own_mt 12 rfl)) (hw _ (own_mt 17 rfl)) (by decide) (rm_Qi24 l Z a0 hw b1 ar kk v1 v2 v3 v4 cs sf iso u8 h1 n0 Z14 f8 SS A1 f12 f13 gn_b1 ne2 f9 f11) (by decide) (by decide) e15 (a := b1) (g := (mkF m 8 #[vR ar, .unset] [(.ref iso), (.ref ar), (.ref b1), (.ref b1)])) rfl (by rw [hml]; rfl) (argsL := [(.ref ar), (.ref iso)]) (rest := [(.ref b1)]) rfl (lenOf pd_ABLjava_nio_charset_Charset___V rfl) rfl own_w0 (hb hby d27_8) (by decide) (by decide)
  obtain ⟨rfl, N16q, K16q, Es16, Fc16, b16s, kb16, Fv16, Eb16, Va16⟩ := hQ16
  have N16 := Fr.app N0 N16q
  have f22 := f8.keep K16q (allS gn_b1 all0)
  have Z27 : n0 ≤ T16.heap.size := Nat.le_trans Z14 K16q.1
  have K27 := K14.trans K16q (allS (Or.inr sz_b1) all0)
  refine own_vFW m T16 11 #[vR ar, .unset] [(.ref b1)] (fun t k => st16 t k) ?_
  refine own_vFW m T16 12 #[vR ar, vR b1] [] (fun t k => XS.astoreN X16.here hx rfl (hb hby d27_11) rfl rfl (l' := #[vR ar, vR b1]) rfl k) ?_
  refine own_vFW m T16 13 #[vR ar, vR b1] [(.ref b1)] (fun t k => XS.aloadN X16.here hx rfl (hb hby d27_12) rfl rfl k) ?_
  refine own_vFW m T16 14 #[vR ar, vR b1] [(.int 0), (.ref b1)] (fun t k => XS.iconst X16.here hx rfl (hb hby d27_13) k) ?_
  refine own_vFW m T16 15 #[vR ar, vR b1] [(.int 0), (.int 0), (.ref b1)] (fun t k => XS.iconst X16.here hx rfl (hb hby d27_14) k) ?_
  refine own_vFW m T16 16 #[vR ar, vR b1] [(.ref b1), (.int 0), (.int 0), (.ref b1)] (fun t k => XS.aloadN X16.here hx rfl (hb hby d27_15) rfl rfl k) ?_
  refine own_vFW m T16 18 #[vR ar, vR b1] [(.int 61), (.ref b1), (.int 0), (.int 0), (.ref b1)] (fun t k => XS.bipush X16.here hx rfl (hb hby d27_16) k) ?_
  obtain ⟨_, T28, L28, X28, hQ28, st28⟩ := own_callV X16 hx hZ (y := (⟨"java/lang/String", "indexOf", "(I)I"⟩ : MethodName)) (W := 3) (C := "java/lang/String") hown (hw _ (own_mt 38 rfl)) (hw _ (own_mt 39 rfl)) (hw _ (own_mt 41 rfl)) (hw _ (own_mt 40 rfl)) (hw _ (own_mt 12 rfl)) (hw _ (own_mt 42 rfl)) (by decide) (rm_Qx14 l Z a0 hw b1 b16s kb16 v1 v2 v3 v4 cs sf iso u8 T16.heap n0 Z27 f22 SS Es16 Fc16 Fv16 Va16) (by decide) (by decide) rfl Es16 (g := (mkF m 18 #[vR ar, vR b1] [(.int 61), (.ref b1), (.int 0), (.int 0), (.ref b1)])) rfl (by rw [hml]; rfl) (argsL := [(.int 61)]) (rest := [(.int 0), (.int 0), (.ref b1)]) rfl (lenOf pd_I__I rfl) rfl own_w0 (hb hby d27_18) (by decide) (by decide)
  obtain ⟨rfl, N28q, e28⟩ := hQ28
  have N28 := Fr.app N16 N28q
  refine own_vFW m T28 21 #[vR ar, vR b1] [(.int (if v1 = (61 : Int32) then (0 : Int32) else (if v2 = (61 : Int32) then (1 : Int32) else (if v3 = (61 : Int32) then (2 : Int32) else (if v4 = (61 : Int32) then (3 : Int32) else (-1 : Int32)))))), (.int 0), (.int 0), (.ref b1)] (fun t k => st28 t k) ?_
  obtain ⟨_, T29, L29, X29, hQ29, st29⟩ := own_callS X28 hx hZ (y := (⟨"java/lang/Math", "max", "(II)I"⟩ : MethodName)) (W := 2) hown (hw _ (own_mt 78 rfl)) (hw _ (own_mt 72 rfl)) (hw _ (own_mt 73 rfl)) (hw _ (own_mt 74 rfl)) (by decide) (rm_Qmax l Z a0 hw (0 : Int32) (if v1 = (61 : Int32) then (0 : Int32) else (if v2 = (61 : Int32) then (1 : Int32) else (if v3 = (61 : Int32) then (2 : Int32) else (if v4 = (61 : Int32) then (3 : Int32) else (-1 : Int32))))) T16.heap n0 Z27) (by decide) (by decide) e28 (g := (mkF m 21 #[vR ar, vR b1] [(.int (if v1 = (61 : Int32) then (0 : Int32) else (if v2 = (61 : Int32) then (1 : Int32) else (if v3 = (61 : Int32) then (2 : Int32) else (if v4 = (61 : Int32) then (3 : Int32) else (-1 : Int32)))))), (.int 0), (.int 0), (.ref b1)])) rfl (by rw [hml]; rfl) (argsL := [(.int 0), (.int (if v1 = (61 : Int32) then (0 : Int32) else (if v2 = (61 : Int32) then (1 : Int32) else (if v3 = (61 : Int32) then (2 : Int32) else (if v4 = (61 : Int32) then (3 : Int32) else (-1 : Int32))))))]) (rest := [(.int 0), (.ref b1)]) rfl (lenOf pd_II__I rfl) rfl own_w0 (hb hby d27_21) (by decide) (by decide)
  obtain ⟨rfl, N29q, e29⟩ := hQ29
  have N29 := Fr.app N28 N29q
  refine own_vFW m T29 24 #[vR ar, vR b1] [(.int (if (0 : Int32) < (if v1 = (61 : Int32) then (0 : Int32) else (if v2 = (61 : Int32) then (1 : Int32) else (if v3 = (61 : Int32) then (2 : Int32) else (if v4 = (61 : Int32) then (3 : Int32) else (-1 : Int32))))) then (if v1 = (61 : Int32) then (0 : Int32) else (if v2 = (61 : Int32) then (1 : Int32) else (if v3 = (61 : Int32) then (2 : Int32) else (if v4 = (61 : Int32) then (3 : Int32) else (-1 : Int32))))) else (0 : Int32))), (.int 0), (.ref b1)] (fun t k => st29 t k) ?_
  rw [hm]
  obtain ⟨_, T30, L30, X30, hS, hZ, hown, hQ30, st30⟩ := own_callVW X29 hx hZ hEL hCH (y := (⟨"java/lang/String", "substring", "(II)Ljava/lang/String;"⟩ : MethodName)) (W := 0) (C := "java/lang/String") hown (hw _ (own_mt 79 rfl)) (hw _ (own_mt 80 rfl)) (hw _ (own_mt 82 rfl)) (hw _ (own_mt 81 rfl)) (hw _ (own_mt 12 rfl)) (hw _ (own_mt 83 rfl)) (by decide) (rm_Qsb40 l Z a0 hw b1 b16s kb16 v1 v2 v3 v4 cs sf iso u8 T16.heap n0 Z27 f22 SS Es16 Fc16 Fv16 Eb16 Va16) (by decide) (by decide) e29 Es16 (g := (mkF m 24 #[vR ar, vR b1] [(.int 0), (.int 0), (.ref b1)])) rfl (by rw [hml]; rfl) (argsL := [(.int 0), (.int 0)]) (rest := []) rfl (lenOf pd_II__Ljava_lang_String_ rfl) rfl own_w0 (hb hby d27_24) (by decide) (by decide)
  have hk30 : T30.heap.size ≤ T30.heap.size := Nat.le_refl _
  obtain ⟨b30r, rfl, N30q, K30q, Es30, Fc30, b30s, kb30, Fv30, Va30⟩ := hQ30
  have N30 := Fr.app N29 N30q
  have K45 := K27.trans K30q all0
  refine own_vFW m T30 27 #[vR ar, vR b1] [(.ref b30r)] (fun t k => st30 t k) ?_
  exact own_retW (s := s) X30 hS (by exact hk30) (v := some (.ref b30r)) (fun h => by rw [hret] at h; cases h) hlk (fun fs hr => retOut X30 hx (t := (.object "java/lang/String")) hret rfl (Or.inr (Or.inr (Or.inr (Or.inr ⟨rfl, rfl, rfl⟩)))) (hb hby d27_27) hr) (by exact ⟨b30r, rfl, N30, K45, Es30, Fc30, b30s, _, Fv30, Va30⟩) (by decide) (by decide)
def Qnm41 (Z : State) (ar : Addr) (kk : ClassId) (v1 v2 v3 v4 : Int32) (cs : Int32) (sf : Value) (iso u8 : Addr) (h0 : Heap) (n0 : Nat) (v : Option Value) (h : Heap) (L : List Loc) : Prop := ∃ r, v = some (.ref r) ∧ Fr n0 L ∧ Keep h0 h [] ∧ Exa Z h r "java/lang/String" ∧ Fld Z h r "java/lang/String" "coder" "B" (.int 0) ∧ ∃ b kb, Fld Z h r "java/lang/String" "value" "[B" (.ref b) ∧ Exa Z h b "[B" ∧ Arv Z h b kb .byte (1 : Int32) [.int v1] (.int 0)
set_option maxRecDepth 65536 in
set_option maxHeartbeats 40000000 in
theorem rm_Qnm41 (l : Launch) (Z : State) (a0 : Array Value) (hw : ∀ d ∈ tables_1, d.before a0 Z = true) (ar : Addr) (kk : ClassId) (v1 v2 v3 v4 : Int32) (cs : Int32) (sf : Value) (iso u8 : Addr) (h0 : Heap) (n0 : Nat) (Z0 : n0 ≤ h0.size) (Od : Old Z n0 h0) (SS : own_SS Z cs sf iso u8) (Ea : Exa Z h0 ar "[B") (Va : Arv Z h0 ar kk .byte (4 : Int32) [(.int v1), (.int v2), (.int v3), (.int v4)] (.int 0)) (hm : (if (0 : Int32) < (if v1 = (61 : Int32) then (0 : Int32) else (if v2 = (61 : Int32) then (1 : Int32) else (if v3 = (61 : Int32) then (2 : Int32) else (if v4 = (61 : Int32) then (3 : Int32) else (-1 : Int32))))) then (if v1 = (61 : Int32) then (0 : Int32) else (if v2 = (61 : Int32) then (1 : Int32) else (if v3 = (61 : Int32) then (2 : Int32) else (if v4 = (61 : Int32) then (3 : Int32) else (-1 : Int32))))) else (0 : Int32)) = (1 : Int32)) :
    own_MG l Z ((⟨"com/example/bdelloid/bdelloid/os/Environment", "name", "([B)Ljava/lang/String;"⟩ : MethodName)) prog_10_method_3_code 2 (some (.object "java/lang/String")) ({ frames := 5, cells := 4, slots := 13, locals := 122 } : Room) #[(.ref ar)] h0 (Qnm41 Z ar kk v1 v2 v3 v4 cs sf iso u8 h0 n0) := by
  refine own_mkG (plainFor_of_name pn_com_example_bdelloid_bdelloid_os_Environment) ?_
  intro p e s m below meth c s₁ X0 hx hby hml hown hnm hret hlk hZ e0
  have N0 := Fr.nil n0
  have K0 := Keep.refl h0 []
  rw [ef_R2 m ar]
  have Siso := SS.2.2.2.2.1.ext Od.2
  obtain ⟨T1, h1, X1, e1, E1, A1, D1, -, st1⟩ := newO X0 hx hZ hown (hw _ (own_mt 10 rfl)) (hw _ (own_mt 11 rfl)) (hw _ (own_mt 12 rfl)) e0 (g := (mkF m 0 #[vR ar, .unset] [])) rfl (hb hby d27_0) (by decide) (by decide)
  obtain ⟨b1, g1⟩ : ∃ z, z = h0.size := ⟨_, rfl⟩
  rw [← g1] at A1 D1 st1
  have ne2 : ar ≠ b1 := Nat.ne_of_lt (Nat.lt_of_lt_of_le Ea.lt (Nat.le_of_eq g1.symm))
  have gn_b1 : n0 ≤ b1 := Nat.le_trans Z0 (Nat.le_of_eq g1.symm)
  have sz_b1 : h0.size ≤ b1 := Nat.le_trans K0.1 (Nat.le_of_eq g1.symm)
  have f5 := Siso.ext E1
  have f8 := Od.ext E1
  have f9 := Ea.ext E1
  have f11 := Va.ext E1
  have f12 : Fld Z h1 b1 "java/lang/String" "value" "[B" .null := D1 (Or.inr (hw _ (own_mt 32 rfl))) (ty := (.array .byte)) (by decide)
  have f13 : Fld Z h1 b1 "java/lang/String" "coder" "B" (.int 0) := D1 (Or.inr (hw _ (own_mt 33 rfl))) (ty := .byte) (by decide)
  have Z14 : n0 ≤ h1.size := Nat.le_trans Z0 E1.1
  have K14 := K0.ext E1
  refine own_vF m T1 3 #[vR ar, .unset] [(.ref b1)] (fun t k => st1 t k) ?_
  refine own_vF m T1 4 #[vR ar, .unset] [(.ref b1), (.ref b1)] (fun t k => XS.dup X1.here hx rfl (hb hby d27_3) rfl rfl k) ?_
  refine own_vF m T1 5 #[vR ar, .unset] [(.ref ar), (.ref b1), (.ref b1)] (fun t k => XS.aloadN X1.here hx rfl (hb hby d27_4) rfl rfl k) ?_
  obtain ⟨T15, X15, e15, st15⟩ := getS2 (host := "") X1 hx hZ hown (Or.inl (hw _ (own_mt 13 rfl))) Via.refl e1 f5 (g := (mkF m 5 #[vR ar, .unset] [(.ref ar), (.ref b1), (.ref b1)])) rfl (hb hby d27_5)
  refine own_vF m T15 8 #[vR ar, .unset] [(.ref iso), (.ref ar), (.ref b1), (.ref b1)] (fun t k => st15 t k) ?_
  obtain ⟨_, T16, L16, X16, hQ16, st16⟩ := own_callI X15 hx hZ (y := (⟨"java/lang/String", "<init>", "([BLjava/nio/charset/Charset;)V"⟩ : MethodName)) rfl (W := 1) hown (hw _ (own_mt 15 rfl)) (hw _ (own_mt 16 rfl)) (hw _ (own_mt 12 rfl)) (hw _ (own_mt 17 rfl)) (by decide) (rm_Qi24 l Z a0 hw b1 ar kk v1 v2 v3 v4 cs sf iso u8 h1 n0 Z14 f8 SS A1 f12 f13 gn_b1 ne2 f9 f11) (by decide) (by decide) e15 (a := b1) (g := (mkF m 8 #[vR ar, .unset] [(.ref iso), (.ref ar), (.ref b1), (.ref b1)])) rfl (by rw [hml]; rfl) (argsL := [(.ref ar), (.ref iso)]) (rest := [(.ref b1)]) rfl (lenOf pd_ABLjava_nio_charset_Charset___V rfl) rfl own_w0 (hb hby d27_8) (by decide) (by decide)
  obtain ⟨rfl, N16q, K16q, Es16, Fc16, b16s, kb16, Fv16, Eb16, Va16⟩ := hQ16
  have N16 := Fr.app N0 N16q
  have f22 := f8.keep K16q (allS gn_b1 all0)
  have Z27 : n0 ≤ T16.heap.size := Nat.le_trans Z14 K16q.1
  have K27 := K14.trans K16q (allS (Or.inr sz_b1) all0)
  refine own_vF m T16 11 #[vR ar, .unset] [(.ref b1)] (fun t k => st16 t k) ?_
  refine own_vF m T16 12 #[vR ar, vR b1] [] (fun t k => XS.astoreN X16.here hx rfl (hb hby d27_11) rfl rfl (l' := #[vR ar, vR b1]) rfl k) ?_
  refine own_vF m T16 13 #[vR ar, vR b1] [(.ref b1)] (fun t k => XS.aloadN X16.here hx rfl (hb hby d27_12) rfl rfl k) ?_
  refine own_vF m T16 14 #[vR ar, vR b1] [(.int 0), (.ref b1)] (fun t k => XS.iconst X16.here hx rfl (hb hby d27_13) k) ?_
  refine own_vF m T16 15 #[vR ar, vR b1] [(.int 0), (.int 0), (.ref b1)] (fun t k => XS.iconst X16.here hx rfl (hb hby d27_14) k) ?_
  refine own_vF m T16 16 #[vR ar, vR b1] [(.ref b1), (.int 0), (.int 0), (.ref b1)] (fun t k => XS.aloadN X16.here hx rfl (hb hby d27_15) rfl rfl k) ?_
  refine own_vF m T16 18 #[vR ar, vR b1] [(.int 61), (.ref b1), (.int 0), (.int 0), (.ref b1)] (fun t k => XS.bipush X16.here hx rfl (hb hby d27_16) k) ?_
  obtain ⟨_, T28, L28, X28, hQ28, st28⟩ := own_callV X16 hx hZ (y := (⟨"java/lang/String", "indexOf", "(I)I"⟩ : MethodName)) (W := 3) (C := "java/lang/String") hown (hw _ (own_mt 38 rfl)) (hw _ (own_mt 39 rfl)) (hw _ (own_mt 41 rfl)) (hw _ (own_mt 40 rfl)) (hw _ (own_mt 12 rfl)) (hw _ (own_mt 42 rfl)) (by decide) (rm_Qx14 l Z a0 hw b1 b16s kb16 v1 v2 v3 v4 cs sf iso u8 T16.heap n0 Z27 f22 SS Es16 Fc16 Fv16 Va16) (by decide) (by decide) rfl Es16 (g := (mkF m 18 #[vR ar, vR b1] [(.int 61), (.ref b1), (.int 0), (.int 0), (.ref b1)])) rfl (by rw [hml]; rfl) (argsL := [(.int 61)]) (rest := [(.int 0), (.int 0), (.ref b1)]) rfl (lenOf pd_I__I rfl) rfl own_w0 (hb hby d27_18) (by decide) (by decide)
  obtain ⟨rfl, N28q, e28⟩ := hQ28
  have N28 := Fr.app N16 N28q
  refine own_vF m T28 21 #[vR ar, vR b1] [(.int (if v1 = (61 : Int32) then (0 : Int32) else (if v2 = (61 : Int32) then (1 : Int32) else (if v3 = (61 : Int32) then (2 : Int32) else (if v4 = (61 : Int32) then (3 : Int32) else (-1 : Int32)))))), (.int 0), (.int 0), (.ref b1)] (fun t k => st28 t k) ?_
  obtain ⟨_, T29, L29, X29, hQ29, st29⟩ := own_callS X28 hx hZ (y := (⟨"java/lang/Math", "max", "(II)I"⟩ : MethodName)) (W := 2) hown (hw _ (own_mt 78 rfl)) (hw _ (own_mt 72 rfl)) (hw _ (own_mt 73 rfl)) (hw _ (own_mt 74 rfl)) (by decide) (rm_Qmax l Z a0 hw (0 : Int32) (if v1 = (61 : Int32) then (0 : Int32) else (if v2 = (61 : Int32) then (1 : Int32) else (if v3 = (61 : Int32) then (2 : Int32) else (if v4 = (61 : Int32) then (3 : Int32) else (-1 : Int32))))) T16.heap n0 Z27) (by decide) (by decide) e28 (g := (mkF m 21 #[vR ar, vR b1] [(.int (if v1 = (61 : Int32) then (0 : Int32) else (if v2 = (61 : Int32) then (1 : Int32) else (if v3 = (61 : Int32) then (2 : Int32) else (if v4 = (61 : Int32) then (3 : Int32) else (-1 : Int32)))))), (.int 0), (.int 0), (.ref b1)])) rfl (by rw [hml]; rfl) (argsL := [(.int 0), (.int (if v1 = (61 : Int32) then (0 : Int32) else (if v2 = (61 : Int32) then (1 : Int32) else (if v3 = (61 : Int32) then (2 : Int32) else (if v4 = (61 : Int32) then (3 : Int32) else (-1 : Int32))))))]) (rest := [(.int 0), (.ref b1)]) rfl (lenOf pd_II__I rfl) rfl own_w0 (hb hby d27_21) (by decide) (by decide)
  obtain ⟨rfl, N29q, e29⟩ := hQ29
  have N29 := Fr.app N28 N29q
  refine own_vF m T29 24 #[vR ar, vR b1] [(.int (if (0 : Int32) < (if v1 = (61 : Int32) then (0 : Int32) else (if v2 = (61 : Int32) then (1 : Int32) else (if v3 = (61 : Int32) then (2 : Int32) else (if v4 = (61 : Int32) then (3 : Int32) else (-1 : Int32))))) then (if v1 = (61 : Int32) then (0 : Int32) else (if v2 = (61 : Int32) then (1 : Int32) else (if v3 = (61 : Int32) then (2 : Int32) else (if v4 = (61 : Int32) then (3 : Int32) else (-1 : Int32))))) else (0 : Int32))), (.int 0), (.ref b1)] (fun t k => st29 t k) ?_
  rw [hm]
  obtain ⟨_, T30, L30, X30, hQ30, st30⟩ := own_callV X29 hx hZ (y := (⟨"java/lang/String", "substring", "(II)Ljava/lang/String;"⟩ : MethodName)) (W := 0) (C := "java/lang/String") hown (hw _ (own_mt 79 rfl)) (hw _ (own_mt 80 rfl)) (hw _ (own_mt 82 rfl)) (hw _ (own_mt 81 rfl)) (hw _ (own_mt 12 rfl)) (hw _ (own_mt 83 rfl)) (by decide) (rm_Qsb41 l Z a0 hw b1 b16s kb16 v1 v2 v3 v4 cs sf iso u8 T16.heap n0 Z27 f22 SS Es16 Fc16 Fv16 Eb16 Va16) (by decide) (by decide) e29 Es16 (g := (mkF m 24 #[vR ar, vR b1] [(.int 1), (.int 0), (.ref b1)])) rfl (by rw [hml]; rfl) (argsL := [(.int 0), (.int 1)]) (rest := []) rfl (lenOf pd_II__Ljava_lang_String_ rfl) rfl own_w0 (hb hby d27_24) (by decide) (by decide)
  obtain ⟨b30r, rfl, N30q, K30q, Es30, Fc30, b30s, kb30, Fv30, Eb30, Va30⟩ := hQ30
  have N30 := Fr.app N29 N30q
  have K45 := K27.trans K30q all0
  refine own_vF m T30 27 #[vR ar, vR b1] [(.ref b30r)] (fun t k => st30 t k) ?_
  exact own_ret X30 (v := some (.ref b30r)) (fun h => by rw [hret] at h; cases h) hlk (fun fs hr => retOut X30 hx (t := (.object "java/lang/String")) hret rfl (Or.inr (Or.inr (Or.inr (Or.inr ⟨rfl, rfl, rfl⟩)))) (hb hby d27_27) hr) (by exact ⟨b30r, rfl, N30, K45, Es30, Fc30, b30s, _, Fv30, Eb30, Va30⟩) (by decide) (by decide)
def Qnm42 (Z : State) (ar : Addr) (kk : ClassId) (v1 v2 v3 v4 : Int32) (cs : Int32) (sf : Value) (iso u8 : Addr) (h0 : Heap) (n0 : Nat) (v : Option Value) (h : Heap) (L : List Loc) : Prop := ∃ r, v = some (.ref r) ∧ Fr n0 L ∧ Keep h0 h [] ∧ Exa Z h r "java/lang/String" ∧ Fld Z h r "java/lang/String" "coder" "B" (.int 0) ∧ ∃ b kb, Fld Z h r "java/lang/String" "value" "[B" (.ref b) ∧ Exa Z h b "[B" ∧ Arv Z h b kb .byte (2 : Int32) [.int v1, .int v2] (.int 0)
set_option maxRecDepth 65536 in
set_option maxHeartbeats 40000000 in
theorem rm_Qnm42 (l : Launch) (Z : State) (a0 : Array Value) (hw : ∀ d ∈ tables_1, d.before a0 Z = true) (ar : Addr) (kk : ClassId) (v1 v2 v3 v4 : Int32) (cs : Int32) (sf : Value) (iso u8 : Addr) (h0 : Heap) (n0 : Nat) (Z0 : n0 ≤ h0.size) (Od : Old Z n0 h0) (SS : own_SS Z cs sf iso u8) (Ea : Exa Z h0 ar "[B") (Va : Arv Z h0 ar kk .byte (4 : Int32) [(.int v1), (.int v2), (.int v3), (.int v4)] (.int 0)) (hm : (if (0 : Int32) < (if v1 = (61 : Int32) then (0 : Int32) else (if v2 = (61 : Int32) then (1 : Int32) else (if v3 = (61 : Int32) then (2 : Int32) else (if v4 = (61 : Int32) then (3 : Int32) else (-1 : Int32))))) then (if v1 = (61 : Int32) then (0 : Int32) else (if v2 = (61 : Int32) then (1 : Int32) else (if v3 = (61 : Int32) then (2 : Int32) else (if v4 = (61 : Int32) then (3 : Int32) else (-1 : Int32))))) else (0 : Int32)) = (2 : Int32)) :
    own_MG l Z ((⟨"com/example/bdelloid/bdelloid/os/Environment", "name", "([B)Ljava/lang/String;"⟩ : MethodName)) prog_10_method_3_code 2 (some (.object "java/lang/String")) ({ frames := 5, cells := 4, slots := 14, locals := 122 } : Room) #[(.ref ar)] h0 (Qnm42 Z ar kk v1 v2 v3 v4 cs sf iso u8 h0 n0) := by
  refine own_mkG (plainFor_of_name pn_com_example_bdelloid_bdelloid_os_Environment) ?_
  intro p e s m below meth c s₁ X0 hx hby hml hown hnm hret hlk hZ e0
  have N0 := Fr.nil n0
  have K0 := Keep.refl h0 []
  rw [ef_R2 m ar]
  have Siso := SS.2.2.2.2.1.ext Od.2
  obtain ⟨T1, h1, X1, e1, E1, A1, D1, -, st1⟩ := newO X0 hx hZ hown (hw _ (own_mt 10 rfl)) (hw _ (own_mt 11 rfl)) (hw _ (own_mt 12 rfl)) e0 (g := (mkF m 0 #[vR ar, .unset] [])) rfl (hb hby d27_0) (by decide) (by decide)
  obtain ⟨b1, g1⟩ : ∃ z, z = h0.size := ⟨_, rfl⟩
  rw [← g1] at A1 D1 st1
  have ne2 : ar ≠ b1 := Nat.ne_of_lt (Nat.lt_of_lt_of_le Ea.lt (Nat.le_of_eq g1.symm))
  have gn_b1 : n0 ≤ b1 := Nat.le_trans Z0 (Nat.le_of_eq g1.symm)
  have sz_b1 : h0.size ≤ b1 := Nat.le_trans K0.1 (Nat.le_of_eq g1.symm)
  have f5 := Siso.ext E1
  have f8 := Od.ext E1
  have f9 := Ea.ext E1
  have f11 := Va.ext E1
  have f12 : Fld Z h1 b1 "java/lang/String" "value" "[B" .null := D1 (Or.inr (hw _ (own_mt 32 rfl))) (ty := (.array .byte)) (by decide)
  have f13 : Fld Z h1 b1 "java/lang/String" "coder" "B" (.int 0) := D1 (Or.inr (hw _ (own_mt 33 rfl))) (ty := .byte) (by decide)
  have Z14 : n0 ≤ h1.size := Nat.le_trans Z0 E1.1
  have K14 := K0.ext E1
  refine own_vF m T1 3 #[vR ar, .unset] [(.ref b1)] (fun t k => st1 t k) ?_
  refine own_vF m T1 4 #[vR ar, .unset] [(.ref b1), (.ref b1)] (fun t k => XS.dup X1.here hx rfl (hb hby d27_3) rfl rfl k) ?_
  refine own_vF m T1 5 #[vR ar, .unset] [(.ref ar), (.ref b1), (.ref b1)] (fun t k => XS.aloadN X1.here hx rfl (hb hby d27_4) rfl rfl k) ?_
  obtain ⟨T15, X15, e15, st15⟩ := getS2 (host := "") X1 hx hZ hown (Or.inl (hw _ (own_mt 13 rfl))) Via.refl e1 f5 (g := (mkF m 5 #[vR ar, .unset] [(.ref ar), (.ref b1), (.ref b1)])) rfl (hb hby d27_5)
  refine own_vF m T15 8 #[vR ar, .unset] [(.ref iso), (.ref ar), (.ref b1), (.ref b1)] (fun t k => st15 t k) ?_
  obtain ⟨_, T16, L16, X16, hQ16, st16⟩ := own_callI X15 hx hZ (y := (⟨"java/lang/String", "<init>", "([BLjava/nio/charset/Charset;)V"⟩ : MethodName)) rfl (W := 1) hown (hw _ (own_mt 15 rfl)) (hw _ (own_mt 16 rfl)) (hw _ (own_mt 12 rfl)) (hw _ (own_mt 17 rfl)) (by decide) (rm_Qi24 l Z a0 hw b1 ar kk v1 v2 v3 v4 cs sf iso u8 h1 n0 Z14 f8 SS A1 f12 f13 gn_b1 ne2 f9 f11) (by decide) (by decide) e15 (a := b1) (g := (mkF m 8 #[vR ar, .unset] [(.ref iso), (.ref ar), (.ref b1), (.ref b1)])) rfl (by rw [hml]; rfl) (argsL := [(.ref ar), (.ref iso)]) (rest := [(.ref b1)]) rfl (lenOf pd_ABLjava_nio_charset_Charset___V rfl) rfl own_w0 (hb hby d27_8) (by decide) (by decide)
  obtain ⟨rfl, N16q, K16q, Es16, Fc16, b16s, kb16, Fv16, Eb16, Va16⟩ := hQ16
  have N16 := Fr.app N0 N16q
  have f22 := f8.keep K16q (allS gn_b1 all0)
  have Z27 : n0 ≤ T16.heap.size := Nat.le_trans Z14 K16q.1
  have K27 := K14.trans K16q (allS (Or.inr sz_b1) all0)
  refine own_vF m T16 11 #[vR ar, .unset] [(.ref b1)] (fun t k => st16 t k) ?_
  refine own_vF m T16 12 #[vR ar, vR b1] [] (fun t k => XS.astoreN X16.here hx rfl (hb hby d27_11) rfl rfl (l' := #[vR ar, vR b1]) rfl k) ?_
  refine own_vF m T16 13 #[vR ar, vR b1] [(.ref b1)] (fun t k => XS.aloadN X16.here hx rfl (hb hby d27_12) rfl rfl k) ?_
  refine own_vF m T16 14 #[vR ar, vR b1] [(.int 0), (.ref b1)] (fun t k => XS.iconst X16.here hx rfl (hb hby d27_13) k) ?_
  refine own_vF m T16 15 #[vR ar, vR b1] [(.int 0), (.int 0), (.ref b1)] (fun t k => XS.iconst X16.here hx rfl (hb hby d27_14) k) ?_
  refine own_vF m T16 16 #[vR ar, vR b1] [(.ref b1), (.int 0), (.int 0), (.ref b1)] (fun t k => XS.aloadN X16.here hx rfl (hb hby d27_15) rfl rfl k) ?_
  refine own_vF m T16 18 #[vR ar, vR b1] [(.int 61), (.ref b1), (.int 0), (.int 0), (.ref b1)] (fun t k => XS.bipush X16.here hx rfl (hb hby d27_16) k) ?_
  obtain ⟨_, T28, L28, X28, hQ28, st28⟩ := own_callV X16 hx hZ (y := (⟨"java/lang/String", "indexOf", "(I)I"⟩ : MethodName)) (W := 3) (C := "java/lang/String") hown (hw _ (own_mt 38 rfl)) (hw _ (own_mt 39 rfl)) (hw _ (own_mt 41 rfl)) (hw _ (own_mt 40 rfl)) (hw _ (own_mt 12 rfl)) (hw _ (own_mt 42 rfl)) (by decide) (rm_Qx14 l Z a0 hw b1 b16s kb16 v1 v2 v3 v4 cs sf iso u8 T16.heap n0 Z27 f22 SS Es16 Fc16 Fv16 Va16) (by decide) (by decide) rfl Es16 (g := (mkF m 18 #[vR ar, vR b1] [(.int 61), (.ref b1), (.int 0), (.int 0), (.ref b1)])) rfl (by rw [hml]; rfl) (argsL := [(.int 61)]) (rest := [(.int 0), (.int 0), (.ref b1)]) rfl (lenOf pd_I__I rfl) rfl own_w0 (hb hby d27_18) (by decide) (by decide)
  obtain ⟨rfl, N28q, e28⟩ := hQ28
  have N28 := Fr.app N16 N28q
  refine own_vF m T28 21 #[vR ar, vR b1] [(.int (if v1 = (61 : Int32) then (0 : Int32) else (if v2 = (61 : Int32) then (1 : Int32) else (if v3 = (61 : Int32) then (2 : Int32) else (if v4 = (61 : Int32) then (3 : Int32) else (-1 : Int32)))))), (.int 0), (.int 0), (.ref b1)] (fun t k => st28 t k) ?_
  obtain ⟨_, T29, L29, X29, hQ29, st29⟩ := own_callS X28 hx hZ (y := (⟨"java/lang/Math", "max", "(II)I"⟩ : MethodName)) (W := 2) hown (hw _ (own_mt 78 rfl)) (hw _ (own_mt 72 rfl)) (hw _ (own_mt 73 rfl)) (hw _ (own_mt 74 rfl)) (by decide) (rm_Qmax l Z a0 hw (0 : Int32) (if v1 = (61 : Int32) then (0 : Int32) else (if v2 = (61 : Int32) then (1 : Int32) else (if v3 = (61 : Int32) then (2 : Int32) else (if v4 = (61 : Int32) then (3 : Int32) else (-1 : Int32))))) T16.heap n0 Z27) (by decide) (by decide) e28 (g := (mkF m 21 #[vR ar, vR b1] [(.int (if v1 = (61 : Int32) then (0 : Int32) else (if v2 = (61 : Int32) then (1 : Int32) else (if v3 = (61 : Int32) then (2 : Int32) else (if v4 = (61 : Int32) then (3 : Int32) else (-1 : Int32)))))), (.int 0), (.int 0), (.ref b1)])) rfl (by rw [hml]; rfl) (argsL := [(.int 0), (.int (if v1 = (61 : Int32) then (0 : Int32) else (if v2 = (61 : Int32) then (1 : Int32) else (if v3 = (61 : Int32) then (2 : Int32) else (if v4 = (61 : Int32) then (3 : Int32) else (-1 : Int32))))))]) (rest := [(.int 0), (.ref b1)]) rfl (lenOf pd_II__I rfl) rfl own_w0 (hb hby d27_21) (by decide) (by decide)
  obtain ⟨rfl, N29q, e29⟩ := hQ29
  have N29 := Fr.app N28 N29q
  refine own_vF m T29 24 #[vR ar, vR b1] [(.int (if (0 : Int32) < (if v1 = (61 : Int32) then (0 : Int32) else (if v2 = (61 : Int32) then (1 : Int32) else (if v3 = (61 : Int32) then (2 : Int32) else (if v4 = (61 : Int32) then (3 : Int32) else (-1 : Int32))))) then (if v1 = (61 : Int32) then (0 : Int32) else (if v2 = (61 : Int32) then (1 : Int32) else (if v3 = (61 : Int32) then (2 : Int32) else (if v4 = (61 : Int32) then (3 : Int32) else (-1 : Int32))))) else (0 : Int32))), (.int 0), (.ref b1)] (fun t k => st29 t k) ?_
  rw [hm]
  obtain ⟨_, T30, L30, X30, hQ30, st30⟩ := own_callV X29 hx hZ (y := (⟨"java/lang/String", "substring", "(II)Ljava/lang/String;"⟩ : MethodName)) (W := 0) (C := "java/lang/String") hown (hw _ (own_mt 79 rfl)) (hw _ (own_mt 80 rfl)) (hw _ (own_mt 82 rfl)) (hw _ (own_mt 81 rfl)) (hw _ (own_mt 12 rfl)) (hw _ (own_mt 83 rfl)) (by decide) (rm_Qsb42 l Z a0 hw b1 b16s kb16 v1 v2 v3 v4 cs sf iso u8 T16.heap n0 Z27 f22 SS Es16 Fc16 Fv16 Eb16 Va16) (by decide) (by decide) e29 Es16 (g := (mkF m 24 #[vR ar, vR b1] [(.int 2), (.int 0), (.ref b1)])) rfl (by rw [hml]; rfl) (argsL := [(.int 0), (.int 2)]) (rest := []) rfl (lenOf pd_II__Ljava_lang_String_ rfl) rfl own_w0 (hb hby d27_24) (by decide) (by decide)
  obtain ⟨b30r, rfl, N30q, K30q, Es30, Fc30, b30s, kb30, Fv30, Eb30, Va30⟩ := hQ30
  have N30 := Fr.app N29 N30q
  have K45 := K27.trans K30q all0
  refine own_vF m T30 27 #[vR ar, vR b1] [(.ref b30r)] (fun t k => st30 t k) ?_
  exact own_ret X30 (v := some (.ref b30r)) (fun h => by rw [hret] at h; cases h) hlk (fun fs hr => retOut X30 hx (t := (.object "java/lang/String")) hret rfl (Or.inr (Or.inr (Or.inr (Or.inr ⟨rfl, rfl, rfl⟩)))) (hb hby d27_27) hr) (by exact ⟨b30r, rfl, N30, K45, Es30, Fc30, b30s, _, Fv30, Eb30, Va30⟩) (by decide) (by decide)
def Qnm43 (Z : State) (ar : Addr) (kk : ClassId) (v1 v2 v3 v4 : Int32) (cs : Int32) (sf : Value) (iso u8 : Addr) (h0 : Heap) (n0 : Nat) (v : Option Value) (h : Heap) (L : List Loc) : Prop := ∃ r, v = some (.ref r) ∧ Fr n0 L ∧ Keep h0 h [] ∧ Exa Z h r "java/lang/String" ∧ Fld Z h r "java/lang/String" "coder" "B" (.int 0) ∧ ∃ b kb, Fld Z h r "java/lang/String" "value" "[B" (.ref b) ∧ Exa Z h b "[B" ∧ Arv Z h b kb .byte (3 : Int32) [.int v1, .int v2, .int v3] (.int 0)
set_option maxRecDepth 65536 in
set_option maxHeartbeats 40000000 in
theorem rm_Qnm43 (l : Launch) (Z : State) (a0 : Array Value) (hw : ∀ d ∈ tables_1, d.before a0 Z = true) (ar : Addr) (kk : ClassId) (v1 v2 v3 v4 : Int32) (cs : Int32) (sf : Value) (iso u8 : Addr) (h0 : Heap) (n0 : Nat) (Z0 : n0 ≤ h0.size) (Od : Old Z n0 h0) (SS : own_SS Z cs sf iso u8) (Ea : Exa Z h0 ar "[B") (Va : Arv Z h0 ar kk .byte (4 : Int32) [(.int v1), (.int v2), (.int v3), (.int v4)] (.int 0)) (hm : (if (0 : Int32) < (if v1 = (61 : Int32) then (0 : Int32) else (if v2 = (61 : Int32) then (1 : Int32) else (if v3 = (61 : Int32) then (2 : Int32) else (if v4 = (61 : Int32) then (3 : Int32) else (-1 : Int32))))) then (if v1 = (61 : Int32) then (0 : Int32) else (if v2 = (61 : Int32) then (1 : Int32) else (if v3 = (61 : Int32) then (2 : Int32) else (if v4 = (61 : Int32) then (3 : Int32) else (-1 : Int32))))) else (0 : Int32)) = (3 : Int32)) :
    own_MG l Z ((⟨"com/example/bdelloid/bdelloid/os/Environment", "name", "([B)Ljava/lang/String;"⟩ : MethodName)) prog_10_method_3_code 2 (some (.object "java/lang/String")) ({ frames := 5, cells := 4, slots := 15, locals := 122 } : Room) #[(.ref ar)] h0 (Qnm43 Z ar kk v1 v2 v3 v4 cs sf iso u8 h0 n0) := by
  refine own_mkG (plainFor_of_name pn_com_example_bdelloid_bdelloid_os_Environment) ?_
  intro p e s m below meth c s₁ X0 hx hby hml hown hnm hret hlk hZ e0
  have N0 := Fr.nil n0
  have K0 := Keep.refl h0 []
  rw [ef_R2 m ar]
  have Siso := SS.2.2.2.2.1.ext Od.2
  obtain ⟨T1, h1, X1, e1, E1, A1, D1, -, st1⟩ := newO X0 hx hZ hown (hw _ (own_mt 10 rfl)) (hw _ (own_mt 11 rfl)) (hw _ (own_mt 12 rfl)) e0 (g := (mkF m 0 #[vR ar, .unset] [])) rfl (hb hby d27_0) (by decide) (by decide)
  obtain ⟨b1, g1⟩ : ∃ z, z = h0.size := ⟨_, rfl⟩
  rw [← g1] at A1 D1 st1
  have ne2 : ar ≠ b1 := Nat.ne_of_lt (Nat.lt_of_lt_of_le Ea.lt (Nat.le_of_eq g1.symm))
  have gn_b1 : n0 ≤ b1 := Nat.le_trans Z0 (Nat.le_of_eq g1.symm)
  have sz_b1 : h0.size ≤ b1 := Nat.le_trans K0.1 (Nat.le_of_eq g1.symm)
  have f5 := Siso.ext E1
  have f8 := Od.ext E1
  have f9 := Ea.ext E1
  have f11 := Va.ext E1
  have f12 : Fld Z h1 b1 "java/lang/String" "value" "[B" .null := D1 (Or.inr (hw _ (own_mt 32 rfl))) (ty := (.array .byte)) (by decide)
  have f13 : Fld Z h1 b1 "java/lang/String" "coder" "B" (.int 0) := D1 (Or.inr (hw _ (own_mt 33 rfl))) (ty := .byte) (by decide)
  have Z14 : n0 ≤ h1.size := Nat.le_trans Z0 E1.1
  have K14 := K0.ext E1
  refine own_vF m T1 3 #[vR ar, .unset] [(.ref b1)] (fun t k => st1 t k) ?_
  refine own_vF m T1 4 #[vR ar, .unset] [(.ref b1), (.ref b1)] (fun t k => XS.dup X1.here hx rfl (hb hby d27_3) rfl rfl k) ?_
  refine own_vF m T1 5 #[vR ar, .unset] [(.ref ar), (.ref b1), (.ref b1)] (fun t k => XS.aloadN X1.here hx rfl (hb hby d27_4) rfl rfl k) ?_
  obtain ⟨T15, X15, e15, st15⟩ := getS2 (host := "") X1 hx hZ hown (Or.inl (hw _ (own_mt 13 rfl))) Via.refl e1 f5 (g := (mkF m 5 #[vR ar, .unset] [(.ref ar), (.ref b1), (.ref b1)])) rfl (hb hby d27_5)
  refine own_vF m T15 8 #[vR ar, .unset] [(.ref iso), (.ref ar), (.ref b1), (.ref b1)] (fun t k => st15 t k) ?_
  obtain ⟨_, T16, L16, X16, hQ16, st16⟩ := own_callI X15 hx hZ (y := (⟨"java/lang/String", "<init>", "([BLjava/nio/charset/Charset;)V"⟩ : MethodName)) rfl (W := 1) hown (hw _ (own_mt 15 rfl)) (hw _ (own_mt 16 rfl)) (hw _ (own_mt 12 rfl)) (hw _ (own_mt 17 rfl)) (by decide) (rm_Qi24 l Z a0 hw b1 ar kk v1 v2 v3 v4 cs sf iso u8 h1 n0 Z14 f8 SS A1 f12 f13 gn_b1 ne2 f9 f11) (by decide) (by decide) e15 (a := b1) (g := (mkF m 8 #[vR ar, .unset] [(.ref iso), (.ref ar), (.ref b1), (.ref b1)])) rfl (by rw [hml]; rfl) (argsL := [(.ref ar), (.ref iso)]) (rest := [(.ref b1)]) rfl (lenOf pd_ABLjava_nio_charset_Charset___V rfl) rfl own_w0 (hb hby d27_8) (by decide) (by decide)
  obtain ⟨rfl, N16q, K16q, Es16, Fc16, b16s, kb16, Fv16, Eb16, Va16⟩ := hQ16
  have N16 := Fr.app N0 N16q
  have f22 := f8.keep K16q (allS gn_b1 all0)
  have Z27 : n0 ≤ T16.heap.size := Nat.le_trans Z14 K16q.1
  have K27 := K14.trans K16q (allS (Or.inr sz_b1) all0)
  refine own_vF m T16 11 #[vR ar, .unset] [(.ref b1)] (fun t k => st16 t k) ?_
  refine own_vF m T16 12 #[vR ar, vR b1] [] (fun t k => XS.astoreN X16.here hx rfl (hb hby d27_11) rfl rfl (l' := #[vR ar, vR b1]) rfl k) ?_
  refine own_vF m T16 13 #[vR ar, vR b1] [(.ref b1)] (fun t k => XS.aloadN X16.here hx rfl (hb hby d27_12) rfl rfl k) ?_
  refine own_vF m T16 14 #[vR ar, vR b1] [(.int 0), (.ref b1)] (fun t k => XS.iconst X16.here hx rfl (hb hby d27_13) k) ?_
  refine own_vF m T16 15 #[vR ar, vR b1] [(.int 0), (.int 0), (.ref b1)] (fun t k => XS.iconst X16.here hx rfl (hb hby d27_14) k) ?_
  refine own_vF m T16 16 #[vR ar, vR b1] [(.ref b1), (.int 0), (.int 0), (.ref b1)] (fun t k => XS.aloadN X16.here hx rfl (hb hby d27_15) rfl rfl k) ?_
  refine own_vF m T16 18 #[vR ar, vR b1] [(.int 61), (.ref b1), (.int 0), (.int 0), (.ref b1)] (fun t k => XS.bipush X16.here hx rfl (hb hby d27_16) k) ?_
  obtain ⟨_, T28, L28, X28, hQ28, st28⟩ := own_callV X16 hx hZ (y := (⟨"java/lang/String", "indexOf", "(I)I"⟩ : MethodName)) (W := 3) (C := "java/lang/String") hown (hw _ (own_mt 38 rfl)) (hw _ (own_mt 39 rfl)) (hw _ (own_mt 41 rfl)) (hw _ (own_mt 40 rfl)) (hw _ (own_mt 12 rfl)) (hw _ (own_mt 42 rfl)) (by decide) (rm_Qx14 l Z a0 hw b1 b16s kb16 v1 v2 v3 v4 cs sf iso u8 T16.heap n0 Z27 f22 SS Es16 Fc16 Fv16 Va16) (by decide) (by decide) rfl Es16 (g := (mkF m 18 #[vR ar, vR b1] [(.int 61), (.ref b1), (.int 0), (.int 0), (.ref b1)])) rfl (by rw [hml]; rfl) (argsL := [(.int 61)]) (rest := [(.int 0), (.int 0), (.ref b1)]) rfl (lenOf pd_I__I rfl) rfl own_w0 (hb hby d27_18) (by decide) (by decide)
  obtain ⟨rfl, N28q, e28⟩ := hQ28
  have N28 := Fr.app N16 N28q
  refine own_vF m T28 21 #[vR ar, vR b1] [(.int (if v1 = (61 : Int32) then (0 : Int32) else (if v2 = (61 : Int32) then (1 : Int32) else (if v3 = (61 : Int32) then (2 : Int32) else (if v4 = (61 : Int32) then (3 : Int32) else (-1 : Int32)))))), (.int 0), (.int 0), (.ref b1)] (fun t k => st28 t k) ?_
  obtain ⟨_, T29, L29, X29, hQ29, st29⟩ := own_callS X28 hx hZ (y := (⟨"java/lang/Math", "max", "(II)I"⟩ : MethodName)) (W := 2) hown (hw _ (own_mt 78 rfl)) (hw _ (own_mt 72 rfl)) (hw _ (own_mt 73 rfl)) (hw _ (own_mt 74 rfl)) (by decide) (rm_Qmax l Z a0 hw (0 : Int32) (if v1 = (61 : Int32) then (0 : Int32) else (if v2 = (61 : Int32) then (1 : Int32) else (if v3 = (61 : Int32) then (2 : Int32) else (if v4 = (61 : Int32) then (3 : Int32) else (-1 : Int32))))) T16.heap n0 Z27) (by decide) (by decide) e28 (g := (mkF m 21 #[vR ar, vR b1] [(.int (if v1 = (61 : Int32) then (0 : Int32) else (if v2 = (61 : Int32) then (1 : Int32) else (if v3 = (61 : Int32) then (2 : Int32) else (if v4 = (61 : Int32) then (3 : Int32) else (-1 : Int32)))))), (.int 0), (.int 0), (.ref b1)])) rfl (by rw [hml]; rfl) (argsL := [(.int 0), (.int (if v1 = (61 : Int32) then (0 : Int32) else (if v2 = (61 : Int32) then (1 : Int32) else (if v3 = (61 : Int32) then (2 : Int32) else (if v4 = (61 : Int32) then (3 : Int32) else (-1 : Int32))))))]) (rest := [(.int 0), (.ref b1)]) rfl (lenOf pd_II__I rfl) rfl own_w0 (hb hby d27_21) (by decide) (by decide)
  obtain ⟨rfl, N29q, e29⟩ := hQ29
  have N29 := Fr.app N28 N29q
  refine own_vF m T29 24 #[vR ar, vR b1] [(.int (if (0 : Int32) < (if v1 = (61 : Int32) then (0 : Int32) else (if v2 = (61 : Int32) then (1 : Int32) else (if v3 = (61 : Int32) then (2 : Int32) else (if v4 = (61 : Int32) then (3 : Int32) else (-1 : Int32))))) then (if v1 = (61 : Int32) then (0 : Int32) else (if v2 = (61 : Int32) then (1 : Int32) else (if v3 = (61 : Int32) then (2 : Int32) else (if v4 = (61 : Int32) then (3 : Int32) else (-1 : Int32))))) else (0 : Int32))), (.int 0), (.ref b1)] (fun t k => st29 t k) ?_
  rw [hm]
  obtain ⟨_, T30, L30, X30, hQ30, st30⟩ := own_callV X29 hx hZ (y := (⟨"java/lang/String", "substring", "(II)Ljava/lang/String;"⟩ : MethodName)) (W := 0) (C := "java/lang/String") hown (hw _ (own_mt 79 rfl)) (hw _ (own_mt 80 rfl)) (hw _ (own_mt 82 rfl)) (hw _ (own_mt 81 rfl)) (hw _ (own_mt 12 rfl)) (hw _ (own_mt 83 rfl)) (by decide) (rm_Qsb43 l Z a0 hw b1 b16s kb16 v1 v2 v3 v4 cs sf iso u8 T16.heap n0 Z27 f22 SS Es16 Fc16 Fv16 Eb16 Va16) (by decide) (by decide) e29 Es16 (g := (mkF m 24 #[vR ar, vR b1] [(.int 3), (.int 0), (.ref b1)])) rfl (by rw [hml]; rfl) (argsL := [(.int 0), (.int 3)]) (rest := []) rfl (lenOf pd_II__Ljava_lang_String_ rfl) rfl own_w0 (hb hby d27_24) (by decide) (by decide)
  obtain ⟨b30r, rfl, N30q, K30q, Es30, Fc30, b30s, kb30, Fv30, Eb30, Va30⟩ := hQ30
  have N30 := Fr.app N29 N30q
  have K45 := K27.trans K30q all0
  refine own_vF m T30 27 #[vR ar, vR b1] [(.ref b30r)] (fun t k => st30 t k) ?_
  exact own_ret X30 (v := some (.ref b30r)) (fun h => by rw [hret] at h; cases h) hlk (fun fs hr => retOut X30 hx (t := (.object "java/lang/String")) hret rfl (Or.inr (Or.inr (Or.inr (Or.inr ⟨rfl, rfl, rfl⟩)))) (hb hby d27_27) hr) (by exact ⟨b30r, rfl, N30, K45, Es30, Fc30, b30s, _, Fv30, Eb30, Va30⟩) (by decide) (by decide)
def Q0 (Z : State)  (h0 : Heap) (n0 : Nat) (v : Option Value) (h : Heap) (L : List Loc) : Prop := v = some (.int 1) ∧ Fr n0 L
set_option maxRecDepth 65536 in
set_option maxHeartbeats 40000000 in
theorem own_tail0 (l : Launch) (Z : State) (a0 : Array Value) (hw : ∀ d ∈ tables_1, d.before a0 Z = true) {p : Program} {e : Env} {s : State} {m : MethodId} {A : Array Value} {below : List Frame} {meth : Method} {c : Code} {T0 : State} {locs : List Loc} {vm0 : Vm} {k0 : Nat} (x1 x2 x3 x4 x5 x6 nn r1 r2 r3 r4 : Int32) (ar r b : Addr) (kk : ClassId) (cs : Int32) (sf : Value) (iso u8 : Addr) (hh0 h0 : Heap) (n0 : Nat) (Z0 : n0 ≤ h0.size) (Od : Old Z n0 h0) (SS : own_SS Z cs sf iso u8)
    (X0 : Stand p l e room_1 (s.setVm vm0) m A below meth c T0 locs 24 2176) (hx : p.tables.exec = Jvm.exec) (hby : c.code = code) (hml : c.maxLocals = 15) (hret : meth.sig.returnType = ret) (hlk : meth.locks = false) (hZ : Z.Warmed39 (s.setVm vm0).vm) (hown : (s.setVm vm0).vm.findClass "com/example/bdelloid/bdelloid/os/EnvironmentNamePinLaw" = some m.cls) (hS : s.Since vm0 k0) (hk : k0 ≤ h0.size) (e0 : T0.heap = h0) (N0 : Fr n0 locs) (Es : Exa Z h0 r "java/lang/String") (Fc : Fld Z h0 r "java/lang/String" "coder" "B" (.int 0)) (Fv : Fld Z h0 r "java/lang/String" "value" "[B" (.ref b)) (Va : Arv Z h0 b kk .byte (0 : Int32) [] (.int 0)) :
    own_GW p e below s (Q0 Z hh0 n0) room_1.cells room_1.slots (T0.setTop (mkF m 181 #[vI x1, vI x2, vI x3, vI x4, vI x5, vI x6, vI nn, vI r1, vI r2, vI r3, vI r4, vR ar, vI (0 : Int32), .unset, .unset] [(.ref r)])) := by
  refine own_vFW m T0 183 #[vI x1, vI x2, vI x3, vI x4, vI x5, vI x6, vI nn, vI r1, vI r2, vI r3, vI r4, vR ar, vI (0 : Int32), vR r, .unset] [] (fun t k => XS.astore X0.here hx rfl (hb hby at_181) rfl rfl (l' := #[vI x1, vI x2, vI x3, vI x4, vI x5, vI x6, vI nn, vI r1, vI r2, vI r3, vI r4, vR ar, vI (0 : Int32), vR r, .unset]) rfl k) ?_
  refine own_vFW m T0 185 #[vI x1, vI x2, vI x3, vI x4, vI x5, vI x6, vI nn, vI r1, vI r2, vI r3, vI r4, vR ar, vI (0 : Int32), vR r, .unset] [(.ref r)] (fun t k => XS.aload X0.here hx rfl (hb hby at_183) rfl rfl k) ?_
  refine own_vFW m T0 188 #[vI x1, vI x2, vI x3, vI x4, vI x5, vI x6, vI nn, vI r1, vI r2, vI r3, vI r4, vR ar, vI (0 : Int32), vR r, .unset] [] (fun t k => XS.ifnullNo X0.here hx rfl (hb hby at_185) rfl k) ?_
  refine own_vFW m T0 190 #[vI x1, vI x2, vI x3, vI x4, vI x5, vI x6, vI nn, vI r1, vI r2, vI r3, vI r4, vR ar, vI (0 : Int32), vR r, .unset] [(.ref r)] (fun t k => XS.aload X0.here hx rfl (hb hby at_188) rfl rfl k) ?_
  obtain ⟨_, T1, L1, X1, hQ1, st1⟩ := own_callV X0 hx hZ (y := (⟨"java/lang/String", "length", "()I"⟩ : MethodName)) (W := 0) (C := "java/lang/String") hown (hw _ (own_mt 92 rfl)) (hw _ (own_mt 55 rfl)) (hw _ (own_mt 57 rfl)) (hw _ (own_mt 56 rfl)) (hw _ (own_mt 12 rfl)) (hw _ (own_mt 58 rfl)) (by decide) (rm_Qln0 l Z a0 hw r b kk  cs sf iso u8 h0 n0 Z0 Od SS Es Fc Fv Va) (by decide) (by decide) e0 Es (g := (mkF m 190 #[vI x1, vI x2, vI x3, vI x4, vI x5, vI x6, vI nn, vI r1, vI r2, vI r3, vI r4, vR ar, vI (0 : Int32), vR r, .unset] [(.ref r)])) rfl (by rw [hml]; rfl) (argsL := []) (rest := []) rfl (lenOf pd___I rfl) rfl own_w0 (hb hby at_190) (by decide) (by decide)
  obtain ⟨rfl, N1q, e1⟩ := hQ1
  have N1 := Fr.app N0 N1q
  refine own_vFW m T1 193 #[vI x1, vI x2, vI x3, vI x4, vI x5, vI x6, vI nn, vI r1, vI r2, vI r3, vI r4, vR ar, vI (0 : Int32), vR r, .unset] [(.int 0)] (fun t k => st1 t k) ?_
  refine own_vFW m T1 195 #[vI x1, vI x2, vI x3, vI x4, vI x5, vI x6, vI nn, vI r1, vI r2, vI r3, vI r4, vR ar, vI (0 : Int32), vR r, .unset] [(.int 0), (.int 0)] (fun t k => XS.iload X1.here hx rfl (hb hby at_193) rfl k) ?_
  refine own_vFW m T1 200 #[vI x1, vI x2, vI x3, vI x4, vI x5, vI x6, vI nn, vI r1, vI r2, vI r3, vI r4, vR ar, vI (0 : Int32), vR r, .unset] [] (fun t k => XS.icmpYes X1.here hx rfl (pc0 := 195) (pc' := 200) rfl (hb hby at_195) rfl (teq (by decide : ((0 : Int32) = (0 : Int32)))).1 (by decide) (by decide) k) ?_
  refine own_vFW m T1 201 #[vI x1, vI x2, vI x3, vI x4, vI x5, vI x6, vI nn, vI r1, vI r2, vI r3, vI r4, vR ar, vI (0 : Int32), vR r, .unset] [(.int 1)] (fun t k => XS.iconst X1.here hx rfl (hb hby at_200) k) ?_
  refine own_vFW m T1 203 #[vI x1, vI x2, vI x3, vI x4, vI x5, vI x6, vI nn, vI r1, vI r2, vI r3, vI r4, vR ar, vI (0 : Int32), vR r, vI (1 : Int32)] [] (fun t k => XS.istore X1.here hx rfl (hb hby at_201) rfl (l' := #[vI x1, vI x2, vI x3, vI x4, vI x5, vI x6, vI nn, vI r1, vI r2, vI r3, vI r4, vR ar, vI (0 : Int32), vR r, vI (1 : Int32)]) rfl k) ?_
  refine own_vFW m T1 205 #[vI x1, vI x2, vI x3, vI x4, vI x5, vI x6, vI nn, vI r1, vI r2, vI r3, vI r4, vR ar, vI (0 : Int32), vR r, vI (1 : Int32)] [(.int 0)] (fun t k => XS.iload X1.here hx rfl (hb hby at_203) rfl k) ?_
  refine own_vFW m T1 236 #[vI x1, vI x2, vI x3, vI x4, vI x5, vI x6, vI nn, vI r1, vI r2, vI r3, vI r4, vR ar, vI (0 : Int32), vR r, vI (1 : Int32)] [] (fun t k => XS.ifYes X1.here hx rfl (pc0 := 205) (pc' := 236) rfl (hb hby at_205) rfl ((if0 _ _).trans (flt (by decide : ¬ ((0 : Int32) < (0 : Int32)))).2.2.2) (by decide) (by decide) k) ?_
  refine own_vFW m T1 238 #[vI x1, vI x2, vI x3, vI x4, vI x5, vI x6, vI nn, vI r1, vI r2, vI r3, vI r4, vR ar, vI (0 : Int32), vR r, vI (1 : Int32)] [(.int 0)] (fun t k => XS.iload X1.here hx rfl (hb hby at_236) rfl k) ?_
  refine own_vFW m T1 239 #[vI x1, vI x2, vI x3, vI x4, vI x5, vI x6, vI nn, vI r1, vI r2, vI r3, vI r4, vR ar, vI (0 : Int32), vR r, vI (1 : Int32)] [(.int 1), (.int 0)] (fun t k => XS.iconst X1.here hx rfl (hb hby at_238) k) ?_
  refine own_vFW m T1 270 #[vI x1, vI x2, vI x3, vI x4, vI x5, vI x6, vI nn, vI r1, vI r2, vI r3, vI r4, vR ar, vI (0 : Int32), vR r, vI (1 : Int32)] [] (fun t k => XS.icmpYes X1.here hx rfl (pc0 := 239) (pc' := 270) rfl (hb hby at_239) rfl (flt (by decide : ¬ ((1 : Int32) < (0 : Int32)))).2.2.2 (by decide) (by decide) k) ?_
  refine own_vFW m T1 272 #[vI x1, vI x2, vI x3, vI x4, vI x5, vI x6, vI nn, vI r1, vI r2, vI r3, vI r4, vR ar, vI (0 : Int32), vR r, vI (1 : Int32)] [(.int 0)] (fun t k => XS.iload X1.here hx rfl (hb hby at_270) rfl k) ?_
  refine own_vFW m T1 273 #[vI x1, vI x2, vI x3, vI x4, vI x5, vI x6, vI nn, vI r1, vI r2, vI r3, vI r4, vR ar, vI (0 : Int32), vR r, vI (1 : Int32)] [(.int 2), (.int 0)] (fun t k => XS.iconst X1.here hx rfl (hb hby at_272) k) ?_
  refine own_vFW m T1 304 #[vI x1, vI x2, vI x3, vI x4, vI x5, vI x6, vI nn, vI r1, vI r2, vI r3, vI r4, vR ar, vI (0 : Int32), vR r, vI (1 : Int32)] [] (fun t k => XS.icmpYes X1.here hx rfl (pc0 := 273) (pc' := 304) rfl (hb hby at_273) rfl (flt (by decide : ¬ ((2 : Int32) < (0 : Int32)))).2.2.2 (by decide) (by decide) k) ?_
  refine own_vFW m T1 306 #[vI x1, vI x2, vI x3, vI x4, vI x5, vI x6, vI nn, vI r1, vI r2, vI r3, vI r4, vR ar, vI (0 : Int32), vR r, vI (1 : Int32)] [(.int 1)] (fun t k => XS.iload X1.here hx rfl (hb hby at_304) rfl k) ?_
  exact own_retW (s := s) X1 hS (by rw [e1]; exact hk) (v := some (.int 1)) (fun h => by rw [hret] at h; cases h) hlk (fun fs hr => retN X1 hx (t := .boolean) hret (by simp) (hb hby at_306) hr) (by rw [e1]; exact ⟨rfl, N1⟩) (by decide) (by decide)
theorem pd_I__C : parseMethodDescriptor "(I)C" = some ⟨[.int], some .char⟩ := by decide +kernel
set_option maxRecDepth 65536 in
set_option maxHeartbeats 40000000 in
theorem own_tail1 (l : Launch) (Z : State) (a0 : Array Value) (hw : ∀ d ∈ tables_1, d.before a0 Z = true) {p : Program} {e : Env} {s : State} {m : MethodId} {A : Array Value} {below : List Frame} {meth : Method} {c : Code} {T0 : State} {locs : List Loc} (x1 x2 x3 x4 x5 x6 nn r1 r2 r3 r4 : Int32) (ar r b : Addr) (kk : ClassId) (cs : Int32) (sf : Value) (iso u8 : Addr) (hh0 h0 : Heap) (n0 : Nat) (Z0 : n0 ≤ h0.size) (Od : Old Z n0 h0) (SS : own_SS Z cs sf iso u8)
    (X0 : Stand p l e room_1 s m A below meth c T0 locs 24 2176) (hx : p.tables.exec = Jvm.exec) (hby : c.code = code) (hml : c.maxLocals = 15) (hret : meth.sig.returnType = ret) (hlk : meth.locks = false) (hZ : Z.Warmed39 s.vm) (hown : s.vm.findClass "com/example/bdelloid/bdelloid/os/EnvironmentNamePinLaw" = some m.cls) (e0 : T0.heap = h0) (N0 : Fr n0 locs) (Es : Exa Z h0 r "java/lang/String") (Fc : Fld Z h0 r "java/lang/String" "coder" "B" (.int 0)) (Fv : Fld Z h0 r "java/lang/String" "value" "[B" (.ref b)) (Va : Arv Z h0 b kk .byte (1 : Int32) [(.int r1)] (.int 0)) :
    own_GW p e below s (Q0 Z hh0 n0) room_1.cells room_1.slots (T0.setTop (mkF m 181 #[vI x1, vI x2, vI x3, vI x4, vI x5, vI x6, vI nn, vI r1, vI r2, vI r3, vI r4, vR ar, vI (1 : Int32), .unset, .unset] [(.ref r)])) := by
  refine own_vFW m T0 183 #[vI x1, vI x2, vI x3, vI x4, vI x5, vI x6, vI nn, vI r1, vI r2, vI r3, vI r4, vR ar, vI (1 : Int32), vR r, .unset] [] (fun t k => XS.astore X0.here hx rfl (hb hby at_181) rfl rfl (l' := #[vI x1, vI x2, vI x3, vI x4, vI x5, vI x6, vI nn, vI r1, vI r2, vI r3, vI r4, vR ar, vI (1 : Int32), vR r, .unset]) rfl k) ?_
  refine own_vFW m T0 185 #[vI x1, vI x2, vI x3, vI x4, vI x5, vI x6, vI nn, vI r1, vI r2, vI r3, vI r4, vR ar, vI (1 : Int32), vR r, .unset] [(.ref r)] (fun t k => XS.aload X0.here hx rfl (hb hby at_183) rfl rfl k) ?_
  refine own_vFW m T0 188 #[vI x1, vI x2, vI x3, vI x4, vI x5, vI x6, vI nn, vI r1, vI r2, vI r3, vI r4, vR ar, vI (1 : Int32), vR r, .unset] [] (fun t k => XS.ifnullNo X0.here hx rfl (hb hby at_185) rfl k) ?_
  refine own_vFW m T0 190 #[vI x1, vI x2, vI x3, vI x4, vI x5, vI x6, vI nn, vI r1, vI r2, vI r3, vI r4, vR ar, vI (1 : Int32), vR r, .unset] [(.ref r)] (fun t k => XS.aload X0.here hx rfl (hb hby at_188) rfl rfl k) ?_
  obtain ⟨_, T1, L1, X1, hQ1, st1⟩ := own_callV X0 hx hZ (y := (⟨"java/lang/String", "length", "()I"⟩ : MethodName)) (W := 0) (C := "java/lang/String") hown (hw _ (own_mt 92 rfl)) (hw _ (own_mt 55 rfl)) (hw _ (own_mt 57 rfl)) (hw _ (own_mt 56 rfl)) (hw _ (own_mt 12 rfl)) (hw _ (own_mt 58 rfl)) (by decide) (rm_Qln1 l Z a0 hw r b kk r1 cs sf iso u8 h0 n0 Z0 Od SS Es Fc Fv Va) (by decide) (by decide) e0 Es (g := (mkF m 190 #[vI x1, vI x2, vI x3, vI x4, vI x5, vI x6, vI nn, vI r1, vI r2, vI r3, vI r4, vR ar, vI (1 : Int32), vR r, .unset] [(.ref r)])) rfl (by rw [hml]; rfl) (argsL := []) (rest := []) rfl (lenOf pd___I rfl) rfl own_w0 (hb hby at_190) (by decide) (by decide)
  obtain ⟨rfl, N1q, e1⟩ := hQ1
  have N1 := Fr.app N0 N1q
  refine own_vFW m T1 193 #[vI x1, vI x2, vI x3, vI x4, vI x5, vI x6, vI nn, vI r1, vI r2, vI r3, vI r4, vR ar, vI (1 : Int32), vR r, .unset] [(.int 1)] (fun t k => st1 t k) ?_
  refine own_vFW m T1 195 #[vI x1, vI x2, vI x3, vI x4, vI x5, vI x6, vI nn, vI r1, vI r2, vI r3, vI r4, vR ar, vI (1 : Int32), vR r, .unset] [(.int 1), (.int 1)] (fun t k => XS.iload X1.here hx rfl (hb hby at_193) rfl k) ?_
  refine own_vFW m T1 200 #[vI x1, vI x2, vI x3, vI x4, vI x5, vI x6, vI nn, vI r1, vI r2, vI r3, vI r4, vR ar, vI (1 : Int32), vR r, .unset] [] (fun t k => XS.icmpYes X1.here hx rfl (pc0 := 195) (pc' := 200) rfl (hb hby at_195) rfl (teq (by decide : ((1 : Int32) = (1 : Int32)))).1 (by decide) (by decide) k) ?_
  refine own_vFW m T1 201 #[vI x1, vI x2, vI x3, vI x4, vI x5, vI x6, vI nn, vI r1, vI r2, vI r3, vI r4, vR ar, vI (1 : Int32), vR r, .unset] [(.int 1)] (fun t k => XS.iconst X1.here hx rfl (hb hby at_200) k) ?_
  refine own_vFW m T1 203 #[vI x1, vI x2, vI x3, vI x4, vI x5, vI x6, vI nn, vI r1, vI r2, vI r3, vI r4, vR ar, vI (1 : Int32), vR r, vI (1 : Int32)] [] (fun t k => XS.istore X1.here hx rfl (hb hby at_201) rfl (l' := #[vI x1, vI x2, vI x3, vI x4, vI x5, vI x6, vI nn, vI r1, vI r2, vI r3, vI r4, vR ar, vI (1 : Int32), vR r, vI (1 : Int32)]) rfl k) ?_
  refine own_vFW m T1 205 #[vI x1, vI x2, vI x3, vI x4, vI x5, vI x6, vI nn, vI r1, vI r2, vI r3, vI r4, vR ar, vI (1 : Int32), vR r, vI (1 : Int32)] [(.int 1)] (fun t k => XS.iload X1.here hx rfl (hb hby at_203) rfl k) ?_
  refine own_vFW m T1 208 #[vI x1, vI x2, vI x3, vI x4, vI x5, vI x6, vI nn, vI r1, vI r2, vI r3, vI r4, vR ar, vI (1 : Int32), vR r, vI (1 : Int32)] [] (fun t k => XS.ifNo X1.here hx rfl (hb hby at_205) rfl ((if0 _ _).trans (tlt (by decide : ((0 : Int32) < (1 : Int32)))).2.2.2) k) ?_
  refine own_vFW m T1 210 #[vI x1, vI x2, vI x3, vI x4, vI x5, vI x6, vI nn, vI r1, vI r2, vI r3, vI r4, vR ar, vI (1 : Int32), vR r, vI (1 : Int32)] [(.int 1)] (fun t k => XS.iload X1.here hx rfl (hb hby at_208) rfl k) ?_
  refine own_vFW m T1 213 #[vI x1, vI x2, vI x3, vI x4, vI x5, vI x6, vI nn, vI r1, vI r2, vI r3, vI r4, vR ar, vI (1 : Int32), vR r, vI (1 : Int32)] [] (fun t k => XS.ifNo X1.here hx rfl (hb hby at_210) rfl ((if0 _ _).trans (feq (by decide : ¬ ((1 : Int32) = (0 : Int32)))).1) k) ?_
  refine own_vFW m T1 215 #[vI x1, vI x2, vI x3, vI x4, vI x5, vI x6, vI nn, vI r1, vI r2, vI r3, vI r4, vR ar, vI (1 : Int32), vR r, vI (1 : Int32)] [(.ref r)] (fun t k => XS.aload X1.here hx rfl (hb hby at_213) rfl rfl k) ?_
  refine own_vFW m T1 216 #[vI x1, vI x2, vI x3, vI x4, vI x5, vI x6, vI nn, vI r1, vI r2, vI r3, vI r4, vR ar, vI (1 : Int32), vR r, vI (1 : Int32)] [(.int 0), (.ref r)] (fun t k => XS.iconst X1.here hx rfl (hb hby at_215) k) ?_
  obtain ⟨_, T2, L2, X2, hQ2, st2⟩ := own_callV X1 hx hZ (y := (⟨"java/lang/String", "charAt", "(I)C"⟩ : MethodName)) (W := 0) (C := "java/lang/String") hown (hw _ (own_mt 132 rfl)) (hw _ (own_mt 133 rfl)) (hw _ (own_mt 135 rfl)) (hw _ (own_mt 134 rfl)) (hw _ (own_mt 12 rfl)) (hw _ (own_mt 136 rfl)) (by decide) (rm_Qca10 l Z a0 hw r b kk r1 cs sf iso u8 h0 n0 Z0 Od SS Es Fc Fv Va) (by decide) (by decide) e1 Es (g := (mkF m 216 #[vI x1, vI x2, vI x3, vI x4, vI x5, vI x6, vI nn, vI r1, vI r2, vI r3, vI r4, vR ar, vI (1 : Int32), vR r, vI (1 : Int32)] [(.int 0), (.ref r)])) rfl (by rw [hml]; rfl) (argsL := [(.int 0)]) (rest := []) rfl (lenOf pd_I__C rfl) rfl own_w0 (hb hby at_216) (by decide) (by decide)
  obtain ⟨rfl, N2q, e2⟩ := hQ2
  have N2 := Fr.app N1 N2q
  refine own_vFW m T2 219 #[vI x1, vI x2, vI x3, vI x4, vI x5, vI x6, vI nn, vI r1, vI r2, vI r3, vI r4, vR ar, vI (1 : Int32), vR r, vI (1 : Int32)] [(.int ((r1 &&& (255 : Int32)).toUInt32.toUInt16.toUInt32.toInt32))] (fun t k => st2 t k) ?_
  refine own_vFW m T2 221 #[vI x1, vI x2, vI x3, vI x4, vI x5, vI x6, vI nn, vI r1, vI r2, vI r3, vI r4, vR ar, vI (1 : Int32), vR r, vI (1 : Int32)] [(.int r1), (.int ((r1 &&& (255 : Int32)).toUInt32.toUInt16.toUInt32.toInt32))] (fun t k => XS.iload X2.here hx rfl (hb hby at_219) rfl k) ?_
  refine own_vFW m T2 224 #[vI x1, vI x2, vI x3, vI x4, vI x5, vI x6, vI nn, vI r1, vI r2, vI r3, vI r4, vR ar, vI (1 : Int32), vR r, vI (1 : Int32)] [(.int 255), (.int r1), (.int ((r1 &&& (255 : Int32)).toUInt32.toUInt16.toUInt32.toInt32))] (fun t k => XS.sipush X2.here hx rfl (hb hby at_221) k) ?_
  refine own_vFW m T2 225 #[vI x1, vI x2, vI x3, vI x4, vI x5, vI x6, vI nn, vI r1, vI r2, vI r3, vI r4, vR ar, vI (1 : Int32), vR r, vI (1 : Int32)] [(.int (r1 &&& (255 : Int32))), (.int ((r1 &&& (255 : Int32)).toUInt32.toUInt16.toUInt32.toInt32))] (fun t k => XS.iand X2.here hx rfl (hb hby at_224) rfl k) ?_
  refine own_vFW m T2 226 #[vI x1, vI x2, vI x3, vI x4, vI x5, vI x6, vI nn, vI r1, vI r2, vI r3, vI r4, vR ar, vI (1 : Int32), vR r, vI (1 : Int32)] [(.int ((r1 &&& (255 : Int32)).toUInt32.toUInt16.toUInt32.toInt32)), (.int ((r1 &&& (255 : Int32)).toUInt32.toUInt16.toUInt32.toInt32))] (fun t k => XS.i2c X2.here hx rfl (hb hby at_225) rfl k) ?_
  refine own_vFW m T2 229 #[vI x1, vI x2, vI x3, vI x4, vI x5, vI x6, vI nn, vI r1, vI r2, vI r3, vI r4, vR ar, vI (1 : Int32), vR r, vI (1 : Int32)] [] (fun t k => XS.icmpNo X2.here hx rfl (hb hby at_226) rfl (teq (rfl : ((r1 &&& (255 : Int32)).toUInt32.toUInt16.toUInt32.toInt32) = ((r1 &&& (255 : Int32)).toUInt32.toUInt16.toUInt32.toInt32))).2 k) ?_
  refine own_vFW m T2 230 #[vI x1, vI x2, vI x3, vI x4, vI x5, vI x6, vI nn, vI r1, vI r2, vI r3, vI r4, vR ar, vI (1 : Int32), vR r, vI (1 : Int32)] [(.int 1)] (fun t k => XS.iconst X2.here hx rfl (hb hby at_229) k) ?_
  refine own_vFW m T2 234 #[vI x1, vI x2, vI x3, vI x4, vI x5, vI x6, vI nn, vI r1, vI r2, vI r3, vI r4, vR ar, vI (1 : Int32), vR r, vI (1 : Int32)] [(.int 1)] (fun t k => XS.goto X2.here hx rfl (pc0 := 230) (pc' := 234) rfl (hb hby at_230) (by decide) (by decide) k) ?_
  refine own_vFW m T2 236 #[vI x1, vI x2, vI x3, vI x4, vI x5, vI x6, vI nn, vI r1, vI r2, vI r3, vI r4, vR ar, vI (1 : Int32), vR r, vI (1 : Int32)] [] (fun t k => XS.istore X2.here hx rfl (hb hby at_234) rfl (l' := #[vI x1, vI x2, vI x3, vI x4, vI x5, vI x6, vI nn, vI r1, vI r2, vI r3, vI r4, vR ar, vI (1 : Int32), vR r, vI (1 : Int32)]) rfl k) ?_
  refine own_vFW m T2 238 #[vI x1, vI x2, vI x3, vI x4, vI x5, vI x6, vI nn, vI r1, vI r2, vI r3, vI r4, vR ar, vI (1 : Int32), vR r, vI (1 : Int32)] [(.int 1)] (fun t k => XS.iload X2.here hx rfl (hb hby at_236) rfl k) ?_
  refine own_vFW m T2 239 #[vI x1, vI x2, vI x3, vI x4, vI x5, vI x6, vI nn, vI r1, vI r2, vI r3, vI r4, vR ar, vI (1 : Int32), vR r, vI (1 : Int32)] [(.int 1), (.int 1)] (fun t k => XS.iconst X2.here hx rfl (hb hby at_238) k) ?_
  refine own_vFW m T2 270 #[vI x1, vI x2, vI x3, vI x4, vI x5, vI x6, vI nn, vI r1, vI r2, vI r3, vI r4, vR ar, vI (1 : Int32), vR r, vI (1 : Int32)] [] (fun t k => XS.icmpYes X2.here hx rfl (pc0 := 239) (pc' := 270) rfl (hb hby at_239) rfl (flt (by decide : ¬ ((1 : Int32) < (1 : Int32)))).2.2.2 (by decide) (by decide) k) ?_
  refine own_vFW m T2 272 #[vI x1, vI x2, vI x3, vI x4, vI x5, vI x6, vI nn, vI r1, vI r2, vI r3, vI r4, vR ar, vI (1 : Int32), vR r, vI (1 : Int32)] [(.int 1)] (fun t k => XS.iload X2.here hx rfl (hb hby at_270) rfl k) ?_
  refine own_vFW m T2 273 #[vI x1, vI x2, vI x3, vI x4, vI x5, vI x6, vI nn, vI r1, vI r2, vI r3, vI r4, vR ar, vI (1 : Int32), vR r, vI (1 : Int32)] [(.int 2), (.int 1)] (fun t k => XS.iconst X2.here hx rfl (hb hby at_272) k) ?_
  refine own_vFW m T2 304 #[vI x1, vI x2, vI x3, vI x4, vI x5, vI x6, vI nn, vI r1, vI r2, vI r3, vI r4, vR ar, vI (1 : Int32), vR r, vI (1 : Int32)] [] (fun t k => XS.icmpYes X2.here hx rfl (pc0 := 273) (pc' := 304) rfl (hb hby at_273) rfl (flt (by decide : ¬ ((2 : Int32) < (1 : Int32)))).2.2.2 (by decide) (by decide) k) ?_
  refine own_vFW m T2 306 #[vI x1, vI x2, vI x3, vI x4, vI x5, vI x6, vI nn, vI r1, vI r2, vI r3, vI r4, vR ar, vI (1 : Int32), vR r, vI (1 : Int32)] [(.int 1)] (fun t k => XS.iload X2.here hx rfl (hb hby at_304) rfl k) ?_
  exact own_retN X2 (v := some (.int 1)) (fun h => by rw [hret] at h; cases h) hlk (fun fs hr => retN X2 hx (t := .boolean) hret (by simp) (hb hby at_306) hr) (by rw [e2]; exact ⟨rfl, N2⟩) (by decide) (by decide)
set_option maxRecDepth 65536 in
set_option maxHeartbeats 40000000 in
theorem own_tail2 (l : Launch) (Z : State) (a0 : Array Value) (hw : ∀ d ∈ tables_1, d.before a0 Z = true) {p : Program} {e : Env} {s : State} {m : MethodId} {A : Array Value} {below : List Frame} {meth : Method} {c : Code} {T0 : State} {locs : List Loc} (x1 x2 x3 x4 x5 x6 nn r1 r2 r3 r4 : Int32) (ar r b : Addr) (kk : ClassId) (cs : Int32) (sf : Value) (iso u8 : Addr) (hh0 h0 : Heap) (n0 : Nat) (Z0 : n0 ≤ h0.size) (Od : Old Z n0 h0) (SS : own_SS Z cs sf iso u8)
    (X0 : Stand p l e room_1 s m A below meth c T0 locs 24 2176) (hx : p.tables.exec = Jvm.exec) (hby : c.code = code) (hml : c.maxLocals = 15) (hret : meth.sig.returnType = ret) (hlk : meth.locks = false) (hZ : Z.Warmed39 s.vm) (hown : s.vm.findClass "com/example/bdelloid/bdelloid/os/EnvironmentNamePinLaw" = some m.cls) (e0 : T0.heap = h0) (N0 : Fr n0 locs) (Es : Exa Z h0 r "java/lang/String") (Fc : Fld Z h0 r "java/lang/String" "coder" "B" (.int 0)) (Fv : Fld Z h0 r "java/lang/String" "value" "[B" (.ref b)) (Va : Arv Z h0 b kk .byte (2 : Int32) [(.int r1), (.int r2)] (.int 0)) :
    own_GW p e below s (Q0 Z hh0 n0) room_1.cells room_1.slots (T0.setTop (mkF m 181 #[vI x1, vI x2, vI x3, vI x4, vI x5, vI x6, vI nn, vI r1, vI r2, vI r3, vI r4, vR ar, vI (2 : Int32), .unset, .unset] [(.ref r)])) := by
  refine own_vFW m T0 183 #[vI x1, vI x2, vI x3, vI x4, vI x5, vI x6, vI nn, vI r1, vI r2, vI r3, vI r4, vR ar, vI (2 : Int32), vR r, .unset] [] (fun t k => XS.astore X0.here hx rfl (hb hby at_181) rfl rfl (l' := #[vI x1, vI x2, vI x3, vI x4, vI x5, vI x6, vI nn, vI r1, vI r2, vI r3, vI r4, vR ar, vI (2 : Int32), vR r, .unset]) rfl k) ?_
  refine own_vFW m T0 185 #[vI x1, vI x2, vI x3, vI x4, vI x5, vI x6, vI nn, vI r1, vI r2, vI r3, vI r4, vR ar, vI (2 : Int32), vR r, .unset] [(.ref r)] (fun t k => XS.aload X0.here hx rfl (hb hby at_183) rfl rfl k) ?_
  refine own_vFW m T0 188 #[vI x1, vI x2, vI x3, vI x4, vI x5, vI x6, vI nn, vI r1, vI r2, vI r3, vI r4, vR ar, vI (2 : Int32), vR r, .unset] [] (fun t k => XS.ifnullNo X0.here hx rfl (hb hby at_185) rfl k) ?_
  refine own_vFW m T0 190 #[vI x1, vI x2, vI x3, vI x4, vI x5, vI x6, vI nn, vI r1, vI r2, vI r3, vI r4, vR ar, vI (2 : Int32), vR r, .unset] [(.ref r)] (fun t k => XS.aload X0.here hx rfl (hb hby at_188) rfl rfl k) ?_
  obtain ⟨_, T1, L1, X1, hQ1, st1⟩ := own_callV X0 hx hZ (y := (⟨"java/lang/String", "length", "()I"⟩ : MethodName)) (W := 0) (C := "java/lang/String") hown (hw _ (own_mt 92 rfl)) (hw _ (own_mt 55 rfl)) (hw _ (own_mt 57 rfl)) (hw _ (own_mt 56 rfl)) (hw _ (own_mt 12 rfl)) (hw _ (own_mt 58 rfl)) (by decide) (rm_Qln2 l Z a0 hw r b kk r1 r2 cs sf iso u8 h0 n0 Z0 Od SS Es Fc Fv Va) (by decide) (by decide) e0 Es (g := (mkF m 190 #[vI x1, vI x2, vI x3, vI x4, vI x5, vI x6, vI nn, vI r1, vI r2, vI r3, vI r4, vR ar, vI (2 : Int32), vR r, .unset] [(.ref r)])) rfl (by rw [hml]; rfl) (argsL := []) (rest := []) rfl (lenOf pd___I rfl) rfl own_w0 (hb hby at_190) (by decide) (by decide)
  obtain ⟨rfl, N1q, e1⟩ := hQ1
  have N1 := Fr.app N0 N1q
  refine own_vFW m T1 193 #[vI x1, vI x2, vI x3, vI x4, vI x5, vI x6, vI nn, vI r1, vI r2, vI r3, vI r4, vR ar, vI (2 : Int32), vR r, .unset] [(.int 2)] (fun t k => st1 t k) ?_
  refine own_vFW m T1 195 #[vI x1, vI x2, vI x3, vI x4, vI x5, vI x6, vI nn, vI r1, vI r2, vI r3, vI r4, vR ar, vI (2 : Int32), vR r, .unset] [(.int 2), (.int 2)] (fun t k => XS.iload X1.here hx rfl (hb hby at_193) rfl k) ?_
  refine own_vFW m T1 200 #[vI x1, vI x2, vI x3, vI x4, vI x5, vI x6, vI nn, vI r1, vI r2, vI r3, vI r4, vR ar, vI (2 : Int32), vR r, .unset] [] (fun t k => XS.icmpYes X1.here hx rfl (pc0 := 195) (pc' := 200) rfl (hb hby at_195) rfl (teq (by decide : ((2 : Int32) = (2 : Int32)))).1 (by decide) (by decide) k) ?_
  refine own_vFW m T1 201 #[vI x1, vI x2, vI x3, vI x4, vI x5, vI x6, vI nn, vI r1, vI r2, vI r3, vI r4, vR ar, vI (2 : Int32), vR r, .unset] [(.int 1)] (fun t k => XS.iconst X1.here hx rfl (hb hby at_200) k) ?_
  refine own_vFW m T1 203 #[vI x1, vI x2, vI x3, vI x4, vI x5, vI x6, vI nn, vI r1, vI r2, vI r3, vI r4, vR ar, vI (2 : Int32), vR r, vI (1 : Int32)] [] (fun t k => XS.istore X1.here hx rfl (hb hby at_201) rfl (l' := #[vI x1, vI x2, vI x3, vI x4, vI x5, vI x6, vI nn, vI r1, vI r2, vI r3, vI r4, vR ar, vI (2 : Int32), vR r, vI (1 : Int32)]) rfl k) ?_
  refine own_vFW m T1 205 #[vI x1, vI x2, vI x3, vI x4, vI x5, vI x6, vI nn, vI r1, vI r2, vI r3, vI r4, vR ar, vI (2 : Int32), vR r, vI (1 : Int32)] [(.int 2)] (fun t k => XS.iload X1.here hx rfl (hb hby at_203) rfl k) ?_
  refine own_vFW m T1 208 #[vI x1, vI x2, vI x3, vI x4, vI x5, vI x6, vI nn, vI r1, vI r2, vI r3, vI r4, vR ar, vI (2 : Int32), vR r, vI (1 : Int32)] [] (fun t k => XS.ifNo X1.here hx rfl (hb hby at_205) rfl ((if0 _ _).trans (tlt (by decide : ((0 : Int32) < (2 : Int32)))).2.2.2) k) ?_
  refine own_vFW m T1 210 #[vI x1, vI x2, vI x3, vI x4, vI x5, vI x6, vI nn, vI r1, vI r2, vI r3, vI r4, vR ar, vI (2 : Int32), vR r, vI (1 : Int32)] [(.int 1)] (fun t k => XS.iload X1.here hx rfl (hb hby at_208) rfl k) ?_
  refine own_vFW m T1 213 #[vI x1, vI x2, vI x3, vI x4, vI x5, vI x6, vI nn, vI r1, vI r2, vI r3, vI r4, vR ar, vI (2 : Int32), vR r, vI (1 : Int32)] [] (fun t k => XS.ifNo X1.here hx rfl (hb hby at_210) rfl ((if0 _ _).trans (feq (by decide : ¬ ((1 : Int32) = (0 : Int32)))).1) k) ?_
  refine own_vFW m T1 215 #[vI x1, vI x2, vI x3, vI x4, vI x5, vI x6, vI nn, vI r1, vI r2, vI r3, vI r4, vR ar, vI (2 : Int32), vR r, vI (1 : Int32)] [(.ref r)] (fun t k => XS.aload X1.here hx rfl (hb hby at_213) rfl rfl k) ?_
  refine own_vFW m T1 216 #[vI x1, vI x2, vI x3, vI x4, vI x5, vI x6, vI nn, vI r1, vI r2, vI r3, vI r4, vR ar, vI (2 : Int32), vR r, vI (1 : Int32)] [(.int 0), (.ref r)] (fun t k => XS.iconst X1.here hx rfl (hb hby at_215) k) ?_
  obtain ⟨_, T2, L2, X2, hQ2, st2⟩ := own_callV X1 hx hZ (y := (⟨"java/lang/String", "charAt", "(I)C"⟩ : MethodName)) (W := 0) (C := "java/lang/String") hown (hw _ (own_mt 132 rfl)) (hw _ (own_mt 133 rfl)) (hw _ (own_mt 135 rfl)) (hw _ (own_mt 134 rfl)) (hw _ (own_mt 12 rfl)) (hw _ (own_mt 136 rfl)) (by decide) (rm_Qca20 l Z a0 hw r b kk r1 r2 cs sf iso u8 h0 n0 Z0 Od SS Es Fc Fv Va) (by decide) (by decide) e1 Es (g := (mkF m 216 #[vI x1, vI x2, vI x3, vI x4, vI x5, vI x6, vI nn, vI r1, vI r2, vI r3, vI r4, vR ar, vI (2 : Int32), vR r, vI (1 : Int32)] [(.int 0), (.ref r)])) rfl (by rw [hml]; rfl) (argsL := [(.int 0)]) (rest := []) rfl (lenOf pd_I__C rfl) rfl own_w0 (hb hby at_216) (by decide) (by decide)
  obtain ⟨rfl, N2q, e2⟩ := hQ2
  have N2 := Fr.app N1 N2q
  refine own_vFW m T2 219 #[vI x1, vI x2, vI x3, vI x4, vI x5, vI x6, vI nn, vI r1, vI r2, vI r3, vI r4, vR ar, vI (2 : Int32), vR r, vI (1 : Int32)] [(.int ((r1 &&& (255 : Int32)).toUInt32.toUInt16.toUInt32.toInt32))] (fun t k => st2 t k) ?_
  refine own_vFW m T2 221 #[vI x1, vI x2, vI x3, vI x4, vI x5, vI x6, vI nn, vI r1, vI r2, vI r3, vI r4, vR ar, vI (2 : Int32), vR r, vI (1 : Int32)] [(.int r1), (.int ((r1 &&& (255 : Int32)).toUInt32.toUInt16.toUInt32.toInt32))] (fun t k => XS.iload X2.here hx rfl (hb hby at_219) rfl k) ?_
  refine own_vFW m T2 224 #[vI x1, vI x2, vI x3, vI x4, vI x5, vI x6, vI nn, vI r1, vI r2, vI r3, vI r4, vR ar, vI (2 : Int32), vR r, vI (1 : Int32)] [(.int 255), (.int r1), (.int ((r1 &&& (255 : Int32)).toUInt32.toUInt16.toUInt32.toInt32))] (fun t k => XS.sipush X2.here hx rfl (hb hby at_221) k) ?_
  refine own_vFW m T2 225 #[vI x1, vI x2, vI x3, vI x4, vI x5, vI x6, vI nn, vI r1, vI r2, vI r3, vI r4, vR ar, vI (2 : Int32), vR r, vI (1 : Int32)] [(.int (r1 &&& (255 : Int32))), (.int ((r1 &&& (255 : Int32)).toUInt32.toUInt16.toUInt32.toInt32))] (fun t k => XS.iand X2.here hx rfl (hb hby at_224) rfl k) ?_
  refine own_vFW m T2 226 #[vI x1, vI x2, vI x3, vI x4, vI x5, vI x6, vI nn, vI r1, vI r2, vI r3, vI r4, vR ar, vI (2 : Int32), vR r, vI (1 : Int32)] [(.int ((r1 &&& (255 : Int32)).toUInt32.toUInt16.toUInt32.toInt32)), (.int ((r1 &&& (255 : Int32)).toUInt32.toUInt16.toUInt32.toInt32))] (fun t k => XS.i2c X2.here hx rfl (hb hby at_225) rfl k) ?_
  refine own_vFW m T2 229 #[vI x1, vI x2, vI x3, vI x4, vI x5, vI x6, vI nn, vI r1, vI r2, vI r3, vI r4, vR ar, vI (2 : Int32), vR r, vI (1 : Int32)] [] (fun t k => XS.icmpNo X2.here hx rfl (hb hby at_226) rfl (teq (rfl : ((r1 &&& (255 : Int32)).toUInt32.toUInt16.toUInt32.toInt32) = ((r1 &&& (255 : Int32)).toUInt32.toUInt16.toUInt32.toInt32))).2 k) ?_
  refine own_vFW m T2 230 #[vI x1, vI x2, vI x3, vI x4, vI x5, vI x6, vI nn, vI r1, vI r2, vI r3, vI r4, vR ar, vI (2 : Int32), vR r, vI (1 : Int32)] [(.int 1)] (fun t k => XS.iconst X2.here hx rfl (hb hby at_229) k) ?_
  refine own_vFW m T2 234 #[vI x1, vI x2, vI x3, vI x4, vI x5, vI x6, vI nn, vI r1, vI r2, vI r3, vI r4, vR ar, vI (2 : Int32), vR r, vI (1 : Int32)] [(.int 1)] (fun t k => XS.goto X2.here hx rfl (pc0 := 230) (pc' := 234) rfl (hb hby at_230) (by decide) (by decide) k) ?_
  refine own_vFW m T2 236 #[vI x1, vI x2, vI x3, vI x4, vI x5, vI x6, vI nn, vI r1, vI r2, vI r3, vI r4, vR ar, vI (2 : Int32), vR r, vI (1 : Int32)] [] (fun t k => XS.istore X2.here hx rfl (hb hby at_234) rfl (l' := #[vI x1, vI x2, vI x3, vI x4, vI x5, vI x6, vI nn, vI r1, vI r2, vI r3, vI r4, vR ar, vI (2 : Int32), vR r, vI (1 : Int32)]) rfl k) ?_
  refine own_vFW m T2 238 #[vI x1, vI x2, vI x3, vI x4, vI x5, vI x6, vI nn, vI r1, vI r2, vI r3, vI r4, vR ar, vI (2 : Int32), vR r, vI (1 : Int32)] [(.int 2)] (fun t k => XS.iload X2.here hx rfl (hb hby at_236) rfl k) ?_
  refine own_vFW m T2 239 #[vI x1, vI x2, vI x3, vI x4, vI x5, vI x6, vI nn, vI r1, vI r2, vI r3, vI r4, vR ar, vI (2 : Int32), vR r, vI (1 : Int32)] [(.int 1), (.int 2)] (fun t k => XS.iconst X2.here hx rfl (hb hby at_238) k) ?_
  refine own_vFW m T2 242 #[vI x1, vI x2, vI x3, vI x4, vI x5, vI x6, vI nn, vI r1, vI r2, vI r3, vI r4, vR ar, vI (2 : Int32), vR r, vI (1 : Int32)] [] (fun t k => XS.icmpNo X2.here hx rfl (hb hby at_239) rfl (tlt (by decide : ((1 : Int32) < (2 : Int32)))).2.2.2 k) ?_
  refine own_vFW m T2 244 #[vI x1, vI x2, vI x3, vI x4, vI x5, vI x6, vI nn, vI r1, vI r2, vI r3, vI r4, vR ar, vI (2 : Int32), vR r, vI (1 : Int32)] [(.int 1)] (fun t k => XS.iload X2.here hx rfl (hb hby at_242) rfl k) ?_
  refine own_vFW m T2 247 #[vI x1, vI x2, vI x3, vI x4, vI x5, vI x6, vI nn, vI r1, vI r2, vI r3, vI r4, vR ar, vI (2 : Int32), vR r, vI (1 : Int32)] [] (fun t k => XS.ifNo X2.here hx rfl (hb hby at_244) rfl ((if0 _ _).trans (feq (by decide : ¬ ((1 : Int32) = (0 : Int32)))).1) k) ?_
  refine own_vFW m T2 249 #[vI x1, vI x2, vI x3, vI x4, vI x5, vI x6, vI nn, vI r1, vI r2, vI r3, vI r4, vR ar, vI (2 : Int32), vR r, vI (1 : Int32)] [(.ref r)] (fun t k => XS.aload X2.here hx rfl (hb hby at_247) rfl rfl k) ?_
  refine own_vFW m T2 250 #[vI x1, vI x2, vI x3, vI x4, vI x5, vI x6, vI nn, vI r1, vI r2, vI r3, vI r4, vR ar, vI (2 : Int32), vR r, vI (1 : Int32)] [(.int 1), (.ref r)] (fun t k => XS.iconst X2.here hx rfl (hb hby at_249) k) ?_
  obtain ⟨_, T3, L3, X3, hQ3, st3⟩ := own_callV X2 hx hZ (y := (⟨"java/lang/String", "charAt", "(I)C"⟩ : MethodName)) (W := 0) (C := "java/lang/String") hown (hw _ (own_mt 132 rfl)) (hw _ (own_mt 133 rfl)) (hw _ (own_mt 135 rfl)) (hw _ (own_mt 134 rfl)) (hw _ (own_mt 12 rfl)) (hw _ (own_mt 136 rfl)) (by decide) (rm_Qca21 l Z a0 hw r b kk r1 r2 cs sf iso u8 h0 n0 Z0 Od SS Es Fc Fv Va) (by decide) (by decide) e2 Es (g := (mkF m 250 #[vI x1, vI x2, vI x3, vI x4, vI x5, vI x6, vI nn, vI r1, vI r2, vI r3, vI r4, vR ar, vI (2 : Int32), vR r, vI (1 : Int32)] [(.int 1), (.ref r)])) rfl (by rw [hml]; rfl) (argsL := [(.int 1)]) (rest := []) rfl (lenOf pd_I__C rfl) rfl own_w0 (hb hby at_250) (by decide) (by decide)
  obtain ⟨rfl, N3q, e3⟩ := hQ3
  have N3 := Fr.app N2 N3q
  refine own_vFW m T3 253 #[vI x1, vI x2, vI x3, vI x4, vI x5, vI x6, vI nn, vI r1, vI r2, vI r3, vI r4, vR ar, vI (2 : Int32), vR r, vI (1 : Int32)] [(.int ((r2 &&& (255 : Int32)).toUInt32.toUInt16.toUInt32.toInt32))] (fun t k => st3 t k) ?_
  refine own_vFW m T3 255 #[vI x1, vI x2, vI x3, vI x4, vI x5, vI x6, vI nn, vI r1, vI r2, vI r3, vI r4, vR ar, vI (2 : Int32), vR r, vI (1 : Int32)] [(.int r2), (.int ((r2 &&& (255 : Int32)).toUInt32.toUInt16.toUInt32.toInt32))] (fun t k => XS.iload X3.here hx rfl (hb hby at_253) rfl k) ?_
  refine own_vFW m T3 258 #[vI x1, vI x2, vI x3, vI x4, vI x5, vI x6, vI nn, vI r1, vI r2, vI r3, vI r4, vR ar, vI (2 : Int32), vR r, vI (1 : Int32)] [(.int 255), (.int r2), (.int ((r2 &&& (255 : Int32)).toUInt32.toUInt16.toUInt32.toInt32))] (fun t k => XS.sipush X3.here hx rfl (hb hby at_255) k) ?_
  refine own_vFW m T3 259 #[vI x1, vI x2, vI x3, vI x4, vI x5, vI x6, vI nn, vI r1, vI r2, vI r3, vI r4, vR ar, vI (2 : Int32), vR r, vI (1 : Int32)] [(.int (r2 &&& (255 : Int32))), (.int ((r2 &&& (255 : Int32)).toUInt32.toUInt16.toUInt32.toInt32))] (fun t k => XS.iand X3.here hx rfl (hb hby at_258) rfl k) ?_
  refine own_vFW m T3 260 #[vI x1, vI x2, vI x3, vI x4, vI x5, vI x6, vI nn, vI r1, vI r2, vI r3, vI r4, vR ar, vI (2 : Int32), vR r, vI (1 : Int32)] [(.int ((r2 &&& (255 : Int32)).toUInt32.toUInt16.toUInt32.toInt32)), (.int ((r2 &&& (255 : Int32)).toUInt32.toUInt16.toUInt32.toInt32))] (fun t k => XS.i2c X3.here hx rfl (hb hby at_259) rfl k) ?_
  refine own_vFW m T3 263 #[vI x1, vI x2, vI x3, vI x4, vI x5, vI x6, vI nn, vI r1, vI r2, vI r3, vI r4, vR ar, vI (2 : Int32), vR r, vI (1 : Int32)] [] (fun t k => XS.icmpNo X3.here hx rfl (hb hby at_260) rfl (teq (rfl : ((r2 &&& (255 : Int32)).toUInt32.toUInt16.toUInt32.toInt32) = ((r2 &&& (255 : Int32)).toUInt32.toUInt16.toUInt32.toInt32))).2 k) ?_
  refine own_vFW m T3 264 #[vI x1, vI x2, vI x3, vI x4, vI x5, vI x6, vI nn, vI r1, vI r2, vI r3, vI r4, vR ar, vI (2 : Int32), vR r, vI (1 : Int32)] [(.int 1)] (fun t k => XS.iconst X3.here hx rfl (hb hby at_263) k) ?_
  refine own_vFW m T3 268 #[vI x1, vI x2, vI x3, vI x4, vI x5, vI x6, vI nn, vI r1, vI r2, vI r3, vI r4, vR ar, vI (2 : Int32), vR r, vI (1 : Int32)] [(.int 1)] (fun t k => XS.goto X3.here hx rfl (pc0 := 264) (pc' := 268) rfl (hb hby at_264) (by decide) (by decide) k) ?_
  refine own_vFW m T3 270 #[vI x1, vI x2, vI x3, vI x4, vI x5, vI x6, vI nn, vI r1, vI r2, vI r3, vI r4, vR ar, vI (2 : Int32), vR r, vI (1 : Int32)] [] (fun t k => XS.istore X3.here hx rfl (hb hby at_268) rfl (l' := #[vI x1, vI x2, vI x3, vI x4, vI x5, vI x6, vI nn, vI r1, vI r2, vI r3, vI r4, vR ar, vI (2 : Int32), vR r, vI (1 : Int32)]) rfl k) ?_
  refine own_vFW m T3 272 #[vI x1, vI x2, vI x3, vI x4, vI x5, vI x6, vI nn, vI r1, vI r2, vI r3, vI r4, vR ar, vI (2 : Int32), vR r, vI (1 : Int32)] [(.int 2)] (fun t k => XS.iload X3.here hx rfl (hb hby at_270) rfl k) ?_
  refine own_vFW m T3 273 #[vI x1, vI x2, vI x3, vI x4, vI x5, vI x6, vI nn, vI r1, vI r2, vI r3, vI r4, vR ar, vI (2 : Int32), vR r, vI (1 : Int32)] [(.int 2), (.int 2)] (fun t k => XS.iconst X3.here hx rfl (hb hby at_272) k) ?_
  refine own_vFW m T3 304 #[vI x1, vI x2, vI x3, vI x4, vI x5, vI x6, vI nn, vI r1, vI r2, vI r3, vI r4, vR ar, vI (2 : Int32), vR r, vI (1 : Int32)] [] (fun t k => XS.icmpYes X3.here hx rfl (pc0 := 273) (pc' := 304) rfl (hb hby at_273) rfl (flt (by decide : ¬ ((2 : Int32) < (2 : Int32)))).2.2.2 (by decide) (by decide) k) ?_
  refine own_vFW m T3 306 #[vI x1, vI x2, vI x3, vI x4, vI x5, vI x6, vI nn, vI r1, vI r2, vI r3, vI r4, vR ar, vI (2 : Int32), vR r, vI (1 : Int32)] [(.int 1)] (fun t k => XS.iload X3.here hx rfl (hb hby at_304) rfl k) ?_
  exact own_retN X3 (v := some (.int 1)) (fun h => by rw [hret] at h; cases h) hlk (fun fs hr => retN X3 hx (t := .boolean) hret (by simp) (hb hby at_306) hr) (by rw [e3]; exact ⟨rfl, N3⟩) (by decide) (by decide)
set_option maxRecDepth 65536 in
set_option maxHeartbeats 40000000 in
theorem own_tail3 (l : Launch) (Z : State) (a0 : Array Value) (hw : ∀ d ∈ tables_1, d.before a0 Z = true) {p : Program} {e : Env} {s : State} {m : MethodId} {A : Array Value} {below : List Frame} {meth : Method} {c : Code} {T0 : State} {locs : List Loc} (x1 x2 x3 x4 x5 x6 nn r1 r2 r3 r4 : Int32) (ar r b : Addr) (kk : ClassId) (cs : Int32) (sf : Value) (iso u8 : Addr) (hh0 h0 : Heap) (n0 : Nat) (Z0 : n0 ≤ h0.size) (Od : Old Z n0 h0) (SS : own_SS Z cs sf iso u8)
    (X0 : Stand p l e room_1 s m A below meth c T0 locs 24 2176) (hx : p.tables.exec = Jvm.exec) (hby : c.code = code) (hml : c.maxLocals = 15) (hret : meth.sig.returnType = ret) (hlk : meth.locks = false) (hZ : Z.Warmed39 s.vm) (hown : s.vm.findClass "com/example/bdelloid/bdelloid/os/EnvironmentNamePinLaw" = some m.cls) (e0 : T0.heap = h0) (N0 : Fr n0 locs) (Es : Exa Z h0 r "java/lang/String") (Fc : Fld Z h0 r "java/lang/String" "coder" "B" (.int 0)) (Fv : Fld Z h0 r "java/lang/String" "value" "[B" (.ref b)) (Va : Arv Z h0 b kk .byte (3 : Int32) [(.int r1), (.int r2), (.int r3)] (.int 0)) :
    own_GW p e below s (Q0 Z hh0 n0) room_1.cells room_1.slots (T0.setTop (mkF m 181 #[vI x1, vI x2, vI x3, vI x4, vI x5, vI x6, vI nn, vI r1, vI r2, vI r3, vI r4, vR ar, vI (3 : Int32), .unset, .unset] [(.ref r)])) := by
  refine own_vFW m T0 183 #[vI x1, vI x2, vI x3, vI x4, vI x5, vI x6, vI nn, vI r1, vI r2, vI r3, vI r4, vR ar, vI (3 : Int32), vR r, .unset] [] (fun t k => XS.astore X0.here hx rfl (hb hby at_181) rfl rfl (l' := #[vI x1, vI x2, vI x3, vI x4, vI x5, vI x6, vI nn, vI r1, vI r2, vI r3, vI r4, vR ar, vI (3 : Int32), vR r, .unset]) rfl k) ?_
  refine own_vFW m T0 185 #[vI x1, vI x2, vI x3, vI x4, vI x5, vI x6, vI nn, vI r1, vI r2, vI r3, vI r4, vR ar, vI (3 : Int32), vR r, .unset] [(.ref r)] (fun t k => XS.aload X0.here hx rfl (hb hby at_183) rfl rfl k) ?_
  refine own_vFW m T0 188 #[vI x1, vI x2, vI x3, vI x4, vI x5, vI x6, vI nn, vI r1, vI r2, vI r3, vI r4, vR ar, vI (3 : Int32), vR r, .unset] [] (fun t k => XS.ifnullNo X0.here hx rfl (hb hby at_185) rfl k) ?_
  refine own_vFW m T0 190 #[vI x1, vI x2, vI x3, vI x4, vI x5, vI x6, vI nn, vI r1, vI r2, vI r3, vI r4, vR ar, vI (3 : Int32), vR r, .unset] [(.ref r)] (fun t k => XS.aload X0.here hx rfl (hb hby at_188) rfl rfl k) ?_
  obtain ⟨_, T1, L1, X1, hQ1, st1⟩ := own_callV X0 hx hZ (y := (⟨"java/lang/String", "length", "()I"⟩ : MethodName)) (W := 0) (C := "java/lang/String") hown (hw _ (own_mt 92 rfl)) (hw _ (own_mt 55 rfl)) (hw _ (own_mt 57 rfl)) (hw _ (own_mt 56 rfl)) (hw _ (own_mt 12 rfl)) (hw _ (own_mt 58 rfl)) (by decide) (rm_Qln3 l Z a0 hw r b kk r1 r2 r3 cs sf iso u8 h0 n0 Z0 Od SS Es Fc Fv Va) (by decide) (by decide) e0 Es (g := (mkF m 190 #[vI x1, vI x2, vI x3, vI x4, vI x5, vI x6, vI nn, vI r1, vI r2, vI r3, vI r4, vR ar, vI (3 : Int32), vR r, .unset] [(.ref r)])) rfl (by rw [hml]; rfl) (argsL := []) (rest := []) rfl (lenOf pd___I rfl) rfl own_w0 (hb hby at_190) (by decide) (by decide)
  obtain ⟨rfl, N1q, e1⟩ := hQ1
  have N1 := Fr.app N0 N1q
  refine own_vFW m T1 193 #[vI x1, vI x2, vI x3, vI x4, vI x5, vI x6, vI nn, vI r1, vI r2, vI r3, vI r4, vR ar, vI (3 : Int32), vR r, .unset] [(.int 3)] (fun t k => st1 t k) ?_
  refine own_vFW m T1 195 #[vI x1, vI x2, vI x3, vI x4, vI x5, vI x6, vI nn, vI r1, vI r2, vI r3, vI r4, vR ar, vI (3 : Int32), vR r, .unset] [(.int 3), (.int 3)] (fun t k => XS.iload X1.here hx rfl (hb hby at_193) rfl k) ?_
  refine own_vFW m T1 200 #[vI x1, vI x2, vI x3, vI x4, vI x5, vI x6, vI nn, vI r1, vI r2, vI r3, vI r4, vR ar, vI (3 : Int32), vR r, .unset] [] (fun t k => XS.icmpYes X1.here hx rfl (pc0 := 195) (pc' := 200) rfl (hb hby at_195) rfl (teq (by decide : ((3 : Int32) = (3 : Int32)))).1 (by decide) (by decide) k) ?_
  refine own_vFW m T1 201 #[vI x1, vI x2, vI x3, vI x4, vI x5, vI x6, vI nn, vI r1, vI r2, vI r3, vI r4, vR ar, vI (3 : Int32), vR r, .unset] [(.int 1)] (fun t k => XS.iconst X1.here hx rfl (hb hby at_200) k) ?_
  refine own_vFW m T1 203 #[vI x1, vI x2, vI x3, vI x4, vI x5, vI x6, vI nn, vI r1, vI r2, vI r3, vI r4, vR ar, vI (3 : Int32), vR r, vI (1 : Int32)] [] (fun t k => XS.istore X1.here hx rfl (hb hby at_201) rfl (l' := #[vI x1, vI x2, vI x3, vI x4, vI x5, vI x6, vI nn, vI r1, vI r2, vI r3, vI r4, vR ar, vI (3 : Int32), vR r, vI (1 : Int32)]) rfl k) ?_
  refine own_vFW m T1 205 #[vI x1, vI x2, vI x3, vI x4, vI x5, vI x6, vI nn, vI r1, vI r2, vI r3, vI r4, vR ar, vI (3 : Int32), vR r, vI (1 : Int32)] [(.int 3)] (fun t k => XS.iload X1.here hx rfl (hb hby at_203) rfl k) ?_
  refine own_vFW m T1 208 #[vI x1, vI x2, vI x3, vI x4, vI x5, vI x6, vI nn, vI r1, vI r2, vI r3, vI r4, vR ar, vI (3 : Int32), vR r, vI (1 : Int32)] [] (fun t k => XS.ifNo X1.here hx rfl (hb hby at_205) rfl ((if0 _ _).trans (tlt (by decide : ((0 : Int32) < (3 : Int32)))).2.2.2) k) ?_
  refine own_vFW m T1 210 #[vI x1, vI x2, vI x3, vI x4, vI x5, vI x6, vI nn, vI r1, vI r2, vI r3, vI r4, vR ar, vI (3 : Int32), vR r, vI (1 : Int32)] [(.int 1)] (fun t k => XS.iload X1.here hx rfl (hb hby at_208) rfl k) ?_
  refine own_vFW m T1 213 #[vI x1, vI x2, vI x3, vI x4, vI x5, vI x6, vI nn, vI r1, vI r2, vI r3, vI r4, vR ar, vI (3 : Int32), vR r, vI (1 : Int32)] [] (fun t k => XS.ifNo X1.here hx rfl (hb hby at_210) rfl ((if0 _ _).trans (feq (by decide : ¬ ((1 : Int32) = (0 : Int32)))).1) k) ?_
  refine own_vFW m T1 215 #[vI x1, vI x2, vI x3, vI x4, vI x5, vI x6, vI nn, vI r1, vI r2, vI r3, vI r4, vR ar, vI (3 : Int32), vR r, vI (1 : Int32)] [(.ref r)] (fun t k => XS.aload X1.here hx rfl (hb hby at_213) rfl rfl k) ?_
  refine own_vFW m T1 216 #[vI x1, vI x2, vI x3, vI x4, vI x5, vI x6, vI nn, vI r1, vI r2, vI r3, vI r4, vR ar, vI (3 : Int32), vR r, vI (1 : Int32)] [(.int 0), (.ref r)] (fun t k => XS.iconst X1.here hx rfl (hb hby at_215) k) ?_
  obtain ⟨_, T2, L2, X2, hQ2, st2⟩ := own_callV X1 hx hZ (y := (⟨"java/lang/String", "charAt", "(I)C"⟩ : MethodName)) (W := 0) (C := "java/lang/String") hown (hw _ (own_mt 132 rfl)) (hw _ (own_mt 133 rfl)) (hw _ (own_mt 135 rfl)) (hw _ (own_mt 134 rfl)) (hw _ (own_mt 12 rfl)) (hw _ (own_mt 136 rfl)) (by decide) (rm_Qca30 l Z a0 hw r b kk r1 r2 r3 cs sf iso u8 h0 n0 Z0 Od SS Es Fc Fv Va) (by decide) (by decide) e1 Es (g := (mkF m 216 #[vI x1, vI x2, vI x3, vI x4, vI x5, vI x6, vI nn, vI r1, vI r2, vI r3, vI r4, vR ar, vI (3 : Int32), vR r, vI (1 : Int32)] [(.int 0), (.ref r)])) rfl (by rw [hml]; rfl) (argsL := [(.int 0)]) (rest := []) rfl (lenOf pd_I__C rfl) rfl own_w0 (hb hby at_216) (by decide) (by decide)
  obtain ⟨rfl, N2q, e2⟩ := hQ2
  have N2 := Fr.app N1 N2q
  refine own_vFW m T2 219 #[vI x1, vI x2, vI x3, vI x4, vI x5, vI x6, vI nn, vI r1, vI r2, vI r3, vI r4, vR ar, vI (3 : Int32), vR r, vI (1 : Int32)] [(.int ((r1 &&& (255 : Int32)).toUInt32.toUInt16.toUInt32.toInt32))] (fun t k => st2 t k) ?_
  refine own_vFW m T2 221 #[vI x1, vI x2, vI x3, vI x4, vI x5, vI x6, vI nn, vI r1, vI r2, vI r3, vI r4, vR ar, vI (3 : Int32), vR r, vI (1 : Int32)] [(.int r1), (.int ((r1 &&& (255 : Int32)).toUInt32.toUInt16.toUInt32.toInt32))] (fun t k => XS.iload X2.here hx rfl (hb hby at_219) rfl k) ?_
  refine own_vFW m T2 224 #[vI x1, vI x2, vI x3, vI x4, vI x5, vI x6, vI nn, vI r1, vI r2, vI r3, vI r4, vR ar, vI (3 : Int32), vR r, vI (1 : Int32)] [(.int 255), (.int r1), (.int ((r1 &&& (255 : Int32)).toUInt32.toUInt16.toUInt32.toInt32))] (fun t k => XS.sipush X2.here hx rfl (hb hby at_221) k) ?_
  refine own_vFW m T2 225 #[vI x1, vI x2, vI x3, vI x4, vI x5, vI x6, vI nn, vI r1, vI r2, vI r3, vI r4, vR ar, vI (3 : Int32), vR r, vI (1 : Int32)] [(.int (r1 &&& (255 : Int32))), (.int ((r1 &&& (255 : Int32)).toUInt32.toUInt16.toUInt32.toInt32))] (fun t k => XS.iand X2.here hx rfl (hb hby at_224) rfl k) ?_
  refine own_vFW m T2 226 #[vI x1, vI x2, vI x3, vI x4, vI x5, vI x6, vI nn, vI r1, vI r2, vI r3, vI r4, vR ar, vI (3 : Int32), vR r, vI (1 : Int32)] [(.int ((r1 &&& (255 : Int32)).toUInt32.toUInt16.toUInt32.toInt32)), (.int ((r1 &&& (255 : Int32)).toUInt32.toUInt16.toUInt32.toInt32))] (fun t k => XS.i2c X2.here hx rfl (hb hby at_225) rfl k) ?_
  refine own_vFW m T2 229 #[vI x1, vI x2, vI x3, vI x4, vI x5, vI x6, vI nn, vI r1, vI r2, vI r3, vI r4, vR ar, vI (3 : Int32), vR r, vI (1 : Int32)] [] (fun t k => XS.icmpNo X2.here hx rfl (hb hby at_226) rfl (teq (rfl : ((r1 &&& (255 : Int32)).toUInt32.toUInt16.toUInt32.toInt32) = ((r1 &&& (255 : Int32)).toUInt32.toUInt16.toUInt32.toInt32))).2 k) ?_
  refine own_vFW m T2 230 #[vI x1, vI x2, vI x3, vI x4, vI x5, vI x6, vI nn, vI r1, vI r2, vI r3, vI r4, vR ar, vI (3 : Int32), vR r, vI (1 : Int32)] [(.int 1)] (fun t k => XS.iconst X2.here hx rfl (hb hby at_229) k) ?_
  refine own_vFW m T2 234 #[vI x1, vI x2, vI x3, vI x4, vI x5, vI x6, vI nn, vI r1, vI r2, vI r3, vI r4, vR ar, vI (3 : Int32), vR r, vI (1 : Int32)] [(.int 1)] (fun t k => XS.goto X2.here hx rfl (pc0 := 230) (pc' := 234) rfl (hb hby at_230) (by decide) (by decide) k) ?_
  refine own_vFW m T2 236 #[vI x1, vI x2, vI x3, vI x4, vI x5, vI x6, vI nn, vI r1, vI r2, vI r3, vI r4, vR ar, vI (3 : Int32), vR r, vI (1 : Int32)] [] (fun t k => XS.istore X2.here hx rfl (hb hby at_234) rfl (l' := #[vI x1, vI x2, vI x3, vI x4, vI x5, vI x6, vI nn, vI r1, vI r2, vI r3, vI r4, vR ar, vI (3 : Int32), vR r, vI (1 : Int32)]) rfl k) ?_
  refine own_vFW m T2 238 #[vI x1, vI x2, vI x3, vI x4, vI x5, vI x6, vI nn, vI r1, vI r2, vI r3, vI r4, vR ar, vI (3 : Int32), vR r, vI (1 : Int32)] [(.int 3)] (fun t k => XS.iload X2.here hx rfl (hb hby at_236) rfl k) ?_
  refine own_vFW m T2 239 #[vI x1, vI x2, vI x3, vI x4, vI x5, vI x6, vI nn, vI r1, vI r2, vI r3, vI r4, vR ar, vI (3 : Int32), vR r, vI (1 : Int32)] [(.int 1), (.int 3)] (fun t k => XS.iconst X2.here hx rfl (hb hby at_238) k) ?_
  refine own_vFW m T2 242 #[vI x1, vI x2, vI x3, vI x4, vI x5, vI x6, vI nn, vI r1, vI r2, vI r3, vI r4, vR ar, vI (3 : Int32), vR r, vI (1 : Int32)] [] (fun t k => XS.icmpNo X2.here hx rfl (hb hby at_239) rfl (tlt (by decide : ((1 : Int32) < (3 : Int32)))).2.2.2 k) ?_
  refine own_vFW m T2 244 #[vI x1, vI x2, vI x3, vI x4, vI x5, vI x6, vI nn, vI r1, vI r2, vI r3, vI r4, vR ar, vI (3 : Int32), vR r, vI (1 : Int32)] [(.int 1)] (fun t k => XS.iload X2.here hx rfl (hb hby at_242) rfl k) ?_
  refine own_vFW m T2 247 #[vI x1, vI x2, vI x3, vI x4, vI x5, vI x6, vI nn, vI r1, vI r2, vI r3, vI r4, vR ar, vI (3 : Int32), vR r, vI (1 : Int32)] [] (fun t k => XS.ifNo X2.here hx rfl (hb hby at_244) rfl ((if0 _ _).trans (feq (by decide : ¬ ((1 : Int32) = (0 : Int32)))).1) k) ?_
  refine own_vFW m T2 249 #[vI x1, vI x2, vI x3, vI x4, vI x5, vI x6, vI nn, vI r1, vI r2, vI r3, vI r4, vR ar, vI (3 : Int32), vR r, vI (1 : Int32)] [(.ref r)] (fun t k => XS.aload X2.here hx rfl (hb hby at_247) rfl rfl k) ?_
  refine own_vFW m T2 250 #[vI x1, vI x2, vI x3, vI x4, vI x5, vI x6, vI nn, vI r1, vI r2, vI r3, vI r4, vR ar, vI (3 : Int32), vR r, vI (1 : Int32)] [(.int 1), (.ref r)] (fun t k => XS.iconst X2.here hx rfl (hb hby at_249) k) ?_
  obtain ⟨_, T3, L3, X3, hQ3, st3⟩ := own_callV X2 hx hZ (y := (⟨"java/lang/String", "charAt", "(I)C"⟩ : MethodName)) (W := 0) (C := "java/lang/String") hown (hw _ (own_mt 132 rfl)) (hw _ (own_mt 133 rfl)) (hw _ (own_mt 135 rfl)) (hw _ (own_mt 134 rfl)) (hw _ (own_mt 12 rfl)) (hw _ (own_mt 136 rfl)) (by decide) (rm_Qca31 l Z a0 hw r b kk r1 r2 r3 cs sf iso u8 h0 n0 Z0 Od SS Es Fc Fv Va) (by decide) (by decide) e2 Es (g := (mkF m 250 #[vI x1, vI x2, vI x3, vI x4, vI x5, vI x6, vI nn, vI r1, vI r2, vI r3, vI r4, vR ar, vI (3 : Int32), vR r, vI (1 : Int32)] [(.int 1), (.ref r)])) rfl (by rw [hml]; rfl) (argsL := [(.int 1)]) (rest := []) rfl (lenOf pd_I__C rfl) rfl own_w0 (hb hby at_250) (by decide) (by decide)
  obtain ⟨rfl, N3q, e3⟩ := hQ3
  have N3 := Fr.app N2 N3q
  refine own_vFW m T3 253 #[vI x1, vI x2, vI x3, vI x4, vI x5, vI x6, vI nn, vI r1, vI r2, vI r3, vI r4, vR ar, vI (3 : Int32), vR r, vI (1 : Int32)] [(.int ((r2 &&& (255 : Int32)).toUInt32.toUInt16.toUInt32.toInt32))] (fun t k => st3 t k) ?_
  refine own_vFW m T3 255 #[vI x1, vI x2, vI x3, vI x4, vI x5, vI x6, vI nn, vI r1, vI r2, vI r3, vI r4, vR ar, vI (3 : Int32), vR r, vI (1 : Int32)] [(.int r2), (.int ((r2 &&& (255 : Int32)).toUInt32.toUInt16.toUInt32.toInt32))] (fun t k => XS.iload X3.here hx rfl (hb hby at_253) rfl k) ?_
  refine own_vFW m T3 258 #[vI x1, vI x2, vI x3, vI x4, vI x5, vI x6, vI nn, vI r1, vI r2, vI r3, vI r4, vR ar, vI (3 : Int32), vR r, vI (1 : Int32)] [(.int 255), (.int r2), (.int ((r2 &&& (255 : Int32)).toUInt32.toUInt16.toUInt32.toInt32))] (fun t k => XS.sipush X3.here hx rfl (hb hby at_255) k) ?_
  refine own_vFW m T3 259 #[vI x1, vI x2, vI x3, vI x4, vI x5, vI x6, vI nn, vI r1, vI r2, vI r3, vI r4, vR ar, vI (3 : Int32), vR r, vI (1 : Int32)] [(.int (r2 &&& (255 : Int32))), (.int ((r2 &&& (255 : Int32)).toUInt32.toUInt16.toUInt32.toInt32))] (fun t k => XS.iand X3.here hx rfl (hb hby at_258) rfl k) ?_
  refine own_vFW m T3 260 #[vI x1, vI x2, vI x3, vI x4, vI x5, vI x6, vI nn, vI r1, vI r2, vI r3, vI r4, vR ar, vI (3 : Int32), vR r, vI (1 : Int32)] [(.int ((r2 &&& (255 : Int32)).toUInt32.toUInt16.toUInt32.toInt32)), (.int ((r2 &&& (255 : Int32)).toUInt32.toUInt16.toUInt32.toInt32))] (fun t k => XS.i2c X3.here hx rfl (hb hby at_259) rfl k) ?_
  refine own_vFW m T3 263 #[vI x1, vI x2, vI x3, vI x4, vI x5, vI x6, vI nn, vI r1, vI r2, vI r3, vI r4, vR ar, vI (3 : Int32), vR r, vI (1 : Int32)] [] (fun t k => XS.icmpNo X3.here hx rfl (hb hby at_260) rfl (teq (rfl : ((r2 &&& (255 : Int32)).toUInt32.toUInt16.toUInt32.toInt32) = ((r2 &&& (255 : Int32)).toUInt32.toUInt16.toUInt32.toInt32))).2 k) ?_
  refine own_vFW m T3 264 #[vI x1, vI x2, vI x3, vI x4, vI x5, vI x6, vI nn, vI r1, vI r2, vI r3, vI r4, vR ar, vI (3 : Int32), vR r, vI (1 : Int32)] [(.int 1)] (fun t k => XS.iconst X3.here hx rfl (hb hby at_263) k) ?_
  refine own_vFW m T3 268 #[vI x1, vI x2, vI x3, vI x4, vI x5, vI x6, vI nn, vI r1, vI r2, vI r3, vI r4, vR ar, vI (3 : Int32), vR r, vI (1 : Int32)] [(.int 1)] (fun t k => XS.goto X3.here hx rfl (pc0 := 264) (pc' := 268) rfl (hb hby at_264) (by decide) (by decide) k) ?_
  refine own_vFW m T3 270 #[vI x1, vI x2, vI x3, vI x4, vI x5, vI x6, vI nn, vI r1, vI r2, vI r3, vI r4, vR ar, vI (3 : Int32), vR r, vI (1 : Int32)] [] (fun t k => XS.istore X3.here hx rfl (hb hby at_268) rfl (l' := #[vI x1, vI x2, vI x3, vI x4, vI x5, vI x6, vI nn, vI r1, vI r2, vI r3, vI r4, vR ar, vI (3 : Int32), vR r, vI (1 : Int32)]) rfl k) ?_
  refine own_vFW m T3 272 #[vI x1, vI x2, vI x3, vI x4, vI x5, vI x6, vI nn, vI r1, vI r2, vI r3, vI r4, vR ar, vI (3 : Int32), vR r, vI (1 : Int32)] [(.int 3)] (fun t k => XS.iload X3.here hx rfl (hb hby at_270) rfl k) ?_
  refine own_vFW m T3 273 #[vI x1, vI x2, vI x3, vI x4, vI x5, vI x6, vI nn, vI r1, vI r2, vI r3, vI r4, vR ar, vI (3 : Int32), vR r, vI (1 : Int32)] [(.int 2), (.int 3)] (fun t k => XS.iconst X3.here hx rfl (hb hby at_272) k) ?_
  refine own_vFW m T3 276 #[vI x1, vI x2, vI x3, vI x4, vI x5, vI x6, vI nn, vI r1, vI r2, vI r3, vI r4, vR ar, vI (3 : Int32), vR r, vI (1 : Int32)] [] (fun t k => XS.icmpNo X3.here hx rfl (hb hby at_273) rfl (tlt (by decide : ((2 : Int32) < (3 : Int32)))).2.2.2 k) ?_
  refine own_vFW m T3 278 #[vI x1, vI x2, vI x3, vI x4, vI x5, vI x6, vI nn, vI r1, vI r2, vI r3, vI r4, vR ar, vI (3 : Int32), vR r, vI (1 : Int32)] [(.int 1)] (fun t k => XS.iload X3.here hx rfl (hb hby at_276) rfl k) ?_
  refine own_vFW m T3 281 #[vI x1, vI x2, vI x3, vI x4, vI x5, vI x6, vI nn, vI r1, vI r2, vI r3, vI r4, vR ar, vI (3 : Int32), vR r, vI (1 : Int32)] [] (fun t k => XS.ifNo X3.here hx rfl (hb hby at_278) rfl ((if0 _ _).trans (feq (by decide : ¬ ((1 : Int32) = (0 : Int32)))).1) k) ?_
  refine own_vFW m T3 283 #[vI x1, vI x2, vI x3, vI x4, vI x5, vI x6, vI nn, vI r1, vI r2, vI r3, vI r4, vR ar, vI (3 : Int32), vR r, vI (1 : Int32)] [(.ref r)] (fun t k => XS.aload X3.here hx rfl (hb hby at_281) rfl rfl k) ?_
  refine own_vFW m T3 284 #[vI x1, vI x2, vI x3, vI x4, vI x5, vI x6, vI nn, vI r1, vI r2, vI r3, vI r4, vR ar, vI (3 : Int32), vR r, vI (1 : Int32)] [(.int 2), (.ref r)] (fun t k => XS.iconst X3.here hx rfl (hb hby at_283) k) ?_
  obtain ⟨_, T4, L4, X4, hQ4, st4⟩ := own_callV X3 hx hZ (y := (⟨"java/lang/String", "charAt", "(I)C"⟩ : MethodName)) (W := 0) (C := "java/lang/String") hown (hw _ (own_mt 132 rfl)) (hw _ (own_mt 133 rfl)) (hw _ (own_mt 135 rfl)) (hw _ (own_mt 134 rfl)) (hw _ (own_mt 12 rfl)) (hw _ (own_mt 136 rfl)) (by decide) (rm_Qca32 l Z a0 hw r b kk r1 r2 r3 cs sf iso u8 h0 n0 Z0 Od SS Es Fc Fv Va) (by decide) (by decide) e3 Es (g := (mkF m 284 #[vI x1, vI x2, vI x3, vI x4, vI x5, vI x6, vI nn, vI r1, vI r2, vI r3, vI r4, vR ar, vI (3 : Int32), vR r, vI (1 : Int32)] [(.int 2), (.ref r)])) rfl (by rw [hml]; rfl) (argsL := [(.int 2)]) (rest := []) rfl (lenOf pd_I__C rfl) rfl own_w0 (hb hby at_284) (by decide) (by decide)
  obtain ⟨rfl, N4q, e4⟩ := hQ4
  have N4 := Fr.app N3 N4q
  refine own_vFW m T4 287 #[vI x1, vI x2, vI x3, vI x4, vI x5, vI x6, vI nn, vI r1, vI r2, vI r3, vI r4, vR ar, vI (3 : Int32), vR r, vI (1 : Int32)] [(.int ((r3 &&& (255 : Int32)).toUInt32.toUInt16.toUInt32.toInt32))] (fun t k => st4 t k) ?_
  refine own_vFW m T4 289 #[vI x1, vI x2, vI x3, vI x4, vI x5, vI x6, vI nn, vI r1, vI r2, vI r3, vI r4, vR ar, vI (3 : Int32), vR r, vI (1 : Int32)] [(.int r3), (.int ((r3 &&& (255 : Int32)).toUInt32.toUInt16.toUInt32.toInt32))] (fun t k => XS.iload X4.here hx rfl (hb hby at_287) rfl k) ?_
  refine own_vFW m T4 292 #[vI x1, vI x2, vI x3, vI x4, vI x5, vI x6, vI nn, vI r1, vI r2, vI r3, vI r4, vR ar, vI (3 : Int32), vR r, vI (1 : Int32)] [(.int 255), (.int r3), (.int ((r3 &&& (255 : Int32)).toUInt32.toUInt16.toUInt32.toInt32))] (fun t k => XS.sipush X4.here hx rfl (hb hby at_289) k) ?_
  refine own_vFW m T4 293 #[vI x1, vI x2, vI x3, vI x4, vI x5, vI x6, vI nn, vI r1, vI r2, vI r3, vI r4, vR ar, vI (3 : Int32), vR r, vI (1 : Int32)] [(.int (r3 &&& (255 : Int32))), (.int ((r3 &&& (255 : Int32)).toUInt32.toUInt16.toUInt32.toInt32))] (fun t k => XS.iand X4.here hx rfl (hb hby at_292) rfl k) ?_
  refine own_vFW m T4 294 #[vI x1, vI x2, vI x3, vI x4, vI x5, vI x6, vI nn, vI r1, vI r2, vI r3, vI r4, vR ar, vI (3 : Int32), vR r, vI (1 : Int32)] [(.int ((r3 &&& (255 : Int32)).toUInt32.toUInt16.toUInt32.toInt32)), (.int ((r3 &&& (255 : Int32)).toUInt32.toUInt16.toUInt32.toInt32))] (fun t k => XS.i2c X4.here hx rfl (hb hby at_293) rfl k) ?_
  refine own_vFW m T4 297 #[vI x1, vI x2, vI x3, vI x4, vI x5, vI x6, vI nn, vI r1, vI r2, vI r3, vI r4, vR ar, vI (3 : Int32), vR r, vI (1 : Int32)] [] (fun t k => XS.icmpNo X4.here hx rfl (hb hby at_294) rfl (teq (rfl : ((r3 &&& (255 : Int32)).toUInt32.toUInt16.toUInt32.toInt32) = ((r3 &&& (255 : Int32)).toUInt32.toUInt16.toUInt32.toInt32))).2 k) ?_
  refine own_vFW m T4 298 #[vI x1, vI x2, vI x3, vI x4, vI x5, vI x6, vI nn, vI r1, vI r2, vI r3, vI r4, vR ar, vI (3 : Int32), vR r, vI (1 : Int32)] [(.int 1)] (fun t k => XS.iconst X4.here hx rfl (hb hby at_297) k) ?_
  refine own_vFW m T4 302 #[vI x1, vI x2, vI x3, vI x4, vI x5, vI x6, vI nn, vI r1, vI r2, vI r3, vI r4, vR ar, vI (3 : Int32), vR r, vI (1 : Int32)] [(.int 1)] (fun t k => XS.goto X4.here hx rfl (pc0 := 298) (pc' := 302) rfl (hb hby at_298) (by decide) (by decide) k) ?_
  refine own_vFW m T4 304 #[vI x1, vI x2, vI x3, vI x4, vI x5, vI x6, vI nn, vI r1, vI r2, vI r3, vI r4, vR ar, vI (3 : Int32), vR r, vI (1 : Int32)] [] (fun t k => XS.istore X4.here hx rfl (hb hby at_302) rfl (l' := #[vI x1, vI x2, vI x3, vI x4, vI x5, vI x6, vI nn, vI r1, vI r2, vI r3, vI r4, vR ar, vI (3 : Int32), vR r, vI (1 : Int32)]) rfl k) ?_
  refine own_vFW m T4 306 #[vI x1, vI x2, vI x3, vI x4, vI x5, vI x6, vI nn, vI r1, vI r2, vI r3, vI r4, vR ar, vI (3 : Int32), vR r, vI (1 : Int32)] [(.int 1)] (fun t k => XS.iload X4.here hx rfl (hb hby at_304) rfl k) ?_
  exact own_retN X4 (v := some (.int 1)) (fun h => by rw [hret] at h; cases h) hlk (fun fs hr => retN X4 hx (t := .boolean) hret (by simp) (hb hby at_306) hr) (by rw [e4]; exact ⟨rfl, N4⟩) (by decide) (by decide)
theorem own_mod5 (x : Int32) : ((x &&& (2147483647 : Int32)) % (5 : Int32)) = 0 ∨ ((x &&& (2147483647 : Int32)) % (5 : Int32)) = 1 ∨ ((x &&& (2147483647 : Int32)) % (5 : Int32)) = 2 ∨ ((x &&& (2147483647 : Int32)) % (5 : Int32)) = 3 ∨ ((x &&& (2147483647 : Int32)) % (5 : Int32)) = 4 := by
  have h1 := c_mask x 2147483647 31 (by decide) (by decide)
  have h2 := (c_irem (x &&& (2147483647 : Int32)) 5 5 rfl).1 (by omega)
  have key : ∀ z : Int32, 0 ≤ z.toInt → z.toInt < 5 → z = 0 ∨ z = 1 ∨ z = 2 ∨ z = 3 ∨ z = 4 := fun z a b => by
    have q : z.toInt = 0 ∨ z.toInt = 1 ∨ z.toInt = 2 ∨ z.toInt = 3 ∨ z.toInt = 4 := by omega
    rcases q with q | q | q | q | q
    · exact Or.inl (Int32.toInt_inj.mp q)
    · exact Or.inr (Or.inl (Int32.toInt_inj.mp q))
    · exact Or.inr (Or.inr (Or.inl (Int32.toInt_inj.mp q)))
    · exact Or.inr (Or.inr (Or.inr (Or.inl (Int32.toInt_inj.mp q))))
    · exact Or.inr (Or.inr (Or.inr (Or.inr (Int32.toInt_inj.mp q))))
  exact key _ (by rw [h2]; omega) (by rw [h2]; omega)
theorem pd_III__B : parseMethodDescriptor "(III)B" = some ⟨[.int, .int, .int], some .byte⟩ := by decide +kernel
theorem pd_AB__Ljava_lang_String_ : parseMethodDescriptor "([B)Ljava/lang/String;" = some ⟨[(.array .byte)], some (.object "java/lang/String")⟩ := by decide +kernel
theorem ef_IIIIII15l (m : MethodId) (x0 : Int32) (x1 : Int32) (x2 : Int32) (x3 : Int32) (x4 : Int32) (x5 : Int32) : entryFrame m #[(.int x0), (.int x1), (.int x2), (.int x3), (.int x4), (.int x5)] maxLocals = mkF m 0 #[vI x0, vI x1, vI x2, vI x3, vI x4, vI x5, .unset, .unset, .unset, .unset, .unset, .unset, .unset, .unset, .unset] [] := by first | (simp [entryFrame, mkF, argsToLocals, Value.category, maxLocals]; done) | rfl
set_option maxRecDepth 65536 in
set_option maxHeartbeats 40000000 in
theorem rm_Q0 (l : Launch) (Z : State) (a0 : Array Value) (hw : ∀ d ∈ tables_1, d.before a0 Z = true) (ws : List Jvm.Cond) (x1 x2 x3 x4 x5 x6 : Int32) (cs : Int32) (sf : Value) (iso u8 : Addr) (h0 : Heap) (n0 : Nat) (Z0 : n0 ≤ h0.size) (Od : Old Z n0 h0) (SS : own_SS Z cs sf iso u8) :
    MetFree l x (head1 (Jvm.Cond.code x code maxLocals ret :: ws) room_1) (fun aa_ UU_ => aa_ = #[(.int x1), (.int x2), (.int x3), (.int x4), (.int x5), (.int x6)] ∧ Z.Warmed39 UU_.vm ∧ UU_.heap = h0 ∧ CHv Z own_EL UU_.vm Z.heap) (fun _ _ _ _ _ => True) (fun _ UU_ oo_ VV_ => ∃ vv_ LL_, oo_ = .returned vv_ ∧ Q0 Z  h0 n0 vv_ VV_.heap LL_ ∧ ReturnedEndW UU_ oo_ VV_ LL_ room_1.cells room_1.slots) := by
  refine MetFree.of_bodySF (plainFor_of_name pn_com_example_bdelloid_bdelloid_os_EnvironmentNamePinLaw) hisR ?_
  intro p e s m args below meth c s₁ Bd hml0 hP hK
  obtain ⟨rfl, hZ, hh, hCH⟩ := hP
  have hx := Bd.exec
  have hby := Bd.bytes
  have hml : c.maxLocals = 15 := hml0
  have hown : s.vm.findClass "com/example/bdelloid/bdelloid/os/EnvironmentNamePinLaw" = some m.cls := findClass_of_methodNamed Bd.named
  have hlk : meth.locks = false := Bd.notSynchronized
  have X0 : Stand p l e room_1 s m #[(.int x1), (.int x2), (.int x3), (.int x4), (.int x5), (.int x6)] below meth c s₁ [] 0 0 := Stand.of_body Bd
  have e0 : s₁.heap = h0 := by rw [← hh, Bd.state]; rfl
  have N0 := Fr.nil n0
  have hEL := own_hEL hw
  show own_GW p e below s (Q0 Z  h0 n0) _ _ (s₁.setTop (entryFrame m #[(.int x1), (.int x2), (.int x3), (.int x4), (.int x5), (.int x6)] maxLocals))
  have hret := Bd.returns
  rw [ef_IIIIII15l m x1 x2 x3 x4 x5 x6]
  refine own_vFW m s₁ 1 #[vI x1, vI x2, vI x3, vI x4, vI x5, vI x6, .unset, .unset, .unset, .unset, .unset, .unset, .unset, .unset, .unset] [(.int x1)] (fun t k => XS.iloadN X0.here hx rfl (hb hby at_0) rfl k) ?_
  refine own_vFW m s₁ 3 #[vI x1, vI x2, vI x3, vI x4, vI x5, vI x6, .unset, .unset, .unset, .unset, .unset, .unset, .unset, .unset, .unset] [(.int 2147483647), (.int x1)] (fun t k => X0.ldcInt hx hown (mvT hZ (hw _ (own_mt 0 rfl))) (g := (mkF m 1 #[vI x1, vI x2, vI x3, vI x4, vI x5, vI x6, .unset, .unset, .unset, .unset, .unset, .unset, .unset, .unset, .unset] [(.int x1)])) rfl (hb hby at_1) _ k) ?_
  refine own_vFW m s₁ 4 #[vI x1, vI x2, vI x3, vI x4, vI x5, vI x6, .unset, .unset, .unset, .unset, .unset, .unset, .unset, .unset, .unset] [(.int (x1 &&& (2147483647 : Int32)))] (fun t k => XS.iand X0.here hx rfl (hb hby at_3) rfl k) ?_
  refine own_vFW m s₁ 5 #[vI x1, vI x2, vI x3, vI x4, vI x5, vI x6, .unset, .unset, .unset, .unset, .unset, .unset, .unset, .unset, .unset] [(.int 5), (.int (x1 &&& (2147483647 : Int32)))] (fun t k => XS.iconst X0.here hx rfl (hb hby at_4) k) ?_
  refine own_vFW m s₁ 6 #[vI x1, vI x2, vI x3, vI x4, vI x5, vI x6, .unset, .unset, .unset, .unset, .unset, .unset, .unset, .unset, .unset] [(.int ((x1 &&& (2147483647 : Int32)) % (5 : Int32)))] (fun t k => iremM X0 hx rfl (hb hby at_5) rfl (by decide) k) ?_
  refine own_vFW m s₁ 8 #[vI x1, vI x2, vI x3, vI x4, vI x5, vI x6, .val (.int ((x1 &&& (2147483647 : Int32)) % (5 : Int32))), .unset, .unset, .unset, .unset, .unset, .unset, .unset, .unset] [] (fun t k => XS.istore X0.here hx rfl (hb hby at_6) rfl (l' := #[vI x1, vI x2, vI x3, vI x4, vI x5, vI x6, .val (.int ((x1 &&& (2147483647 : Int32)) % (5 : Int32))), .unset, .unset, .unset, .unset, .unset, .unset, .unset, .unset]) rfl k) ?_
  have hn5 := own_mod5 x1
  generalize ((x1 &&& (2147483647 : Int32)) % (5 : Int32)) = nn at hn5 ⊢
  refine own_vFW m s₁ 9 #[vI x1, vI x2, vI x3, vI x4, vI x5, vI x6, vI nn, .unset, .unset, .unset, .unset, .unset, .unset, .unset, .unset] [(.int x2)] (fun t k => XS.iloadN X0.here hx rfl (hb hby at_8) rfl k) ?_
  refine own_vFW m s₁ 11 #[vI x1, vI x2, vI x3, vI x4, vI x5, vI x6, vI nn, .unset, .unset, .unset, .unset, .unset, .unset, .unset, .unset] [(.int x6), (.int x2)] (fun t k => XS.iload X0.here hx rfl (hb hby at_9) rfl k) ?_
  refine own_vFW m s₁ 12 #[vI x1, vI x2, vI x3, vI x4, vI x5, vI x6, vI nn, .unset, .unset, .unset, .unset, .unset, .unset, .unset, .unset] [(.int 0), (.int x6), (.int x2)] (fun t k => XS.iconst X0.here hx rfl (hb hby at_11) k) ?_
  obtain ⟨_, T1, L1, X1, hQ1, st1⟩ := own_callS X0 hx hZ (y := (⟨"com/example/bdelloid/bdelloid/os/EnvironmentNamePinLaw", "pick", "(III)B"⟩ : MethodName)) (W := 0) hown (hw _ (own_mt 1 rfl)) (hw _ (own_mt 2 rfl)) (hw _ (own_mt 3 rfl)) (hw _ (own_mt 4 rfl)) (by decide) (rm_Qpk l Z a0 hw x2 x6 (0 : Int32) h0 n0 Z0) (by decide) (by decide) e0 (g := (mkF m 12 #[vI x1, vI x2, vI x3, vI x4, vI x5, vI x6, vI nn, .unset, .unset, .unset, .unset, .unset, .unset, .unset, .unset] [(.int 0), (.int x6), (.int x2)])) rfl (by rw [hml]; rfl) (argsL := [(.int x2), (.int x6), (.int 0)]) (rest := []) rfl (lenOf pd_III__B rfl) rfl own_w0 (hb hby at_12) (by decide) (by decide)
  obtain ⟨r1, rfl, h8r1, N1q, e1⟩ := hQ1
  have N1 := Fr.app N0 N1q
  refine own_vFW m T1 15 #[vI x1, vI x2, vI x3, vI x4, vI x5, vI x6, vI nn, .unset, .unset, .unset, .unset, .unset, .unset, .unset, .unset] [(.int r1)] (fun t k => st1 t k) ?_
  refine own_vFW m T1 17 #[vI x1, vI x2, vI x3, vI x4, vI x5, vI x6, vI nn, vI r1, .unset, .unset, .unset, .unset, .unset, .unset, .unset] [] (fun t k => XS.istore X1.here hx rfl (hb hby at_15) rfl (l' := #[vI x1, vI x2, vI x3, vI x4, vI x5, vI x6, vI nn, vI r1, .unset, .unset, .unset, .unset, .unset, .unset, .unset]) rfl k) ?_
  refine own_vFW m T1 18 #[vI x1, vI x2, vI x3, vI x4, vI x5, vI x6, vI nn, vI r1, .unset, .unset, .unset, .unset, .unset, .unset, .unset] [(.int x3)] (fun t k => XS.iloadN X1.here hx rfl (hb hby at_17) rfl k) ?_
  refine own_vFW m T1 20 #[vI x1, vI x2, vI x3, vI x4, vI x5, vI x6, vI nn, vI r1, .unset, .unset, .unset, .unset, .unset, .unset, .unset] [(.int x6), (.int x3)] (fun t k => XS.iload X1.here hx rfl (hb hby at_18) rfl k) ?_
  refine own_vFW m T1 21 #[vI x1, vI x2, vI x3, vI x4, vI x5, vI x6, vI nn, vI r1, .unset, .unset, .unset, .unset, .unset, .unset, .unset] [(.int 1), (.int x6), (.int x3)] (fun t k => XS.iconst X1.here hx rfl (hb hby at_20) k) ?_
  obtain ⟨_, T2, L2, X2, hQ2, st2⟩ := own_callS X1 hx hZ (y := (⟨"com/example/bdelloid/bdelloid/os/EnvironmentNamePinLaw", "pick", "(III)B"⟩ : MethodName)) (W := 0) hown (hw _ (own_mt 1 rfl)) (hw _ (own_mt 2 rfl)) (hw _ (own_mt 3 rfl)) (hw _ (own_mt 4 rfl)) (by decide) (rm_Qpk l Z a0 hw x3 x6 (1 : Int32) h0 n0 Z0) (by decide) (by decide) e1 (g := (mkF m 21 #[vI x1, vI x2, vI x3, vI x4, vI x5, vI x6, vI nn, vI r1, .unset, .unset, .unset, .unset, .unset, .unset, .unset] [(.int 1), (.int x6), (.int x3)])) rfl (by rw [hml]; rfl) (argsL := [(.int x3), (.int x6), (.int 1)]) (rest := []) rfl (lenOf pd_III__B rfl) rfl own_w0 (hb hby at_21) (by decide) (by decide)
  obtain ⟨r2, rfl, h8r2, N2q, e2⟩ := hQ2
  have N2 := Fr.app N1 N2q
  refine own_vFW m T2 24 #[vI x1, vI x2, vI x3, vI x4, vI x5, vI x6, vI nn, vI r1, .unset, .unset, .unset, .unset, .unset, .unset, .unset] [(.int r2)] (fun t k => st2 t k) ?_
  refine own_vFW m T2 26 #[vI x1, vI x2, vI x3, vI x4, vI x5, vI x6, vI nn, vI r1, vI r2, .unset, .unset, .unset, .unset, .unset, .unset] [] (fun t k => XS.istore X2.here hx rfl (hb hby at_24) rfl (l' := #[vI x1, vI x2, vI x3, vI x4, vI x5, vI x6, vI nn, vI r1, vI r2, .unset, .unset, .unset, .unset, .unset, .unset]) rfl k) ?_
  refine own_vFW m T2 27 #[vI x1, vI x2, vI x3, vI x4, vI x5, vI x6, vI nn, vI r1, vI r2, .unset, .unset, .unset, .unset, .unset, .unset] [(.int x4)] (fun t k => XS.iloadN X2.here hx rfl (hb hby at_26) rfl k) ?_
  refine own_vFW m T2 29 #[vI x1, vI x2, vI x3, vI x4, vI x5, vI x6, vI nn, vI r1, vI r2, .unset, .unset, .unset, .unset, .unset, .unset] [(.int x6), (.int x4)] (fun t k => XS.iload X2.here hx rfl (hb hby at_27) rfl k) ?_
  refine own_vFW m T2 30 #[vI x1, vI x2, vI x3, vI x4, vI x5, vI x6, vI nn, vI r1, vI r2, .unset, .unset, .unset, .unset, .unset, .unset] [(.int 2), (.int x6), (.int x4)] (fun t k => XS.iconst X2.here hx rfl (hb hby at_29) k) ?_
  obtain ⟨_, T3, L3, X3, hQ3, st3⟩ := own_callS X2 hx hZ (y := (⟨"com/example/bdelloid/bdelloid/os/EnvironmentNamePinLaw", "pick", "(III)B"⟩ : MethodName)) (W := 0) hown (hw _ (own_mt 1 rfl)) (hw _ (own_mt 2 rfl)) (hw _ (own_mt 3 rfl)) (hw _ (own_mt 4 rfl)) (by decide) (rm_Qpk l Z a0 hw x4 x6 (2 : Int32) h0 n0 Z0) (by decide) (by decide) e2 (g := (mkF m 30 #[vI x1, vI x2, vI x3, vI x4, vI x5, vI x6, vI nn, vI r1, vI r2, .unset, .unset, .unset, .unset, .unset, .unset] [(.int 2), (.int x6), (.int x4)])) rfl (by rw [hml]; rfl) (argsL := [(.int x4), (.int x6), (.int 2)]) (rest := []) rfl (lenOf pd_III__B rfl) rfl own_w0 (hb hby at_30) (by decide) (by decide)
  obtain ⟨r3, rfl, h8r3, N3q, e3⟩ := hQ3
  have N3 := Fr.app N2 N3q
  refine own_vFW m T3 33 #[vI x1, vI x2, vI x3, vI x4, vI x5, vI x6, vI nn, vI r1, vI r2, .unset, .unset, .unset, .unset, .unset, .unset] [(.int r3)] (fun t k => st3 t k) ?_
  refine own_vFW m T3 35 #[vI x1, vI x2, vI x3, vI x4, vI x5, vI x6, vI nn, vI r1, vI r2, vI r3, .unset, .unset, .unset, .unset, .unset] [] (fun t k => XS.istore X3.here hx rfl (hb hby at_33) rfl (l' := #[vI x1, vI x2, vI x3, vI x4, vI x5, vI x6, vI nn, vI r1, vI r2, vI r3, .unset, .unset, .unset, .unset, .unset]) rfl k) ?_
  refine own_vFW m T3 37 #[vI x1, vI x2, vI x3, vI x4, vI x5, vI x6, vI nn, vI r1, vI r2, vI r3, .unset, .unset, .unset, .unset, .unset] [(.int x5)] (fun t k => XS.iload X3.here hx rfl (hb hby at_35) rfl k) ?_
  refine own_vFW m T3 39 #[vI x1, vI x2, vI x3, vI x4, vI x5, vI x6, vI nn, vI r1, vI r2, vI r3, .unset, .unset, .unset, .unset, .unset] [(.int x6), (.int x5)] (fun t k => XS.iload X3.here hx rfl (hb hby at_37) rfl k) ?_
  refine own_vFW m T3 40 #[vI x1, vI x2, vI x3, vI x4, vI x5, vI x6, vI nn, vI r1, vI r2, vI r3, .unset, .unset, .unset, .unset, .unset] [(.int 3), (.int x6), (.int x5)] (fun t k => XS.iconst X3.here hx rfl (hb hby at_39) k) ?_
  obtain ⟨_, T4, L4, X4, hQ4, st4⟩ := own_callS X3 hx hZ (y := (⟨"com/example/bdelloid/bdelloid/os/EnvironmentNamePinLaw", "pick", "(III)B"⟩ : MethodName)) (W := 0) hown (hw _ (own_mt 1 rfl)) (hw _ (own_mt 2 rfl)) (hw _ (own_mt 3 rfl)) (hw _ (own_mt 4 rfl)) (by decide) (rm_Qpk l Z a0 hw x5 x6 (3 : Int32) h0 n0 Z0) (by decide) (by decide) e3 (g := (mkF m 40 #[vI x1, vI x2, vI x3, vI x4, vI x5, vI x6, vI nn, vI r1, vI r2, vI r3, .unset, .unset, .unset, .unset, .unset] [(.int 3), (.int x6), (.int x5)])) rfl (by rw [hml]; rfl) (argsL := [(.int x5), (.int x6), (.int 3)]) (rest := []) rfl (lenOf pd_III__B rfl) rfl own_w0 (hb hby at_40) (by decide) (by decide)
  obtain ⟨r4, rfl, h8r4, N4q, e4⟩ := hQ4
  have N4 := Fr.app N3 N4q
  refine own_vFW m T4 43 #[vI x1, vI x2, vI x3, vI x4, vI x5, vI x6, vI nn, vI r1, vI r2, vI r3, .unset, .unset, .unset, .unset, .unset] [(.int r4)] (fun t k => st4 t k) ?_
  refine own_vFW m T4 45 #[vI x1, vI x2, vI x3, vI x4, vI x5, vI x6, vI nn, vI r1, vI r2, vI r3, vI r4, .unset, .unset, .unset, .unset] [] (fun t k => XS.istore X4.here hx rfl (hb hby at_43) rfl (l' := #[vI x1, vI x2, vI x3, vI x4, vI x5, vI x6, vI nn, vI r1, vI r2, vI r3, vI r4, .unset, .unset, .unset, .unset]) rfl k) ?_
  rcases hn5 with rfl | rfl | rfl | rfl | rfl
  case inl =>
    refine own_vFW m T4 47 #[vI x1, vI x2, vI x3, vI x4, vI x5, vI x6, vI (0 : Int32), vI r1, vI r2, vI r3, vI r4, .unset, .unset, .unset, .unset] [(.int 0)] (fun t k => XS.iload X4.here hx rfl (hb hby at_45) rfl k) ?_
    obtain ⟨T5, h5, k5, X5, e5, E5, A5, B5, st5⟩ := newPE X4 hx hZ (hw _ (own_mt 5 rfl)) e4 (g := (mkF m 47 #[vI x1, vI x2, vI x3, vI x4, vI x5, vI x6, vI (0 : Int32), vI r1, vI r2, vI r3, vI r4, .unset, .unset, .unset, .unset] [(.int 0)])) rfl (hb hby at_47) rfl (by decide) (cap := 0) (by decide) (by decide) (by decide) (by decide) (ad := "[B") (by decide)
    obtain ⟨b5, g5⟩ : ∃ z, z = h0.size := ⟨_, rfl⟩
    rw [← g5] at A5 st5 B5
    have f11 := Od.ext E5
    have V5 : Arv Z h5 b5 k5 .byte (0 : Int32) [] (.int 0) := (Arv.new A5 (by decide)).pad (pad_rep [] (.int 0) 0)
    have Z12 : n0 ≤ h5.size := Nat.le_trans Z0 E5.1
    refine own_vFW m T5 49 #[vI x1, vI x2, vI x3, vI x4, vI x5, vI x6, vI (0 : Int32), vI r1, vI r2, vI r3, vI r4, .unset, .unset, .unset, .unset] [(.ref b5)] (fun t k => st5 t k) ?_
    refine own_vFW m T5 51 #[vI x1, vI x2, vI x3, vI x4, vI x5, vI x6, vI (0 : Int32), vI r1, vI r2, vI r3, vI r4, vR b5, .unset, .unset, .unset] [] (fun t k => XS.astore X5.here hx rfl (hb hby at_49) rfl rfl (l' := #[vI x1, vI x2, vI x3, vI x4, vI x5, vI x6, vI (0 : Int32), vI r1, vI r2, vI r3, vI r4, vR b5, .unset, .unset, .unset]) rfl k) ?_
    refine own_vFW m T5 53 #[vI x1, vI x2, vI x3, vI x4, vI x5, vI x6, vI (0 : Int32), vI r1, vI r2, vI r3, vI r4, vR b5, .unset, .unset, .unset] [(.int 0)] (fun t k => XS.iload X5.here hx rfl (hb hby at_51) rfl k) ?_
    refine own_vFW m T5 62 #[vI x1, vI x2, vI x3, vI x4, vI x5, vI x6, vI (0 : Int32), vI r1, vI r2, vI r3, vI r4, vR b5, .unset, .unset, .unset] [] (fun t k => XS.ifYes X5.here hx rfl (pc0 := 53) (pc' := 62) rfl (hb hby at_53) rfl ((if0 _ _).trans (flt (by decide : ¬ ((0 : Int32) < (0 : Int32)))).2.2.2) (by decide) (by decide) k) ?_
    refine own_vFW m T5 64 #[vI x1, vI x2, vI x3, vI x4, vI x5, vI x6, vI (0 : Int32), vI r1, vI r2, vI r3, vI r4, vR b5, .unset, .unset, .unset] [(.int 0)] (fun t k => XS.iload X5.here hx rfl (hb hby at_62) rfl k) ?_
    refine own_vFW m T5 65 #[vI x1, vI x2, vI x3, vI x4, vI x5, vI x6, vI (0 : Int32), vI r1, vI r2, vI r3, vI r4, vR b5, .unset, .unset, .unset] [(.int 1), (.int 0)] (fun t k => XS.iconst X5.here hx rfl (hb hby at_64) k) ?_
    refine own_vFW m T5 74 #[vI x1, vI x2, vI x3, vI x4, vI x5, vI x6, vI (0 : Int32), vI r1, vI r2, vI r3, vI r4, vR b5, .unset, .unset, .unset] [] (fun t k => XS.icmpYes X5.here hx rfl (pc0 := 65) (pc' := 74) rfl (hb hby at_65) rfl (flt (by decide : ¬ ((1 : Int32) < (0 : Int32)))).2.2.2 (by decide) (by decide) k) ?_
    refine own_vFW m T5 76 #[vI x1, vI x2, vI x3, vI x4, vI x5, vI x6, vI (0 : Int32), vI r1, vI r2, vI r3, vI r4, vR b5, .unset, .unset, .unset] [(.int 0)] (fun t k => XS.iload X5.here hx rfl (hb hby at_74) rfl k) ?_
    refine own_vFW m T5 77 #[vI x1, vI x2, vI x3, vI x4, vI x5, vI x6, vI (0 : Int32), vI r1, vI r2, vI r3, vI r4, vR b5, .unset, .unset, .unset] [(.int 2), (.int 0)] (fun t k => XS.iconst X5.here hx rfl (hb hby at_76) k) ?_
    refine own_vFW m T5 86 #[vI x1, vI x2, vI x3, vI x4, vI x5, vI x6, vI (0 : Int32), vI r1, vI r2, vI r3, vI r4, vR b5, .unset, .unset, .unset] [] (fun t k => XS.icmpYes X5.here hx rfl (pc0 := 77) (pc' := 86) rfl (hb hby at_77) rfl (flt (by decide : ¬ ((2 : Int32) < (0 : Int32)))).2.2.2 (by decide) (by decide) k) ?_
    refine own_vFW m T5 88 #[vI x1, vI x2, vI x3, vI x4, vI x5, vI x6, vI (0 : Int32), vI r1, vI r2, vI r3, vI r4, vR b5, .unset, .unset, .unset] [(.int 0)] (fun t k => XS.iload X5.here hx rfl (hb hby at_86) rfl k) ?_
    refine own_vFW m T5 89 #[vI x1, vI x2, vI x3, vI x4, vI x5, vI x6, vI (0 : Int32), vI r1, vI r2, vI r3, vI r4, vR b5, .unset, .unset, .unset] [(.int 3), (.int 0)] (fun t k => XS.iconst X5.here hx rfl (hb hby at_88) k) ?_
    refine own_vFW m T5 98 #[vI x1, vI x2, vI x3, vI x4, vI x5, vI x6, vI (0 : Int32), vI r1, vI r2, vI r3, vI r4, vR b5, .unset, .unset, .unset] [] (fun t k => XS.icmpYes X5.here hx rfl (pc0 := 89) (pc' := 98) rfl (hb hby at_89) rfl (flt (by decide : ¬ ((3 : Int32) < (0 : Int32)))).2.2.2 (by decide) (by decide) k) ?_
    refine own_vFW m T5 100 #[vI x1, vI x2, vI x3, vI x4, vI x5, vI x6, vI (0 : Int32), vI r1, vI r2, vI r3, vI r4, vR b5, .unset, .unset, .unset] [(.int 0)] (fun t k => XS.iload X5.here hx rfl (hb hby at_98) rfl k) ?_
    refine own_vFW m T5 116 #[vI x1, vI x2, vI x3, vI x4, vI x5, vI x6, vI (0 : Int32), vI r1, vI r2, vI r3, vI r4, vR b5, .unset, .unset, .unset] [] (fun t k => XS.ifYes X5.here hx rfl (pc0 := 100) (pc' := 116) rfl (hb hby at_100) rfl ((if0 _ _).trans (flt (by decide : ¬ ((0 : Int32) < (0 : Int32)))).2.2.2) (by decide) (by decide) k) ?_
    refine own_vFW m T5 118 #[vI x1, vI x2, vI x3, vI x4, vI x5, vI x6, vI (0 : Int32), vI r1, vI r2, vI r3, vI r4, vR b5, .unset, .unset, .unset] [(.int 0)] (fun t k => XS.iload X5.here hx rfl (hb hby at_116) rfl k) ?_
    refine own_vFW m T5 119 #[vI x1, vI x2, vI x3, vI x4, vI x5, vI x6, vI (0 : Int32), vI r1, vI r2, vI r3, vI r4, vR b5, .unset, .unset, .unset] [(.int 1), (.int 0)] (fun t k => XS.iconst X5.here hx rfl (hb hby at_118) k) ?_
    refine own_vFW m T5 135 #[vI x1, vI x2, vI x3, vI x4, vI x5, vI x6, vI (0 : Int32), vI r1, vI r2, vI r3, vI r4, vR b5, .unset, .unset, .unset] [] (fun t k => XS.icmpYes X5.here hx rfl (pc0 := 119) (pc' := 135) rfl (hb hby at_119) rfl (flt (by decide : ¬ ((1 : Int32) < (0 : Int32)))).2.2.2 (by decide) (by decide) k) ?_
    refine own_vFW m T5 137 #[vI x1, vI x2, vI x3, vI x4, vI x5, vI x6, vI (0 : Int32), vI r1, vI r2, vI r3, vI r4, vR b5, .unset, .unset, .unset] [(.int 0)] (fun t k => XS.iload X5.here hx rfl (hb hby at_135) rfl k) ?_
    refine own_vFW m T5 138 #[vI x1, vI x2, vI x3, vI x4, vI x5, vI x6, vI (0 : Int32), vI r1, vI r2, vI r3, vI r4, vR b5, .unset, .unset, .unset] [(.int 2), (.int 0)] (fun t k => XS.iconst X5.here hx rfl (hb hby at_137) k) ?_
    refine own_vFW m T5 154 #[vI x1, vI x2, vI x3, vI x4, vI x5, vI x6, vI (0 : Int32), vI r1, vI r2, vI r3, vI r4, vR b5, .unset, .unset, .unset] [] (fun t k => XS.icmpYes X5.here hx rfl (pc0 := 138) (pc' := 154) rfl (hb hby at_138) rfl (flt (by decide : ¬ ((2 : Int32) < (0 : Int32)))).2.2.2 (by decide) (by decide) k) ?_
    refine own_vFW m T5 156 #[vI x1, vI x2, vI x3, vI x4, vI x5, vI x6, vI (0 : Int32), vI r1, vI r2, vI r3, vI r4, vR b5, .unset, .unset, .unset] [(.int 0)] (fun t k => XS.iload X5.here hx rfl (hb hby at_154) rfl k) ?_
    refine own_vFW m T5 157 #[vI x1, vI x2, vI x3, vI x4, vI x5, vI x6, vI (0 : Int32), vI r1, vI r2, vI r3, vI r4, vR b5, .unset, .unset, .unset] [(.int 3), (.int 0)] (fun t k => XS.iconst X5.here hx rfl (hb hby at_156) k) ?_
    refine own_vFW m T5 173 #[vI x1, vI x2, vI x3, vI x4, vI x5, vI x6, vI (0 : Int32), vI r1, vI r2, vI r3, vI r4, vR b5, .unset, .unset, .unset] [] (fun t k => XS.icmpYes X5.here hx rfl (pc0 := 157) (pc' := 173) rfl (hb hby at_157) rfl (flt (by decide : ¬ ((3 : Int32) < (0 : Int32)))).2.2.2 (by decide) (by decide) k) ?_
    refine own_vFW m T5 174 #[vI x1, vI x2, vI x3, vI x4, vI x5, vI x6, vI (0 : Int32), vI r1, vI r2, vI r3, vI r4, vR b5, .unset, .unset, .unset] [(.int 0)] (fun t k => XS.iconst X5.here hx rfl (hb hby at_173) k) ?_
    refine own_vFW m T5 176 #[vI x1, vI x2, vI x3, vI x4, vI x5, vI x6, vI (0 : Int32), vI r1, vI r2, vI r3, vI r4, vR b5, vI (0 : Int32), .unset, .unset] [] (fun t k => XS.istore X5.here hx rfl (hb hby at_174) rfl (l' := #[vI x1, vI x2, vI x3, vI x4, vI x5, vI x6, vI (0 : Int32), vI r1, vI r2, vI r3, vI r4, vR b5, vI (0 : Int32), .unset, .unset]) rfl k) ?_
    refine own_vFW m T5 178 #[vI x1, vI x2, vI x3, vI x4, vI x5, vI x6, vI (0 : Int32), vI r1, vI r2, vI r3, vI r4, vR b5, vI (0 : Int32), .unset, .unset] [(.ref b5)] (fun t k => XS.aload X5.here hx rfl (hb hby at_176) rfl rfl k) ?_
    obtain ⟨_, T13, L13, X13, hS, hZ, hown, hQ13, st13⟩ := own_callSW X5 hx hZ hEL hCH (y := (⟨"com/example/bdelloid/bdelloid/os/Environment", "name", "([B)Ljava/lang/String;"⟩ : MethodName)) (W := 0) hown (hw _ (own_mt 6 rfl)) (hw _ (own_mt 7 rfl)) (hw _ (own_mt 8 rfl)) (hw _ (own_mt 9 rfl)) (by decide) (rm_Qnm00 l Z a0 hw b5 k5  cs sf iso u8 h5 n0 Z12 f11 SS B5 V5 (by decide)) (by decide) (by decide) e5 (g := (mkF m 178 #[vI x1, vI x2, vI x3, vI x4, vI x5, vI x6, vI (0 : Int32), vI r1, vI r2, vI r3, vI r4, vR b5, vI (0 : Int32), .unset, .unset] [(.ref b5)])) rfl (by rw [hml]; rfl) (argsL := [(.ref b5)]) (rest := []) rfl (lenOf pd_AB__Ljava_lang_String_ rfl) rfl own_w0 (hb hby at_178) (by decide) (by decide)
    have hk13 : T13.heap.size ≤ T13.heap.size := Nat.le_refl _
    obtain ⟨b13r, rfl, N13q, K13q, Es13, Fc13, b13s, kb13, Fv13, Va13⟩ := hQ13
    have N13 := Fr.app N4 N13q
    have f19 := f11.keep K13q all0
    have Z22 : n0 ≤ T13.heap.size := Nat.le_trans Z12 K13q.1
    refine own_vFW m T13 181 #[vI x1, vI x2, vI x3, vI x4, vI x5, vI x6, vI (0 : Int32), vI r1, vI r2, vI r3, vI r4, vR b5, vI (0 : Int32), .unset, .unset] [(.ref b13r)] (fun t k => st13 t k) ?_
    exact own_tail0 l Z a0 hw x1 x2 x3 x4 x5 x6 (0 : Int32) r1 r2 r3 r4 b5 b13r b13s kb13 cs sf iso u8 h0 T13.heap n0 Z22 f19 SS (X13.more (by decide) (by decide)) hx hby hml hret hlk hZ hown hS hk13 rfl N13 Es13 Fc13 Fv13 Va13
  case inr.inl =>
    refine own_vFW m T4 47 #[vI x1, vI x2, vI x3, vI x4, vI x5, vI x6, vI (1 : Int32), vI r1, vI r2, vI r3, vI r4, .unset, .unset, .unset, .unset] [(.int 1)] (fun t k => XS.iload X4.here hx rfl (hb hby at_45) rfl k) ?_
    obtain ⟨T23, h23, k23, X23, e23, E23, A23, B23, st23⟩ := newPE X4 hx hZ (hw _ (own_mt 5 rfl)) e4 (g := (mkF m 47 #[vI x1, vI x2, vI x3, vI x4, vI x5, vI x6, vI (1 : Int32), vI r1, vI r2, vI r3, vI r4, .unset, .unset, .unset, .unset] [(.int 1)])) rfl (hb hby at_47) rfl (by decide) (cap := 1) (by decide) (by decide) (by decide) (by decide) (ad := "[B") (by decide)
    obtain ⟨b23, g23⟩ : ∃ z, z = h0.size := ⟨_, rfl⟩
    rw [← g23] at A23 st23 B23
    have gn_b23 : n0 ≤ b23 := Nat.le_trans Z0 (Nat.le_of_eq g23.symm)
    have f29 := Od.ext E23
    have V23 : Arv Z h23 b23 k23 .byte (1 : Int32) [(.int 0)] (.int 0) := (Arv.new A23 (by decide)).pad (pad_rep [] (.int 0) 1)
    have Z30 : n0 ≤ h23.size := Nat.le_trans Z0 E23.1
    refine own_vFW m T23 49 #[vI x1, vI x2, vI x3, vI x4, vI x5, vI x6, vI (1 : Int32), vI r1, vI r2, vI r3, vI r4, .unset, .unset, .unset, .unset] [(.ref b23)] (fun t k => st23 t k) ?_
    refine own_vFW m T23 51 #[vI x1, vI x2, vI x3, vI x4, vI x5, vI x6, vI (1 : Int32), vI r1, vI r2, vI r3, vI r4, vR b23, .unset, .unset, .unset] [] (fun t k => XS.astore X23.here hx rfl (hb hby at_49) rfl rfl (l' := #[vI x1, vI x2, vI x3, vI x4, vI x5, vI x6, vI (1 : Int32), vI r1, vI r2, vI r3, vI r4, vR b23, .unset, .unset, .unset]) rfl k) ?_
    refine own_vFW m T23 53 #[vI x1, vI x2, vI x3, vI x4, vI x5, vI x6, vI (1 : Int32), vI r1, vI r2, vI r3, vI r4, vR b23, .unset, .unset, .unset] [(.int 1)] (fun t k => XS.iload X23.here hx rfl (hb hby at_51) rfl k) ?_
    refine own_vFW m T23 56 #[vI x1, vI x2, vI x3, vI x4, vI x5, vI x6, vI (1 : Int32), vI r1, vI r2, vI r3, vI r4, vR b23, .unset, .unset, .unset] [] (fun t k => XS.ifNo X23.here hx rfl (hb hby at_53) rfl ((if0 _ _).trans (tlt (by decide : ((0 : Int32) < (1 : Int32)))).2.2.2) k) ?_
    refine own_vFW m T23 58 #[vI x1, vI x2, vI x3, vI x4, vI x5, vI x6, vI (1 : Int32), vI r1, vI r2, vI r3, vI r4, vR b23, .unset, .unset, .unset] [(.ref b23)] (fun t k => XS.aload X23.here hx rfl (hb hby at_56) rfl rfl k) ?_
    refine own_vFW m T23 59 #[vI x1, vI x2, vI x3, vI x4, vI x5, vI x6, vI (1 : Int32), vI r1, vI r2, vI r3, vI r4, vR b23, .unset, .unset, .unset] [(.int 0), (.ref b23)] (fun t k => XS.iconst X23.here hx rfl (hb hby at_58) k) ?_
    refine own_vFW m T23 61 #[vI x1, vI x2, vI x3, vI x4, vI x5, vI x6, vI (1 : Int32), vI r1, vI r2, vI r3, vI r4, vR b23, .unset, .unset, .unset] [(.int r1), (.int 0), (.ref b23)] (fun t k => XS.iload X23.here hx rfl (hb hby at_59) rfl k) ?_
    obtain ⟨c31, Ar31, q31a, q31b, q31c, q31d, q31e⟩ := id V23
    obtain ⟨T31, h31, X31, e31, W31, st31⟩ := stB X23 hx hZ e23 Ar31 (inb_of q31b (by decide)) (g := (mkF m 61 #[vI x1, vI x2, vI x3, vI x4, vI x5, vI x6, vI (1 : Int32), vI r1, vI r2, vI r3, vI r4, vR b23, .unset, .unset, .unset] [(.int r1), (.int 0), (.ref b23)])) rfl rfl (hb hby at_61)
    have V31 : Arv Z h31 b23 k23 .byte (1 : Int32) [(.int (r1.toInt8.toInt32))] (.int 0) := Arv.set Ar31 q31a q31b q31c q31d q31e (fits_nar_byte _) W31 0 rfl (Nat.le_of_ble_eq_true rfl)
    rw [h8r1] at V31
    have f37 := f29.wr W31 gn_b23
    have f38 := B23.wr W31
    have Z39 : n0 ≤ h31.size := Nat.le_trans Z30 (Keep.of_wr W31).1
    have N31 := Fr.snoc X31 N4 gn_b23
    refine own_vFW m T31 62 #[vI x1, vI x2, vI x3, vI x4, vI x5, vI x6, vI (1 : Int32), vI r1, vI r2, vI r3, vI r4, vR b23, .unset, .unset, .unset] [] (fun t k => st31 t k) ?_
    refine own_vFW m T31 64 #[vI x1, vI x2, vI x3, vI x4, vI x5, vI x6, vI (1 : Int32), vI r1, vI r2, vI r3, vI r4, vR b23, .unset, .unset, .unset] [(.int 1)] (fun t k => XS.iload X31.here hx rfl (hb hby at_62) rfl k) ?_
    refine own_vFW m T31 65 #[vI x1, vI x2, vI x3, vI x4, vI x5, vI x6, vI (1 : Int32), vI r1, vI r2, vI r3, vI r4, vR b23, .unset, .unset, .unset] [(.int 1), (.int 1)] (fun t k => XS.iconst X31.here hx rfl (hb hby at_64) k) ?_
    refine own_vFW m T31 74 #[vI x1, vI x2, vI x3, vI x4, vI x5, vI x6, vI (1 : Int32), vI r1, vI r2, vI r3, vI r4, vR b23, .unset, .unset, .unset] [] (fun t k => XS.icmpYes X31.here hx rfl (pc0 := 65) (pc' := 74) rfl (hb hby at_65) rfl (flt (by decide : ¬ ((1 : Int32) < (1 : Int32)))).2.2.2 (by decide) (by decide) k) ?_
    refine own_vFW m T31 76 #[vI x1, vI x2, vI x3, vI x4, vI x5, vI x6, vI (1 : Int32), vI r1, vI r2, vI r3, vI r4, vR b23, .unset, .unset, .unset] [(.int 1)] (fun t k => XS.iload X31.here hx rfl (hb hby at_74) rfl k) ?_
    refine own_vFW m T31 77 #[vI x1, vI x2, vI x3, vI x4, vI x5, vI x6, vI (1 : Int32), vI r1, vI r2, vI r3, vI r4, vR b23, .unset, .unset, .unset] [(.int 2), (.int 1)] (fun t k => XS.iconst X31.here hx rfl (hb hby at_76) k) ?_
    refine own_vFW m T31 86 #[vI x1, vI x2, vI x3, vI x4, vI x5, vI x6, vI (1 : Int32), vI r1, vI r2, vI r3, vI r4, vR b23, .unset, .unset, .unset] [] (fun t k => XS.icmpYes X31.here hx rfl (pc0 := 77) (pc' := 86) rfl (hb hby at_77) rfl (flt (by decide : ¬ ((2 : Int32) < (1 : Int32)))).2.2.2 (by decide) (by decide) k) ?_
    refine own_vFW m T31 88 #[vI x1, vI x2, vI x3, vI x4, vI x5, vI x6, vI (1 : Int32), vI r1, vI r2, vI r3, vI r4, vR b23, .unset, .unset, .unset] [(.int 1)] (fun t k => XS.iload X31.here hx rfl (hb hby at_86) rfl k) ?_
    refine own_vFW m T31 89 #[vI x1, vI x2, vI x3, vI x4, vI x5, vI x6, vI (1 : Int32), vI r1, vI r2, vI r3, vI r4, vR b23, .unset, .unset, .unset] [(.int 3), (.int 1)] (fun t k => XS.iconst X31.here hx rfl (hb hby at_88) k) ?_
    refine own_vFW m T31 98 #[vI x1, vI x2, vI x3, vI x4, vI x5, vI x6, vI (1 : Int32), vI r1, vI r2, vI r3, vI r4, vR b23, .unset, .unset, .unset] [] (fun t k => XS.icmpYes X31.here hx rfl (pc0 := 89) (pc' := 98) rfl (hb hby at_89) rfl (flt (by decide : ¬ ((3 : Int32) < (1 : Int32)))).2.2.2 (by decide) (by decide) k) ?_
    refine own_vFW m T31 100 #[vI x1, vI x2, vI x3, vI x4, vI x5, vI x6, vI (1 : Int32), vI r1, vI r2, vI r3, vI r4, vR b23, .unset, .unset, .unset] [(.int 1)] (fun t k => XS.iload X31.here hx rfl (hb hby at_98) rfl k) ?_
    refine own_vFW m T31 103 #[vI x1, vI x2, vI x3, vI x4, vI x5, vI x6, vI (1 : Int32), vI r1, vI r2, vI r3, vI r4, vR b23, .unset, .unset, .unset] [] (fun t k => XS.ifNo X31.here hx rfl (hb hby at_100) rfl ((if0 _ _).trans (tlt (by decide : ((0 : Int32) < (1 : Int32)))).2.2.2) k) ?_
    refine own_vFW m T31 105 #[vI x1, vI x2, vI x3, vI x4, vI x5, vI x6, vI (1 : Int32), vI r1, vI r2, vI r3, vI r4, vR b23, .unset, .unset, .unset] [(.int r1)] (fun t k => XS.iload X31.here hx rfl (hb hby at_103) rfl k) ?_
    refine own_vFW m T31 107 #[vI x1, vI x2, vI x3, vI x4, vI x5, vI x6, vI (1 : Int32), vI r1, vI r2, vI r3, vI r4, vR b23, .unset, .unset, .unset] [(.int 61), (.int r1)] (fun t k => XS.bipush X31.here hx rfl (hb hby at_105) k) ?_
    by_cases hc40 : r1 = (61 : Int32)
    case pos =>
      refine own_vFW m T31 110 #[vI x1, vI x2, vI x3, vI x4, vI x5, vI x6, vI (1 : Int32), vI r1, vI r2, vI r3, vI r4, vR b23, .unset, .unset, .unset] [] (fun t k => XS.icmpNo X31.here hx rfl (hb hby at_107) rfl (teq hc40).2 k) ?_
      refine own_vFW m T31 111 #[vI x1, vI x2, vI x3, vI x4, vI x5, vI x6, vI (1 : Int32), vI r1, vI r2, vI r3, vI r4, vR b23, .unset, .unset, .unset] [(.int 0)] (fun t k => XS.iconst X31.here hx rfl (hb hby at_110) k) ?_
      refine own_vFW m T31 113 #[vI x1, vI x2, vI x3, vI x4, vI x5, vI x6, vI (1 : Int32), vI r1, vI r2, vI r3, vI r4, vR b23, vI (0 : Int32), .unset, .unset] [] (fun t k => XS.istore X31.here hx rfl (hb hby at_111) rfl (l' := #[vI x1, vI x2, vI x3, vI x4, vI x5, vI x6, vI (1 : Int32), vI r1, vI r2, vI r3, vI r4, vR b23, vI (0 : Int32), .unset, .unset]) rfl k) ?_
      refine own_vFW m T31 176 #[vI x1, vI x2, vI x3, vI x4, vI x5, vI x6, vI (1 : Int32), vI r1, vI r2, vI r3, vI r4, vR b23, vI (0 : Int32), .unset, .unset] [] (fun t k => XS.goto X31.here hx rfl (pc0 := 113) (pc' := 176) rfl (hb hby at_113) (by decide) (by decide) k) ?_
      refine own_vFW m T31 178 #[vI x1, vI x2, vI x3, vI x4, vI x5, vI x6, vI (1 : Int32), vI r1, vI r2, vI r3, vI r4, vR b23, vI (0 : Int32), .unset, .unset] [(.ref b23)] (fun t k => XS.aload X31.here hx rfl (hb hby at_176) rfl rfl k) ?_
      obtain ⟨_, T41, L41, X41, hS, hZ, hown, hQ41, st41⟩ := own_callSW X31 hx hZ hEL hCH (y := (⟨"com/example/bdelloid/bdelloid/os/Environment", "name", "([B)Ljava/lang/String;"⟩ : MethodName)) (W := 0) hown (hw _ (own_mt 6 rfl)) (hw _ (own_mt 7 rfl)) (hw _ (own_mt 8 rfl)) (hw _ (own_mt 9 rfl)) (by decide) (rm_Qnm10 l Z a0 hw b23 k23 r1 cs sf iso u8 h31 n0 Z39 f37 SS f38 V31 (by (simp only [if_pos hc40]) <;> decide)) (by decide) (by decide) e31 (g := (mkF m 178 #[vI x1, vI x2, vI x3, vI x4, vI x5, vI x6, vI (1 : Int32), vI r1, vI r2, vI r3, vI r4, vR b23, vI (0 : Int32), .unset, .unset] [(.ref b23)])) rfl (by rw [hml]; rfl) (argsL := [(.ref b23)]) (rest := []) rfl (lenOf pd_AB__Ljava_lang_String_ rfl) rfl own_w0 (hb hby at_178) (by decide) (by decide)
      have hk41 : T41.heap.size ≤ T41.heap.size := Nat.le_refl _
      obtain ⟨b41r, rfl, N41q, K41q, Es41, Fc41, b41s, kb41, Fv41, Va41⟩ := hQ41
      have N41 := Fr.app N31 N41q
      have f47 := f37.keep K41q all0
      have Z50 : n0 ≤ T41.heap.size := Nat.le_trans Z39 K41q.1
      refine own_vFW m T41 181 #[vI x1, vI x2, vI x3, vI x4, vI x5, vI x6, vI (1 : Int32), vI r1, vI r2, vI r3, vI r4, vR b23, vI (0 : Int32), .unset, .unset] [(.ref b41r)] (fun t k => st41 t k) ?_
      exact own_tail0 l Z a0 hw x1 x2 x3 x4 x5 x6 (1 : Int32) r1 r2 r3 r4 b23 b41r b41s kb41 cs sf iso u8 h0 T41.heap n0 Z50 f47 SS (X41.more (by decide) (by decide)) hx hby hml hret hlk hZ hown hS hk41 rfl N41 Es41 Fc41 Fv41 Va41
    case neg =>
      refine own_vFW m T31 116 #[vI x1, vI x2, vI x3, vI x4, vI x5, vI x6, vI (1 : Int32), vI r1, vI r2, vI r3, vI r4, vR b23, .unset, .unset, .unset] [] (fun t k => XS.icmpYes X31.here hx rfl (pc0 := 107) (pc' := 116) rfl (hb hby at_107) rfl (feq hc40).2 (by decide) (by decide) k) ?_
      refine own_vFW m T31 118 #[vI x1, vI x2, vI x3, vI x4, vI x5, vI x6, vI (1 : Int32), vI r1, vI r2, vI r3, vI r4, vR b23, .unset, .unset, .unset] [(.int 1)] (fun t k => XS.iload X31.here hx rfl (hb hby at_116) rfl k) ?_
      refine own_vFW m T31 119 #[vI x1, vI x2, vI x3, vI x4, vI x5, vI x6, vI (1 : Int32), vI r1, vI r2, vI r3, vI r4, vR b23, .unset, .unset, .unset] [(.int 1), (.int 1)] (fun t k => XS.iconst X31.here hx rfl (hb hby at_118) k) ?_
      refine own_vFW m T31 135 #[vI x1, vI x2, vI x3, vI x4, vI x5, vI x6, vI (1 : Int32), vI r1, vI r2, vI r3, vI r4, vR b23, .unset, .unset, .unset] [] (fun t k => XS.icmpYes X31.here hx rfl (pc0 := 119) (pc' := 135) rfl (hb hby at_119) rfl (flt (by decide : ¬ ((1 : Int32) < (1 : Int32)))).2.2.2 (by decide) (by decide) k) ?_
      refine own_vFW m T31 137 #[vI x1, vI x2, vI x3, vI x4, vI x5, vI x6, vI (1 : Int32), vI r1, vI r2, vI r3, vI r4, vR b23, .unset, .unset, .unset] [(.int 1)] (fun t k => XS.iload X31.here hx rfl (hb hby at_135) rfl k) ?_
      refine own_vFW m T31 138 #[vI x1, vI x2, vI x3, vI x4, vI x5, vI x6, vI (1 : Int32), vI r1, vI r2, vI r3, vI r4, vR b23, .unset, .unset, .unset] [(.int 2), (.int 1)] (fun t k => XS.iconst X31.here hx rfl (hb hby at_137) k) ?_
      refine own_vFW m T31 154 #[vI x1, vI x2, vI x3, vI x4, vI x5, vI x6, vI (1 : Int32), vI r1, vI r2, vI r3, vI r4, vR b23, .unset, .unset, .unset] [] (fun t k => XS.icmpYes X31.here hx rfl (pc0 := 138) (pc' := 154) rfl (hb hby at_138) rfl (flt (by decide : ¬ ((2 : Int32) < (1 : Int32)))).2.2.2 (by decide) (by decide) k) ?_
      refine own_vFW m T31 156 #[vI x1, vI x2, vI x3, vI x4, vI x5, vI x6, vI (1 : Int32), vI r1, vI r2, vI r3, vI r4, vR b23, .unset, .unset, .unset] [(.int 1)] (fun t k => XS.iload X31.here hx rfl (hb hby at_154) rfl k) ?_
      refine own_vFW m T31 157 #[vI x1, vI x2, vI x3, vI x4, vI x5, vI x6, vI (1 : Int32), vI r1, vI r2, vI r3, vI r4, vR b23, .unset, .unset, .unset] [(.int 3), (.int 1)] (fun t k => XS.iconst X31.here hx rfl (hb hby at_156) k) ?_
      refine own_vFW m T31 173 #[vI x1, vI x2, vI x3, vI x4, vI x5, vI x6, vI (1 : Int32), vI r1, vI r2, vI r3, vI r4, vR b23, .unset, .unset, .unset] [] (fun t k => XS.icmpYes X31.here hx rfl (pc0 := 157) (pc' := 173) rfl (hb hby at_157) rfl (flt (by decide : ¬ ((3 : Int32) < (1 : Int32)))).2.2.2 (by decide) (by decide) k) ?_
      refine own_vFW m T31 174 #[vI x1, vI x2, vI x3, vI x4, vI x5, vI x6, vI (1 : Int32), vI r1, vI r2, vI r3, vI r4, vR b23, .unset, .unset, .unset] [(.int 0)] (fun t k => XS.iconst X31.here hx rfl (hb hby at_173) k) ?_
      refine own_vFW m T31 176 #[vI x1, vI x2, vI x3, vI x4, vI x5, vI x6, vI (1 : Int32), vI r1, vI r2, vI r3, vI r4, vR b23, vI (0 : Int32), .unset, .unset] [] (fun t k => XS.istore X31.here hx rfl (hb hby at_174) rfl (l' := #[vI x1, vI x2, vI x3, vI x4, vI x5, vI x6, vI (1 : Int32), vI r1, vI r2, vI r3, vI r4, vR b23, vI (0 : Int32), .unset, .unset]) rfl k) ?_
      refine own_vFW m T31 178 #[vI x1, vI x2, vI x3, vI x4, vI x5, vI x6, vI (1 : Int32), vI r1, vI r2, vI r3, vI r4, vR b23, vI (0 : Int32), .unset, .unset] [(.ref b23)] (fun t k => XS.aload X31.here hx rfl (hb hby at_176) rfl rfl k) ?_
      obtain ⟨_, T51, L51, X51, hS, hZ, hown, hQ51, st51⟩ := own_callSW X31 hx hZ hEL hCH (y := (⟨"com/example/bdelloid/bdelloid/os/Environment", "name", "([B)Ljava/lang/String;"⟩ : MethodName)) (W := 0) hown (hw _ (own_mt 6 rfl)) (hw _ (own_mt 7 rfl)) (hw _ (own_mt 8 rfl)) (hw _ (own_mt 9 rfl)) (by decide) (rm_Qnm10 l Z a0 hw b23 k23 r1 cs sf iso u8 h31 n0 Z39 f37 SS f38 V31 (by (simp only [if_neg hc40]) <;> decide)) (by decide) (by decide) e31 (g := (mkF m 178 #[vI x1, vI x2, vI x3, vI x4, vI x5, vI x6, vI (1 : Int32), vI r1, vI r2, vI r3, vI r4, vR b23, vI (0 : Int32), .unset, .unset] [(.ref b23)])) rfl (by rw [hml]; rfl) (argsL := [(.ref b23)]) (rest := []) rfl (lenOf pd_AB__Ljava_lang_String_ rfl) rfl own_w0 (hb hby at_178) (by decide) (by decide)
      have hk51 : T51.heap.size ≤ T51.heap.size := Nat.le_refl _
      obtain ⟨b51r, rfl, N51q, K51q, Es51, Fc51, b51s, kb51, Fv51, Va51⟩ := hQ51
      have N51 := Fr.app N31 N51q
      have f57 := f37.keep K51q all0
      have Z60 : n0 ≤ T51.heap.size := Nat.le_trans Z39 K51q.1
      refine own_vFW m T51 181 #[vI x1, vI x2, vI x3, vI x4, vI x5, vI x6, vI (1 : Int32), vI r1, vI r2, vI r3, vI r4, vR b23, vI (0 : Int32), .unset, .unset] [(.ref b51r)] (fun t k => st51 t k) ?_
      exact own_tail0 l Z a0 hw x1 x2 x3 x4 x5 x6 (1 : Int32) r1 r2 r3 r4 b23 b51r b51s kb51 cs sf iso u8 h0 T51.heap n0 Z60 f57 SS (X51.more (by decide) (by decide)) hx hby hml hret hlk hZ hown hS hk51 rfl N51 Es51 Fc51 Fv51 Va51
  case inr.inr.inl =>
    refine own_vFW m T4 47 #[vI x1, vI x2, vI x3, vI x4, vI x5, vI x6, vI (2 : Int32), vI r1, vI r2, vI r3, vI r4, .unset, .unset, .unset, .unset] [(.int 2)] (fun t k => XS.iload X4.here hx rfl (hb hby at_45) rfl k) ?_
    obtain ⟨T61, h61, k61, X61, e61, E61, A61, B61, st61⟩ := newPE X4 hx hZ (hw _ (own_mt 5 rfl)) e4 (g := (mkF m 47 #[vI x1, vI x2, vI x3, vI x4, vI x5, vI x6, vI (2 : Int32), vI r1, vI r2, vI r3, vI r4, .unset, .unset, .unset, .unset] [(.int 2)])) rfl (hb hby at_47) rfl (by decide) (cap := 2) (by decide) (by decide) (by decide) (by decide) (ad := "[B") (by decide)
    obtain ⟨b61, g61⟩ : ∃ z, z = h0.size := ⟨_, rfl⟩
    rw [← g61] at A61 st61 B61
    have gn_b61 : n0 ≤ b61 := Nat.le_trans Z0 (Nat.le_of_eq g61.symm)
    have f67 := Od.ext E61
    have V61 : Arv Z h61 b61 k61 .byte (2 : Int32) [(.int 0), (.int 0)] (.int 0) := (Arv.new A61 (by decide)).pad (pad_rep [] (.int 0) 2)
    have Z68 : n0 ≤ h61.size := Nat.le_trans Z0 E61.1
    refine own_vFW m T61 49 #[vI x1, vI x2, vI x3, vI x4, vI x5, vI x6, vI (2 : Int32), vI r1, vI r2, vI r3, vI r4, .unset, .unset, .unset, .unset] [(.ref b61)] (fun t k => st61 t k) ?_
    refine own_vFW m T61 51 #[vI x1, vI x2, vI x3, vI x4, vI x5, vI x6, vI (2 : Int32), vI r1, vI r2, vI r3, vI r4, vR b61, .unset, .unset, .unset] [] (fun t k => XS.astore X61.here hx rfl (hb hby at_49) rfl rfl (l' := #[vI x1, vI x2, vI x3, vI x4, vI x5, vI x6, vI (2 : Int32), vI r1, vI r2, vI r3, vI r4, vR b61, .unset, .unset, .unset]) rfl k) ?_
    refine own_vFW m T61 53 #[vI x1, vI x2, vI x3, vI x4, vI x5, vI x6, vI (2 : Int32), vI r1, vI r2, vI r3, vI r4, vR b61, .unset, .unset, .unset] [(.int 2)] (fun t k => XS.iload X61.here hx rfl (hb hby at_51) rfl k) ?_
    refine own_vFW m T61 56 #[vI x1, vI x2, vI x3, vI x4, vI x5, vI x6, vI (2 : Int32), vI r1, vI r2, vI r3, vI r4, vR b61, .unset, .unset, .unset] [] (fun t k => XS.ifNo X61.here hx rfl (hb hby at_53) rfl ((if0 _ _).trans (tlt (by decide : ((0 : Int32) < (2 : Int32)))).2.2.2) k) ?_
    refine own_vFW m T61 58 #[vI x1, vI x2, vI x3, vI x4, vI x5, vI x6, vI (2 : Int32), vI r1, vI r2, vI r3, vI r4, vR b61, .unset, .unset, .unset] [(.ref b61)] (fun t k => XS.aload X61.here hx rfl (hb hby at_56) rfl rfl k) ?_
    refine own_vFW m T61 59 #[vI x1, vI x2, vI x3, vI x4, vI x5, vI x6, vI (2 : Int32), vI r1, vI r2, vI r3, vI r4, vR b61, .unset, .unset, .unset] [(.int 0), (.ref b61)] (fun t k => XS.iconst X61.here hx rfl (hb hby at_58) k) ?_
    refine own_vFW m T61 61 #[vI x1, vI x2, vI x3, vI x4, vI x5, vI x6, vI (2 : Int32), vI r1, vI r2, vI r3, vI r4, vR b61, .unset, .unset, .unset] [(.int r1), (.int 0), (.ref b61)] (fun t k => XS.iload X61.here hx rfl (hb hby at_59) rfl k) ?_
    obtain ⟨c69, Ar69, q69a, q69b, q69c, q69d, q69e⟩ := id V61
    obtain ⟨T69, h69, X69, e69, W69, st69⟩ := stB X61 hx hZ e61 Ar69 (inb_of q69b (by decide)) (g := (mkF m 61 #[vI x1, vI x2, vI x3, vI x4, vI x5, vI x6, vI (2 : Int32), vI r1, vI r2, vI r3, vI r4, vR b61, .unset, .unset, .unset] [(.int r1), (.int 0), (.ref b61)])) rfl rfl (hb hby at_61)
    have V69 : Arv Z h69 b61 k61 .byte (2 : Int32) [(.int (r1.toInt8.toInt32)), (.int 0)] (.int 0) := Arv.set Ar69 q69a q69b q69c q69d q69e (fits_nar_byte _) W69 0 rfl (Nat.le_of_ble_eq_true rfl)
    rw [h8r1] at V69
    have f75 := f67.wr W69 gn_b61
    have f76 := B61.wr W69
    have Z77 : n0 ≤ h69.size := Nat.le_trans Z68 (Keep.of_wr W69).1
    have N69 := Fr.snoc X69 N4 gn_b61
    refine own_vFW m T69 62 #[vI x1, vI x2, vI x3, vI x4, vI x5, vI x6, vI (2 : Int32), vI r1, vI r2, vI r3, vI r4, vR b61, .unset, .unset, .unset] [] (fun t k => st69 t k) ?_
    refine own_vFW m T69 64 #[vI x1, vI x2, vI x3, vI x4, vI x5, vI x6, vI (2 : Int32), vI r1, vI r2, vI r3, vI r4, vR b61, .unset, .unset, .unset] [(.int 2)] (fun t k => XS.iload X69.here hx rfl (hb hby at_62) rfl k) ?_
    refine own_vFW m T69 65 #[vI x1, vI x2, vI x3, vI x4, vI x5, vI x6, vI (2 : Int32), vI r1, vI r2, vI r3, vI r4, vR b61, .unset, .unset, .unset] [(.int 1), (.int 2)] (fun t k => XS.iconst X69.here hx rfl (hb hby at_64) k) ?_
    refine own_vFW m T69 68 #[vI x1, vI x2, vI x3, vI x4, vI x5, vI x6, vI (2 : Int32), vI r1, vI r2, vI r3, vI r4, vR b61, .unset, .unset, .unset] [] (fun t k => XS.icmpNo X69.here hx rfl (hb hby at_65) rfl (tlt (by decide : ((1 : Int32) < (2 : Int32)))).2.2.2 k) ?_
    refine own_vFW m T69 70 #[vI x1, vI x2, vI x3, vI x4, vI x5, vI x6, vI (2 : Int32), vI r1, vI r2, vI r3, vI r4, vR b61, .unset, .unset, .unset] [(.ref b61)] (fun t k => XS.aload X69.here hx rfl (hb hby at_68) rfl rfl k) ?_
    refine own_vFW m T69 71 #[vI x1, vI x2, vI x3, vI x4, vI x5, vI x6, vI (2 : Int32), vI r1, vI r2, vI r3, vI r4, vR b61, .unset, .unset, .unset] [(.int 1), (.ref b61)] (fun t k => XS.iconst X69.here hx rfl (hb hby at_70) k) ?_
    refine own_vFW m T69 73 #[vI x1, vI x2, vI x3, vI x4, vI x5, vI x6, vI (2 : Int32), vI r1, vI r2, vI r3, vI r4, vR b61, .unset, .unset, .unset] [(.int r2), (.int 1), (.ref b61)] (fun t k => XS.iload X69.here hx rfl (hb hby at_71) rfl k) ?_
    obtain ⟨c78, Ar78, q78a, q78b, q78c, q78d, q78e⟩ := id V69
    obtain ⟨T78, h78, X78, e78, W78, st78⟩ := stB X69 hx hZ e69 Ar78 (inb_of q78b (by decide)) (g := (mkF m 73 #[vI x1, vI x2, vI x3, vI x4, vI x5, vI x6, vI (2 : Int32), vI r1, vI r2, vI r3, vI r4, vR b61, .unset, .unset, .unset] [(.int r2), (.int 1), (.ref b61)])) rfl rfl (hb hby at_73)
    have V78 : Arv Z h78 b61 k61 .byte (2 : Int32) [(.int r1), (.int (r2.toInt8.toInt32))] (.int 0) := Arv.set Ar78 q78a q78b q78c q78d q78e (fits_nar_byte _) W78 1 rfl (Nat.le_of_ble_eq_true rfl)
    rw [h8r2] at V78
    have f84 := f75.wr W78 gn_b61
    have f85 := f76.wr W78
    have Z86 : n0 ≤ h78.size := Nat.le_trans Z77 (Keep.of_wr W78).1
    have N78 := Fr.snoc X78 N69 gn_b61
    refine own_vFW m T78 74 #[vI x1, vI x2, vI x3, vI x4, vI x5, vI x6, vI (2 : Int32), vI r1, vI r2, vI r3, vI r4, vR b61, .unset, .unset, .unset] [] (fun t k => st78 t k) ?_
    refine own_vFW m T78 76 #[vI x1, vI x2, vI x3, vI x4, vI x5, vI x6, vI (2 : Int32), vI r1, vI r2, vI r3, vI r4, vR b61, .unset, .unset, .unset] [(.int 2)] (fun t k => XS.iload X78.here hx rfl (hb hby at_74) rfl k) ?_
    refine own_vFW m T78 77 #[vI x1, vI x2, vI x3, vI x4, vI x5, vI x6, vI (2 : Int32), vI r1, vI r2, vI r3, vI r4, vR b61, .unset, .unset, .unset] [(.int 2), (.int 2)] (fun t k => XS.iconst X78.here hx rfl (hb hby at_76) k) ?_
    refine own_vFW m T78 86 #[vI x1, vI x2, vI x3, vI x4, vI x5, vI x6, vI (2 : Int32), vI r1, vI r2, vI r3, vI r4, vR b61, .unset, .unset, .unset] [] (fun t k => XS.icmpYes X78.here hx rfl (pc0 := 77) (pc' := 86) rfl (hb hby at_77) rfl (flt (by decide : ¬ ((2 : Int32) < (2 : Int32)))).2.2.2 (by decide) (by decide) k) ?_
    refine own_vFW m T78 88 #[vI x1, vI x2, vI x3, vI x4, vI x5, vI x6, vI (2 : Int32), vI r1, vI r2, vI r3, vI r4, vR b61, .unset, .unset, .unset] [(.int 2)] (fun t k => XS.iload X78.here hx rfl (hb hby at_86) rfl k) ?_
    refine own_vFW m T78 89 #[vI x1, vI x2, vI x3, vI x4, vI x5, vI x6, vI (2 : Int32), vI r1, vI r2, vI r3, vI r4, vR b61, .unset, .unset, .unset] [(.int 3), (.int 2)] (fun t k => XS.iconst X78.here hx rfl (hb hby at_88) k) ?_
    refine own_vFW m T78 98 #[vI x1, vI x2, vI x3, vI x4, vI x5, vI x6, vI (2 : Int32), vI r1, vI r2, vI r3, vI r4, vR b61, .unset, .unset, .unset] [] (fun t k => XS.icmpYes X78.here hx rfl (pc0 := 89) (pc' := 98) rfl (hb hby at_89) rfl (flt (by decide : ¬ ((3 : Int32) < (2 : Int32)))).2.2.2 (by decide) (by decide) k) ?_
    refine own_vFW m T78 100 #[vI x1, vI x2, vI x3, vI x4, vI x5, vI x6, vI (2 : Int32), vI r1, vI r2, vI r3, vI r4, vR b61, .unset, .unset, .unset] [(.int 2)] (fun t k => XS.iload X78.here hx rfl (hb hby at_98) rfl k) ?_
    refine own_vFW m T78 103 #[vI x1, vI x2, vI x3, vI x4, vI x5, vI x6, vI (2 : Int32), vI r1, vI r2, vI r3, vI r4, vR b61, .unset, .unset, .unset] [] (fun t k => XS.ifNo X78.here hx rfl (hb hby at_100) rfl ((if0 _ _).trans (tlt (by decide : ((0 : Int32) < (2 : Int32)))).2.2.2) k) ?_
    refine own_vFW m T78 105 #[vI x1, vI x2, vI x3, vI x4, vI x5, vI x6, vI (2 : Int32), vI r1, vI r2, vI r3, vI r4, vR b61, .unset, .unset, .unset] [(.int r1)] (fun t k => XS.iload X78.here hx rfl (hb hby at_103) rfl k) ?_
    refine own_vFW m T78 107 #[vI x1, vI x2, vI x3, vI x4, vI x5, vI x6, vI (2 : Int32), vI r1, vI r2, vI r3, vI r4, vR b61, .unset, .unset, .unset] [(.int 61), (.int r1)] (fun t k => XS.bipush X78.here hx rfl (hb hby at_105) k) ?_
    by_cases hc87 : r1 = (61 : Int32)
    case pos =>
      refine own_vFW m T78 110 #[vI x1, vI x2, vI x3, vI x4, vI x5, vI x6, vI (2 : Int32), vI r1, vI r2, vI r3, vI r4, vR b61, .unset, .unset, .unset] [] (fun t k => XS.icmpNo X78.here hx rfl (hb hby at_107) rfl (teq hc87).2 k) ?_
      refine own_vFW m T78 111 #[vI x1, vI x2, vI x3, vI x4, vI x5, vI x6, vI (2 : Int32), vI r1, vI r2, vI r3, vI r4, vR b61, .unset, .unset, .unset] [(.int 0)] (fun t k => XS.iconst X78.here hx rfl (hb hby at_110) k) ?_
      refine own_vFW m T78 113 #[vI x1, vI x2, vI x3, vI x4, vI x5, vI x6, vI (2 : Int32), vI r1, vI r2, vI r3, vI r4, vR b61, vI (0 : Int32), .unset, .unset] [] (fun t k => XS.istore X78.here hx rfl (hb hby at_111) rfl (l' := #[vI x1, vI x2, vI x3, vI x4, vI x5, vI x6, vI (2 : Int32), vI r1, vI r2, vI r3, vI r4, vR b61, vI (0 : Int32), .unset, .unset]) rfl k) ?_
      refine own_vFW m T78 176 #[vI x1, vI x2, vI x3, vI x4, vI x5, vI x6, vI (2 : Int32), vI r1, vI r2, vI r3, vI r4, vR b61, vI (0 : Int32), .unset, .unset] [] (fun t k => XS.goto X78.here hx rfl (pc0 := 113) (pc' := 176) rfl (hb hby at_113) (by decide) (by decide) k) ?_
      refine own_vFW m T78 178 #[vI x1, vI x2, vI x3, vI x4, vI x5, vI x6, vI (2 : Int32), vI r1, vI r2, vI r3, vI r4, vR b61, vI (0 : Int32), .unset, .unset] [(.ref b61)] (fun t k => XS.aload X78.here hx rfl (hb hby at_176) rfl rfl k) ?_
      obtain ⟨_, T88, L88, X88, hS, hZ, hown, hQ88, st88⟩ := own_callSW X78 hx hZ hEL hCH (y := (⟨"com/example/bdelloid/bdelloid/os/Environment", "name", "([B)Ljava/lang/String;"⟩ : MethodName)) (W := 0) hown (hw _ (own_mt 6 rfl)) (hw _ (own_mt 7 rfl)) (hw _ (own_mt 8 rfl)) (hw _ (own_mt 9 rfl)) (by decide) (rm_Qnm20 l Z a0 hw b61 k61 r1 r2 cs sf iso u8 h78 n0 Z86 f84 SS f85 V78 (by (simp only [if_pos hc87]) <;> decide)) (by decide) (by decide) e78 (g := (mkF m 178 #[vI x1, vI x2, vI x3, vI x4, vI x5, vI x6, vI (2 : Int32), vI r1, vI r2, vI r3, vI r4, vR b61, vI (0 : Int32), .unset, .unset] [(.ref b61)])) rfl (by rw [hml]; rfl) (argsL := [(.ref b61)]) (rest := []) rfl (lenOf pd_AB__Ljava_lang_String_ rfl) rfl own_w0 (hb hby at_178) (by decide) (by decide)
      have hk88 : T88.heap.size ≤ T88.heap.size := Nat.le_refl _
      obtain ⟨b88r, rfl, N88q, K88q, Es88, Fc88, b88s, kb88, Fv88, Va88⟩ := hQ88
      have N88 := Fr.app N78 N88q
      have f94 := f84.keep K88q all0
      have Z97 : n0 ≤ T88.heap.size := Nat.le_trans Z86 K88q.1
      refine own_vFW m T88 181 #[vI x1, vI x2, vI x3, vI x4, vI x5, vI x6, vI (2 : Int32), vI r1, vI r2, vI r3, vI r4, vR b61, vI (0 : Int32), .unset, .unset] [(.ref b88r)] (fun t k => st88 t k) ?_
      exact own_tail0 l Z a0 hw x1 x2 x3 x4 x5 x6 (2 : Int32) r1 r2 r3 r4 b61 b88r b88s kb88 cs sf iso u8 h0 T88.heap n0 Z97 f94 SS (X88.more (by decide) (by decide)) hx hby hml hret hlk hZ hown hS hk88 rfl N88 Es88 Fc88 Fv88 Va88
    case neg =>
      refine own_vFW m T78 116 #[vI x1, vI x2, vI x3, vI x4, vI x5, vI x6, vI (2 : Int32), vI r1, vI r2, vI r3, vI r4, vR b61, .unset, .unset, .unset] [] (fun t k => XS.icmpYes X78.here hx rfl (pc0 := 107) (pc' := 116) rfl (hb hby at_107) rfl (feq hc87).2 (by decide) (by decide) k) ?_
      refine own_vFW m T78 118 #[vI x1, vI x2, vI x3, vI x4, vI x5, vI x6, vI (2 : Int32), vI r1, vI r2, vI r3, vI r4, vR b61, .unset, .unset, .unset] [(.int 2)] (fun t k => XS.iload X78.here hx rfl (hb hby at_116) rfl k) ?_
      refine own_vFW m T78 119 #[vI x1, vI x2, vI x3, vI x4, vI x5, vI x6, vI (2 : Int32), vI r1, vI r2, vI r3, vI r4, vR b61, .unset, .unset, .unset] [(.int 1), (.int 2)] (fun t k => XS.iconst X78.here hx rfl (hb hby at_118) k) ?_
      refine own_vFW m T78 122 #[vI x1, vI x2, vI x3, vI x4, vI x5, vI x6, vI (2 : Int32), vI r1, vI r2, vI r3, vI r4, vR b61, .unset, .unset, .unset] [] (fun t k => XS.icmpNo X78.here hx rfl (hb hby at_119) rfl (tlt (by decide : ((1 : Int32) < (2 : Int32)))).2.2.2 k) ?_
      refine own_vFW m T78 124 #[vI x1, vI x2, vI x3, vI x4, vI x5, vI x6, vI (2 : Int32), vI r1, vI r2, vI r3, vI r4, vR b61, .unset, .unset, .unset] [(.int r2)] (fun t k => XS.iload X78.here hx rfl (hb hby at_122) rfl k) ?_
      refine own_vFW m T78 126 #[vI x1, vI x2, vI x3, vI x4, vI x5, vI x6, vI (2 : Int32), vI r1, vI r2, vI r3, vI r4, vR b61, .unset, .unset, .unset] [(.int 61), (.int r2)] (fun t k => XS.bipush X78.here hx rfl (hb hby at_124) k) ?_
      by_cases hc98 : r2 = (61 : Int32)
      case pos =>
        refine own_vFW m T78 129 #[vI x1, vI x2, vI x3, vI x4, vI x5, vI x6, vI (2 : Int32), vI r1, vI r2, vI r3, vI r4, vR b61, .unset, .unset, .unset] [] (fun t k => XS.icmpNo X78.here hx rfl (hb hby at_126) rfl (teq hc98).2 k) ?_
        refine own_vFW m T78 130 #[vI x1, vI x2, vI x3, vI x4, vI x5, vI x6, vI (2 : Int32), vI r1, vI r2, vI r3, vI r4, vR b61, .unset, .unset, .unset] [(.int 1)] (fun t k => XS.iconst X78.here hx rfl (hb hby at_129) k) ?_
        refine own_vFW m T78 132 #[vI x1, vI x2, vI x3, vI x4, vI x5, vI x6, vI (2 : Int32), vI r1, vI r2, vI r3, vI r4, vR b61, vI (1 : Int32), .unset, .unset] [] (fun t k => XS.istore X78.here hx rfl (hb hby at_130) rfl (l' := #[vI x1, vI x2, vI x3, vI x4, vI x5, vI x6, vI (2 : Int32), vI r1, vI r2, vI r3, vI r4, vR b61, vI (1 : Int32), .unset, .unset]) rfl k) ?_
        refine own_vFW m T78 176 #[vI x1, vI x2, vI x3, vI x4, vI x5, vI x6, vI (2 : Int32), vI r1, vI r2, vI r3, vI r4, vR b61, vI (1 : Int32), .unset, .unset] [] (fun t k => XS.goto X78.here hx rfl (pc0 := 132) (pc' := 176) rfl (hb hby at_132) (by decide) (by decide) k) ?_
        refine own_vFW m T78 178 #[vI x1, vI x2, vI x3, vI x4, vI x5, vI x6, vI (2 : Int32), vI r1, vI r2, vI r3, vI r4, vR b61, vI (1 : Int32), .unset, .unset] [(.ref b61)] (fun t k => XS.aload X78.here hx rfl (hb hby at_176) rfl rfl k) ?_
        obtain ⟨_, T99, L99, X99, hQ99, st99⟩ := own_callS X78 hx hZ (y := (⟨"com/example/bdelloid/bdelloid/os/Environment", "name", "([B)Ljava/lang/String;"⟩ : MethodName)) (W := 0) hown (hw _ (own_mt 6 rfl)) (hw _ (own_mt 7 rfl)) (hw _ (own_mt 8 rfl)) (hw _ (own_mt 9 rfl)) (by decide) (rm_Qnm21 l Z a0 hw b61 k61 r1 r2 cs sf iso u8 h78 n0 Z86 f84 SS f85 V78 (by (simp only [if_neg hc87, if_pos hc98]) <;> decide)) (by decide) (by decide) e78 (g := (mkF m 178 #[vI x1, vI x2, vI x3, vI x4, vI x5, vI x6, vI (2 : Int32), vI r1, vI r2, vI r3, vI r4, vR b61, vI (1 : Int32), .unset, .unset] [(.ref b61)])) rfl (by rw [hml]; rfl) (argsL := [(.ref b61)]) (rest := []) rfl (lenOf pd_AB__Ljava_lang_String_ rfl) rfl own_w0 (hb hby at_178) (by decide) (by decide)
        obtain ⟨b99r, rfl, N99q, K99q, Es99, Fc99, b99s, kb99, Fv99, Eb99, Va99⟩ := hQ99
        have N99 := Fr.app N78 N99q
        have f105 := f84.keep K99q all0
        have Z108 : n0 ≤ T99.heap.size := Nat.le_trans Z86 K99q.1
        refine own_vFW m T99 181 #[vI x1, vI x2, vI x3, vI x4, vI x5, vI x6, vI (2 : Int32), vI r1, vI r2, vI r3, vI r4, vR b61, vI (1 : Int32), .unset, .unset] [(.ref b99r)] (fun t k => st99 t k) ?_
        exact own_tail1 l Z a0 hw x1 x2 x3 x4 x5 x6 (2 : Int32) r1 r2 r3 r4 b61 b99r b99s kb99 cs sf iso u8 h0 T99.heap n0 Z108 f105 SS (X99.more (by decide) (by decide)) hx hby hml hret hlk hZ hown rfl N99 Es99 Fc99 Fv99 Va99
      case neg =>
        refine own_vFW m T78 135 #[vI x1, vI x2, vI x3, vI x4, vI x5, vI x6, vI (2 : Int32), vI r1, vI r2, vI r3, vI r4, vR b61, .unset, .unset, .unset] [] (fun t k => XS.icmpYes X78.here hx rfl (pc0 := 126) (pc' := 135) rfl (hb hby at_126) rfl (feq hc98).2 (by decide) (by decide) k) ?_
        refine own_vFW m T78 137 #[vI x1, vI x2, vI x3, vI x4, vI x5, vI x6, vI (2 : Int32), vI r1, vI r2, vI r3, vI r4, vR b61, .unset, .unset, .unset] [(.int 2)] (fun t k => XS.iload X78.here hx rfl (hb hby at_135) rfl k) ?_
        refine own_vFW m T78 138 #[vI x1, vI x2, vI x3, vI x4, vI x5, vI x6, vI (2 : Int32), vI r1, vI r2, vI r3, vI r4, vR b61, .unset, .unset, .unset] [(.int 2), (.int 2)] (fun t k => XS.iconst X78.here hx rfl (hb hby at_137) k) ?_
        refine own_vFW m T78 154 #[vI x1, vI x2, vI x3, vI x4, vI x5, vI x6, vI (2 : Int32), vI r1, vI r2, vI r3, vI r4, vR b61, .unset, .unset, .unset] [] (fun t k => XS.icmpYes X78.here hx rfl (pc0 := 138) (pc' := 154) rfl (hb hby at_138) rfl (flt (by decide : ¬ ((2 : Int32) < (2 : Int32)))).2.2.2 (by decide) (by decide) k) ?_
        refine own_vFW m T78 156 #[vI x1, vI x2, vI x3, vI x4, vI x5, vI x6, vI (2 : Int32), vI r1, vI r2, vI r3, vI r4, vR b61, .unset, .unset, .unset] [(.int 2)] (fun t k => XS.iload X78.here hx rfl (hb hby at_154) rfl k) ?_
        refine own_vFW m T78 157 #[vI x1, vI x2, vI x3, vI x4, vI x5, vI x6, vI (2 : Int32), vI r1, vI r2, vI r3, vI r4, vR b61, .unset, .unset, .unset] [(.int 3), (.int 2)] (fun t k => XS.iconst X78.here hx rfl (hb hby at_156) k) ?_
        refine own_vFW m T78 173 #[vI x1, vI x2, vI x3, vI x4, vI x5, vI x6, vI (2 : Int32), vI r1, vI r2, vI r3, vI r4, vR b61, .unset, .unset, .unset] [] (fun t k => XS.icmpYes X78.here hx rfl (pc0 := 157) (pc' := 173) rfl (hb hby at_157) rfl (flt (by decide : ¬ ((3 : Int32) < (2 : Int32)))).2.2.2 (by decide) (by decide) k) ?_
        refine own_vFW m T78 174 #[vI x1, vI x2, vI x3, vI x4, vI x5, vI x6, vI (2 : Int32), vI r1, vI r2, vI r3, vI r4, vR b61, .unset, .unset, .unset] [(.int 0)] (fun t k => XS.iconst X78.here hx rfl (hb hby at_173) k) ?_
        refine own_vFW m T78 176 #[vI x1, vI x2, vI x3, vI x4, vI x5, vI x6, vI (2 : Int32), vI r1, vI r2, vI r3, vI r4, vR b61, vI (0 : Int32), .unset, .unset] [] (fun t k => XS.istore X78.here hx rfl (hb hby at_174) rfl (l' := #[vI x1, vI x2, vI x3, vI x4, vI x5, vI x6, vI (2 : Int32), vI r1, vI r2, vI r3, vI r4, vR b61, vI (0 : Int32), .unset, .unset]) rfl k) ?_
        refine own_vFW m T78 178 #[vI x1, vI x2, vI x3, vI x4, vI x5, vI x6, vI (2 : Int32), vI r1, vI r2, vI r3, vI r4, vR b61, vI (0 : Int32), .unset, .unset] [(.ref b61)] (fun t k => XS.aload X78.here hx rfl (hb hby at_176) rfl rfl k) ?_
        obtain ⟨_, T109, L109, X109, hS, hZ, hown, hQ109, st109⟩ := own_callSW X78 hx hZ hEL hCH (y := (⟨"com/example/bdelloid/bdelloid/os/Environment", "name", "([B)Ljava/lang/String;"⟩ : MethodName)) (W := 0) hown (hw _ (own_mt 6 rfl)) (hw _ (own_mt 7 rfl)) (hw _ (own_mt 8 rfl)) (hw _ (own_mt 9 rfl)) (by decide) (rm_Qnm20 l Z a0 hw b61 k61 r1 r2 cs sf iso u8 h78 n0 Z86 f84 SS f85 V78 (by (simp only [if_neg hc87, if_neg hc98]) <;> decide)) (by decide) (by decide) e78 (g := (mkF m 178 #[vI x1, vI x2, vI x3, vI x4, vI x5, vI x6, vI (2 : Int32), vI r1, vI r2, vI r3, vI r4, vR b61, vI (0 : Int32), .unset, .unset] [(.ref b61)])) rfl (by rw [hml]; rfl) (argsL := [(.ref b61)]) (rest := []) rfl (lenOf pd_AB__Ljava_lang_String_ rfl) rfl own_w0 (hb hby at_178) (by decide) (by decide)
        have hk109 : T109.heap.size ≤ T109.heap.size := Nat.le_refl _
        obtain ⟨b109r, rfl, N109q, K109q, Es109, Fc109, b109s, kb109, Fv109, Va109⟩ := hQ109
        have N109 := Fr.app N78 N109q
        have f115 := f84.keep K109q all0
        have Z118 : n0 ≤ T109.heap.size := Nat.le_trans Z86 K109q.1
        refine own_vFW m T109 181 #[vI x1, vI x2, vI x3, vI x4, vI x5, vI x6, vI (2 : Int32), vI r1, vI r2, vI r3, vI r4, vR b61, vI (0 : Int32), .unset, .unset] [(.ref b109r)] (fun t k => st109 t k) ?_
        exact own_tail0 l Z a0 hw x1 x2 x3 x4 x5 x6 (2 : Int32) r1 r2 r3 r4 b61 b109r b109s kb109 cs sf iso u8 h0 T109.heap n0 Z118 f115 SS (X109.more (by decide) (by decide)) hx hby hml hret hlk hZ hown hS hk109 rfl N109 Es109 Fc109 Fv109 Va109
  case inr.inr.inr.inl =>
    refine own_vFW m T4 47 #[vI x1, vI x2, vI x3, vI x4, vI x5, vI x6, vI (3 : Int32), vI r1, vI r2, vI r3, vI r4, .unset, .unset, .unset, .unset] [(.int 3)] (fun t k => XS.iload X4.here hx rfl (hb hby at_45) rfl k) ?_
    obtain ⟨T119, h119, k119, X119, e119, E119, A119, B119, st119⟩ := newPE X4 hx hZ (hw _ (own_mt 5 rfl)) e4 (g := (mkF m 47 #[vI x1, vI x2, vI x3, vI x4, vI x5, vI x6, vI (3 : Int32), vI r1, vI r2, vI r3, vI r4, .unset, .unset, .unset, .unset] [(.int 3)])) rfl (hb hby at_47) rfl (by decide) (cap := 3) (by decide) (by decide) (by decide) (by decide) (ad := "[B") (by decide)
    obtain ⟨b119, g119⟩ : ∃ z, z = h0.size := ⟨_, rfl⟩
    rw [← g119] at A119 st119 B119
    have gn_b119 : n0 ≤ b119 := Nat.le_trans Z0 (Nat.le_of_eq g119.symm)
    have f125 := Od.ext E119
    have V119 : Arv Z h119 b119 k119 .byte (3 : Int32) [(.int 0), (.int 0), (.int 0)] (.int 0) := (Arv.new A119 (by decide)).pad (pad_rep [] (.int 0) 3)
    have Z126 : n0 ≤ h119.size := Nat.le_trans Z0 E119.1
    refine own_vFW m T119 49 #[vI x1, vI x2, vI x3, vI x4, vI x5, vI x6, vI (3 : Int32), vI r1, vI r2, vI r3, vI r4, .unset, .unset, .unset, .unset] [(.ref b119)] (fun t k => st119 t k) ?_
    refine own_vFW m T119 51 #[vI x1, vI x2, vI x3, vI x4, vI x5, vI x6, vI (3 : Int32), vI r1, vI r2, vI r3, vI r4, vR b119, .unset, .unset, .unset] [] (fun t k => XS.astore X119.here hx rfl (hb hby at_49) rfl rfl (l' := #[vI x1, vI x2, vI x3, vI x4, vI x5, vI x6, vI (3 : Int32), vI r1, vI r2, vI r3, vI r4, vR b119, .unset, .unset, .unset]) rfl k) ?_
    refine own_vFW m T119 53 #[vI x1, vI x2, vI x3, vI x4, vI x5, vI x6, vI (3 : Int32), vI r1, vI r2, vI r3, vI r4, vR b119, .unset, .unset, .unset] [(.int 3)] (fun t k => XS.iload X119.here hx rfl (hb hby at_51) rfl k) ?_
    refine own_vFW m T119 56 #[vI x1, vI x2, vI x3, vI x4, vI x5, vI x6, vI (3 : Int32), vI r1, vI r2, vI r3, vI r4, vR b119, .unset, .unset, .unset] [] (fun t k => XS.ifNo X119.here hx rfl (hb hby at_53) rfl ((if0 _ _).trans (tlt (by decide : ((0 : Int32) < (3 : Int32)))).2.2.2) k) ?_
    refine own_vFW m T119 58 #[vI x1, vI x2, vI x3, vI x4, vI x5, vI x6, vI (3 : Int32), vI r1, vI r2, vI r3, vI r4, vR b119, .unset, .unset, .unset] [(.ref b119)] (fun t k => XS.aload X119.here hx rfl (hb hby at_56) rfl rfl k) ?_
    refine own_vFW m T119 59 #[vI x1, vI x2, vI x3, vI x4, vI x5, vI x6, vI (3 : Int32), vI r1, vI r2, vI r3, vI r4, vR b119, .unset, .unset, .unset] [(.int 0), (.ref b119)] (fun t k => XS.iconst X119.here hx rfl (hb hby at_58) k) ?_
    refine own_vFW m T119 61 #[vI x1, vI x2, vI x3, vI x4, vI x5, vI x6, vI (3 : Int32), vI r1, vI r2, vI r3, vI r4, vR b119, .unset, .unset, .unset] [(.int r1), (.int 0), (.ref b119)] (fun t k => XS.iload X119.here hx rfl (hb hby at_59) rfl k) ?_
    obtain ⟨c127, Ar127, q127a, q127b, q127c, q127d, q127e⟩ := id V119
    obtain ⟨T127, h127, X127, e127, W127, st127⟩ := stB X119 hx hZ e119 Ar127 (inb_of q127b (by decide)) (g := (mkF m 61 #[vI x1, vI x2, vI x3, vI x4, vI x5, vI x6, vI (3 : Int32), vI r1, vI r2, vI r3, vI r4, vR b119, .unset, .unset, .unset] [(.int r1), (.int 0), (.ref b119)])) rfl rfl (hb hby at_61)
    have V127 : Arv Z h127 b119 k119 .byte (3 : Int32) [(.int (r1.toInt8.toInt32)), (.int 0), (.int 0)] (.int 0) := Arv.set Ar127 q127a q127b q127c q127d q127e (fits_nar_byte _) W127 0 rfl (Nat.le_of_ble_eq_true rfl)
    rw [h8r1] at V127
    have f133 := f125.wr W127 gn_b119
    have f134 := B119.wr W127
    have Z135 : n0 ≤ h127.size := Nat.le_trans Z126 (Keep.of_wr W127).1
    have N127 := Fr.snoc X127 N4 gn_b119
    refine own_vFW m T127 62 #[vI x1, vI x2, vI x3, vI x4, vI x5, vI x6, vI (3 : Int32), vI r1, vI r2, vI r3, vI r4, vR b119, .unset, .unset, .unset] [] (fun t k => st127 t k) ?_
    refine own_vFW m T127 64 #[vI x1, vI x2, vI x3, vI x4, vI x5, vI x6, vI (3 : Int32), vI r1, vI r2, vI r3, vI r4, vR b119, .unset, .unset, .unset] [(.int 3)] (fun t k => XS.iload X127.here hx rfl (hb hby at_62) rfl k) ?_
    refine own_vFW m T127 65 #[vI x1, vI x2, vI x3, vI x4, vI x5, vI x6, vI (3 : Int32), vI r1, vI r2, vI r3, vI r4, vR b119, .unset, .unset, .unset] [(.int 1), (.int 3)] (fun t k => XS.iconst X127.here hx rfl (hb hby at_64) k) ?_
    refine own_vFW m T127 68 #[vI x1, vI x2, vI x3, vI x4, vI x5, vI x6, vI (3 : Int32), vI r1, vI r2, vI r3, vI r4, vR b119, .unset, .unset, .unset] [] (fun t k => XS.icmpNo X127.here hx rfl (hb hby at_65) rfl (tlt (by decide : ((1 : Int32) < (3 : Int32)))).2.2.2 k) ?_
    refine own_vFW m T127 70 #[vI x1, vI x2, vI x3, vI x4, vI x5, vI x6, vI (3 : Int32), vI r1, vI r2, vI r3, vI r4, vR b119, .unset, .unset, .unset] [(.ref b119)] (fun t k => XS.aload X127.here hx rfl (hb hby at_68) rfl rfl k) ?_
    refine own_vFW m T127 71 #[vI x1, vI x2, vI x3, vI x4, vI x5, vI x6, vI (3 : Int32), vI r1, vI r2, vI r3, vI r4, vR b119, .unset, .unset, .unset] [(.int 1), (.ref b119)] (fun t k => XS.iconst X127.here hx rfl (hb hby at_70) k) ?_
    refine own_vFW m T127 73 #[vI x1, vI x2, vI x3, vI x4, vI x5, vI x6, vI (3 : Int32), vI r1, vI r2, vI r3, vI r4, vR b119, .unset, .unset, .unset] [(.int r2), (.int 1), (.ref b119)] (fun t k => XS.iload X127.here hx rfl (hb hby at_71) rfl k) ?_
    obtain ⟨c136, Ar136, q136a, q136b, q136c, q136d, q136e⟩ := id V127
    obtain ⟨T136, h136, X136, e136, W136, st136⟩ := stB X127 hx hZ e127 Ar136 (inb_of q136b (by decide)) (g := (mkF m 73 #[vI x1, vI x2, vI x3, vI x4, vI x5, vI x6, vI (3 : Int32), vI r1, vI r2, vI r3, vI r4, vR b119, .unset, .unset, .unset] [(.int r2), (.int 1), (.ref b119)])) rfl rfl (hb hby at_73)
    have V136 : Arv Z h136 b119 k119 .byte (3 : Int32) [(.int r1), (.int (r2.toInt8.toInt32)), (.int 0)] (.int 0) := Arv.set Ar136 q136a q136b q136c q136d q136e (fits_nar_byte _) W136 1 rfl (Nat.le_of_ble_eq_true rfl)
    rw [h8r2] at V136
    have f142 := f133.wr W136 gn_b119
    have f143 := f134.wr W136
    have Z144 : n0 ≤ h136.size := Nat.le_trans Z135 (Keep.of_wr W136).1
    have N136 := Fr.snoc X136 N127 gn_b119
    refine own_vFW m T136 74 #[vI x1, vI x2, vI x3, vI x4, vI x5, vI x6, vI (3 : Int32), vI r1, vI r2, vI r3, vI r4, vR b119, .unset, .unset, .unset] [] (fun t k => st136 t k) ?_
    refine own_vFW m T136 76 #[vI x1, vI x2, vI x3, vI x4, vI x5, vI x6, vI (3 : Int32), vI r1, vI r2, vI r3, vI r4, vR b119, .unset, .unset, .unset] [(.int 3)] (fun t k => XS.iload X136.here hx rfl (hb hby at_74) rfl k) ?_
    refine own_vFW m T136 77 #[vI x1, vI x2, vI x3, vI x4, vI x5, vI x6, vI (3 : Int32), vI r1, vI r2, vI r3, vI r4, vR b119, .unset, .unset, .unset] [(.int 2), (.int 3)] (fun t k => XS.iconst X136.here hx rfl (hb hby at_76) k) ?_
    refine own_vFW m T136 80 #[vI x1, vI x2, vI x3, vI x4, vI x5, vI x6, vI (3 : Int32), vI r1, vI r2, vI r3, vI r4, vR b119, .unset, .unset, .unset] [] (fun t k => XS.icmpNo X136.here hx rfl (hb hby at_77) rfl (tlt (by decide : ((2 : Int32) < (3 : Int32)))).2.2.2 k) ?_
    refine own_vFW m T136 82 #[vI x1, vI x2, vI x3, vI x4, vI x5, vI x6, vI (3 : Int32), vI r1, vI r2, vI r3, vI r4, vR b119, .unset, .unset, .unset] [(.ref b119)] (fun t k => XS.aload X136.here hx rfl (hb hby at_80) rfl rfl k) ?_
    refine own_vFW m T136 83 #[vI x1, vI x2, vI x3, vI x4, vI x5, vI x6, vI (3 : Int32), vI r1, vI r2, vI r3, vI r4, vR b119, .unset, .unset, .unset] [(.int 2), (.ref b119)] (fun t k => XS.iconst X136.here hx rfl (hb hby at_82) k) ?_
    refine own_vFW m T136 85 #[vI x1, vI x2, vI x3, vI x4, vI x5, vI x6, vI (3 : Int32), vI r1, vI r2, vI r3, vI r4, vR b119, .unset, .unset, .unset] [(.int r3), (.int 2), (.ref b119)] (fun t k => XS.iload X136.here hx rfl (hb hby at_83) rfl k) ?_
    obtain ⟨c145, Ar145, q145a, q145b, q145c, q145d, q145e⟩ := id V136
    obtain ⟨T145, h145, X145, e145, W145, st145⟩ := stB X136 hx hZ e136 Ar145 (inb_of q145b (by decide)) (g := (mkF m 85 #[vI x1, vI x2, vI x3, vI x4, vI x5, vI x6, vI (3 : Int32), vI r1, vI r2, vI r3, vI r4, vR b119, .unset, .unset, .unset] [(.int r3), (.int 2), (.ref b119)])) rfl rfl (hb hby at_85)
    have V145 : Arv Z h145 b119 k119 .byte (3 : Int32) [(.int r1), (.int r2), (.int (r3.toInt8.toInt32))] (.int 0) := Arv.set Ar145 q145a q145b q145c q145d q145e (fits_nar_byte _) W145 2 rfl (Nat.le_of_ble_eq_true rfl)
    rw [h8r3] at V145
    have f151 := f142.wr W145 gn_b119
    have f152 := f143.wr W145
    have Z153 : n0 ≤ h145.size := Nat.le_trans Z144 (Keep.of_wr W145).1
    have N145 := Fr.snoc X145 N136 gn_b119
    refine own_vFW m T145 86 #[vI x1, vI x2, vI x3, vI x4, vI x5, vI x6, vI (3 : Int32), vI r1, vI r2, vI r3, vI r4, vR b119, .unset, .unset, .unset] [] (fun t k => st145 t k) ?_
    refine own_vFW m T145 88 #[vI x1, vI x2, vI x3, vI x4, vI x5, vI x6, vI (3 : Int32), vI r1, vI r2, vI r3, vI r4, vR b119, .unset, .unset, .unset] [(.int 3)] (fun t k => XS.iload X145.here hx rfl (hb hby at_86) rfl k) ?_
    refine own_vFW m T145 89 #[vI x1, vI x2, vI x3, vI x4, vI x5, vI x6, vI (3 : Int32), vI r1, vI r2, vI r3, vI r4, vR b119, .unset, .unset, .unset] [(.int 3), (.int 3)] (fun t k => XS.iconst X145.here hx rfl (hb hby at_88) k) ?_
    refine own_vFW m T145 98 #[vI x1, vI x2, vI x3, vI x4, vI x5, vI x6, vI (3 : Int32), vI r1, vI r2, vI r3, vI r4, vR b119, .unset, .unset, .unset] [] (fun t k => XS.icmpYes X145.here hx rfl (pc0 := 89) (pc' := 98) rfl (hb hby at_89) rfl (flt (by decide : ¬ ((3 : Int32) < (3 : Int32)))).2.2.2 (by decide) (by decide) k) ?_
    refine own_vFW m T145 100 #[vI x1, vI x2, vI x3, vI x4, vI x5, vI x6, vI (3 : Int32), vI r1, vI r2, vI r3, vI r4, vR b119, .unset, .unset, .unset] [(.int 3)] (fun t k => XS.iload X145.here hx rfl (hb hby at_98) rfl k) ?_
    refine own_vFW m T145 103 #[vI x1, vI x2, vI x3, vI x4, vI x5, vI x6, vI (3 : Int32), vI r1, vI r2, vI r3, vI r4, vR b119, .unset, .unset, .unset] [] (fun t k => XS.ifNo X145.here hx rfl (hb hby at_100) rfl ((if0 _ _).trans (tlt (by decide : ((0 : Int32) < (3 : Int32)))).2.2.2) k) ?_
    refine own_vFW m T145 105 #[vI x1, vI x2, vI x3, vI x4, vI x5, vI x6, vI (3 : Int32), vI r1, vI r2, vI r3, vI r4, vR b119, .unset, .unset, .unset] [(.int r1)] (fun t k => XS.iload X145.here hx rfl (hb hby at_103) rfl k) ?_
    refine own_vFW m T145 107 #[vI x1, vI x2, vI x3, vI x4, vI x5, vI x6, vI (3 : Int32), vI r1, vI r2, vI r3, vI r4, vR b119, .unset, .unset, .unset] [(.int 61), (.int r1)] (fun t k => XS.bipush X145.here hx rfl (hb hby at_105) k) ?_
    by_cases hc154 : r1 = (61 : Int32)
    case pos =>
      refine own_vFW m T145 110 #[vI x1, vI x2, vI x3, vI x4, vI x5, vI x6, vI (3 : Int32), vI r1, vI r2, vI r3, vI r4, vR b119, .unset, .unset, .unset] [] (fun t k => XS.icmpNo X145.here hx rfl (hb hby at_107) rfl (teq hc154).2 k) ?_
      refine own_vFW m T145 111 #[vI x1, vI x2, vI x3, vI x4, vI x5, vI x6, vI (3 : Int32), vI r1, vI r2, vI r3, vI r4, vR b119, .unset, .unset, .unset] [(.int 0)] (fun t k => XS.iconst X145.here hx rfl (hb hby at_110) k) ?_
      refine own_vFW m T145 113 #[vI x1, vI x2, vI x3, vI x4, vI x5, vI x6, vI (3 : Int32), vI r1, vI r2, vI r3, vI r4, vR b119, vI (0 : Int32), .unset, .unset] [] (fun t k => XS.istore X145.here hx rfl (hb hby at_111) rfl (l' := #[vI x1, vI x2, vI x3, vI x4, vI x5, vI x6, vI (3 : Int32), vI r1, vI r2, vI r3, vI r4, vR b119, vI (0 : Int32), .unset, .unset]) rfl k) ?_
      refine own_vFW m T145 176 #[vI x1, vI x2, vI x3, vI x4, vI x5, vI x6, vI (3 : Int32), vI r1, vI r2, vI r3, vI r4, vR b119, vI (0 : Int32), .unset, .unset] [] (fun t k => XS.goto X145.here hx rfl (pc0 := 113) (pc' := 176) rfl (hb hby at_113) (by decide) (by decide) k) ?_
      refine own_vFW m T145 178 #[vI x1, vI x2, vI x3, vI x4, vI x5, vI x6, vI (3 : Int32), vI r1, vI r2, vI r3, vI r4, vR b119, vI (0 : Int32), .unset, .unset] [(.ref b119)] (fun t k => XS.aload X145.here hx rfl (hb hby at_176) rfl rfl k) ?_
      obtain ⟨_, T155, L155, X155, hS, hZ, hown, hQ155, st155⟩ := own_callSW X145 hx hZ hEL hCH (y := (⟨"com/example/bdelloid/bdelloid/os/Environment", "name", "([B)Ljava/lang/String;"⟩ : MethodName)) (W := 0) hown (hw _ (own_mt 6 rfl)) (hw _ (own_mt 7 rfl)) (hw _ (own_mt 8 rfl)) (hw _ (own_mt 9 rfl)) (by decide) (rm_Qnm30 l Z a0 hw b119 k119 r1 r2 r3 cs sf iso u8 h145 n0 Z153 f151 SS f152 V145 (by (simp only [if_pos hc154]) <;> decide)) (by decide) (by decide) e145 (g := (mkF m 178 #[vI x1, vI x2, vI x3, vI x4, vI x5, vI x6, vI (3 : Int32), vI r1, vI r2, vI r3, vI r4, vR b119, vI (0 : Int32), .unset, .unset] [(.ref b119)])) rfl (by rw [hml]; rfl) (argsL := [(.ref b119)]) (rest := []) rfl (lenOf pd_AB__Ljava_lang_String_ rfl) rfl own_w0 (hb hby at_178) (by decide) (by decide)
      have hk155 : T155.heap.size ≤ T155.heap.size := Nat.le_refl _
      obtain ⟨b155r, rfl, N155q, K155q, Es155, Fc155, b155s, kb155, Fv155, Va155⟩ := hQ155
      have N155 := Fr.app N145 N155q
      have f161 := f151.keep K155q all0
      have Z164 : n0 ≤ T155.heap.size := Nat.le_trans Z153 K155q.1
      refine own_vFW m T155 181 #[vI x1, vI x2, vI x3, vI x4, vI x5, vI x6, vI (3 : Int32), vI r1, vI r2, vI r3, vI r4, vR b119, vI (0 : Int32), .unset, .unset] [(.ref b155r)] (fun t k => st155 t k) ?_
      exact own_tail0 l Z a0 hw x1 x2 x3 x4 x5 x6 (3 : Int32) r1 r2 r3 r4 b119 b155r b155s kb155 cs sf iso u8 h0 T155.heap n0 Z164 f161 SS (X155.more (by decide) (by decide)) hx hby hml hret hlk hZ hown hS hk155 rfl N155 Es155 Fc155 Fv155 Va155
    case neg =>
      refine own_vFW m T145 116 #[vI x1, vI x2, vI x3, vI x4, vI x5, vI x6, vI (3 : Int32), vI r1, vI r2, vI r3, vI r4, vR b119, .unset, .unset, .unset] [] (fun t k => XS.icmpYes X145.here hx rfl (pc0 := 107) (pc' := 116) rfl (hb hby at_107) rfl (feq hc154).2 (by decide) (by decide) k) ?_
      refine own_vFW m T145 118 #[vI x1, vI x2, vI x3, vI x4, vI x5, vI x6, vI (3 : Int32), vI r1, vI r2, vI r3, vI r4, vR b119, .unset, .unset, .unset] [(.int 3)] (fun t k => XS.iload X145.here hx rfl (hb hby at_116) rfl k) ?_
      refine own_vFW m T145 119 #[vI x1, vI x2, vI x3, vI x4, vI x5, vI x6, vI (3 : Int32), vI r1, vI r2, vI r3, vI r4, vR b119, .unset, .unset, .unset] [(.int 1), (.int 3)] (fun t k => XS.iconst X145.here hx rfl (hb hby at_118) k) ?_
      refine own_vFW m T145 122 #[vI x1, vI x2, vI x3, vI x4, vI x5, vI x6, vI (3 : Int32), vI r1, vI r2, vI r3, vI r4, vR b119, .unset, .unset, .unset] [] (fun t k => XS.icmpNo X145.here hx rfl (hb hby at_119) rfl (tlt (by decide : ((1 : Int32) < (3 : Int32)))).2.2.2 k) ?_
      refine own_vFW m T145 124 #[vI x1, vI x2, vI x3, vI x4, vI x5, vI x6, vI (3 : Int32), vI r1, vI r2, vI r3, vI r4, vR b119, .unset, .unset, .unset] [(.int r2)] (fun t k => XS.iload X145.here hx rfl (hb hby at_122) rfl k) ?_
      refine own_vFW m T145 126 #[vI x1, vI x2, vI x3, vI x4, vI x5, vI x6, vI (3 : Int32), vI r1, vI r2, vI r3, vI r4, vR b119, .unset, .unset, .unset] [(.int 61), (.int r2)] (fun t k => XS.bipush X145.here hx rfl (hb hby at_124) k) ?_
      by_cases hc165 : r2 = (61 : Int32)
      case pos =>
        refine own_vFW m T145 129 #[vI x1, vI x2, vI x3, vI x4, vI x5, vI x6, vI (3 : Int32), vI r1, vI r2, vI r3, vI r4, vR b119, .unset, .unset, .unset] [] (fun t k => XS.icmpNo X145.here hx rfl (hb hby at_126) rfl (teq hc165).2 k) ?_
        refine own_vFW m T145 130 #[vI x1, vI x2, vI x3, vI x4, vI x5, vI x6, vI (3 : Int32), vI r1, vI r2, vI r3, vI r4, vR b119, .unset, .unset, .unset] [(.int 1)] (fun t k => XS.iconst X145.here hx rfl (hb hby at_129) k) ?_
        refine own_vFW m T145 132 #[vI x1, vI x2, vI x3, vI x4, vI x5, vI x6, vI (3 : Int32), vI r1, vI r2, vI r3, vI r4, vR b119, vI (1 : Int32), .unset, .unset] [] (fun t k => XS.istore X145.here hx rfl (hb hby at_130) rfl (l' := #[vI x1, vI x2, vI x3, vI x4, vI x5, vI x6, vI (3 : Int32), vI r1, vI r2, vI r3, vI r4, vR b119, vI (1 : Int32), .unset, .unset]) rfl k) ?_
        refine own_vFW m T145 176 #[vI x1, vI x2, vI x3, vI x4, vI x5, vI x6, vI (3 : Int32), vI r1, vI r2, vI r3, vI r4, vR b119, vI (1 : Int32), .unset, .unset] [] (fun t k => XS.goto X145.here hx rfl (pc0 := 132) (pc' := 176) rfl (hb hby at_132) (by decide) (by decide) k) ?_
        refine own_vFW m T145 178 #[vI x1, vI x2, vI x3, vI x4, vI x5, vI x6, vI (3 : Int32), vI r1, vI r2, vI r3, vI r4, vR b119, vI (1 : Int32), .unset, .unset] [(.ref b119)] (fun t k => XS.aload X145.here hx rfl (hb hby at_176) rfl rfl k) ?_
        obtain ⟨_, T166, L166, X166, hQ166, st166⟩ := own_callS X145 hx hZ (y := (⟨"com/example/bdelloid/bdelloid/os/Environment", "name", "([B)Ljava/lang/String;"⟩ : MethodName)) (W := 0) hown (hw _ (own_mt 6 rfl)) (hw _ (own_mt 7 rfl)) (hw _ (own_mt 8 rfl)) (hw _ (own_mt 9 rfl)) (by decide) (rm_Qnm31 l Z a0 hw b119 k119 r1 r2 r3 cs sf iso u8 h145 n0 Z153 f151 SS f152 V145 (by (simp only [if_neg hc154, if_pos hc165]) <;> decide)) (by decide) (by decide) e145 (g := (mkF m 178 #[vI x1, vI x2, vI x3, vI x4, vI x5, vI x6, vI (3 : Int32), vI r1, vI r2, vI r3, vI r4, vR b119, vI (1 : Int32), .unset, .unset] [(.ref b119)])) rfl (by rw [hml]; rfl) (argsL := [(.ref b119)]) (rest := []) rfl (lenOf pd_AB__Ljava_lang_String_ rfl) rfl own_w0 (hb hby at_178) (by decide) (by decide)
        obtain ⟨b166r, rfl, N166q, K166q, Es166, Fc166, b166s, kb166, Fv166, Eb166, Va166⟩ := hQ166
        have N166 := Fr.app N145 N166q
        have f172 := f151.keep K166q all0
        have Z175 : n0 ≤ T166.heap.size := Nat.le_trans Z153 K166q.1
        refine own_vFW m T166 181 #[vI x1, vI x2, vI x3, vI x4, vI x5, vI x6, vI (3 : Int32), vI r1, vI r2, vI r3, vI r4, vR b119, vI (1 : Int32), .unset, .unset] [(.ref b166r)] (fun t k => st166 t k) ?_
        exact own_tail1 l Z a0 hw x1 x2 x3 x4 x5 x6 (3 : Int32) r1 r2 r3 r4 b119 b166r b166s kb166 cs sf iso u8 h0 T166.heap n0 Z175 f172 SS (X166.more (by decide) (by decide)) hx hby hml hret hlk hZ hown rfl N166 Es166 Fc166 Fv166 Va166
      case neg =>
        refine own_vFW m T145 135 #[vI x1, vI x2, vI x3, vI x4, vI x5, vI x6, vI (3 : Int32), vI r1, vI r2, vI r3, vI r4, vR b119, .unset, .unset, .unset] [] (fun t k => XS.icmpYes X145.here hx rfl (pc0 := 126) (pc' := 135) rfl (hb hby at_126) rfl (feq hc165).2 (by decide) (by decide) k) ?_
        refine own_vFW m T145 137 #[vI x1, vI x2, vI x3, vI x4, vI x5, vI x6, vI (3 : Int32), vI r1, vI r2, vI r3, vI r4, vR b119, .unset, .unset, .unset] [(.int 3)] (fun t k => XS.iload X145.here hx rfl (hb hby at_135) rfl k) ?_
        refine own_vFW m T145 138 #[vI x1, vI x2, vI x3, vI x4, vI x5, vI x6, vI (3 : Int32), vI r1, vI r2, vI r3, vI r4, vR b119, .unset, .unset, .unset] [(.int 2), (.int 3)] (fun t k => XS.iconst X145.here hx rfl (hb hby at_137) k) ?_
        refine own_vFW m T145 141 #[vI x1, vI x2, vI x3, vI x4, vI x5, vI x6, vI (3 : Int32), vI r1, vI r2, vI r3, vI r4, vR b119, .unset, .unset, .unset] [] (fun t k => XS.icmpNo X145.here hx rfl (hb hby at_138) rfl (tlt (by decide : ((2 : Int32) < (3 : Int32)))).2.2.2 k) ?_
        refine own_vFW m T145 143 #[vI x1, vI x2, vI x3, vI x4, vI x5, vI x6, vI (3 : Int32), vI r1, vI r2, vI r3, vI r4, vR b119, .unset, .unset, .unset] [(.int r3)] (fun t k => XS.iload X145.here hx rfl (hb hby at_141) rfl k) ?_
        refine own_vFW m T145 145 #[vI x1, vI x2, vI x3, vI x4, vI x5, vI x6, vI (3 : Int32), vI r1, vI r2, vI r3, vI r4, vR b119, .unset, .unset, .unset] [(.int 61), (.int r3)] (fun t k => XS.bipush X145.here hx rfl (hb hby at_143) k) ?_
        by_cases hc176 : r3 = (61 : Int32)
        case pos =>
          refine own_vFW m T145 148 #[vI x1, vI x2, vI x3, vI x4, vI x5, vI x6, vI (3 : Int32), vI r1, vI r2, vI r3, vI r4, vR b119, .unset, .unset, .unset] [] (fun t k => XS.icmpNo X145.here hx rfl (hb hby at_145) rfl (teq hc176).2 k) ?_
          refine own_vFW m T145 149 #[vI x1, vI x2, vI x3, vI x4, vI x5, vI x6, vI (3 : Int32), vI r1, vI r2, vI r3, vI r4, vR b119, .unset, .unset, .unset] [(.int 2)] (fun t k => XS.iconst X145.here hx rfl (hb hby at_148) k) ?_
          refine own_vFW m T145 151 #[vI x1, vI x2, vI x3, vI x4, vI x5, vI x6, vI (3 : Int32), vI r1, vI r2, vI r3, vI r4, vR b119, vI (2 : Int32), .unset, .unset] [] (fun t k => XS.istore X145.here hx rfl (hb hby at_149) rfl (l' := #[vI x1, vI x2, vI x3, vI x4, vI x5, vI x6, vI (3 : Int32), vI r1, vI r2, vI r3, vI r4, vR b119, vI (2 : Int32), .unset, .unset]) rfl k) ?_
          refine own_vFW m T145 176 #[vI x1, vI x2, vI x3, vI x4, vI x5, vI x6, vI (3 : Int32), vI r1, vI r2, vI r3, vI r4, vR b119, vI (2 : Int32), .unset, .unset] [] (fun t k => XS.goto X145.here hx rfl (pc0 := 151) (pc' := 176) rfl (hb hby at_151) (by decide) (by decide) k) ?_
          refine own_vFW m T145 178 #[vI x1, vI x2, vI x3, vI x4, vI x5, vI x6, vI (3 : Int32), vI r1, vI r2, vI r3, vI r4, vR b119, vI (2 : Int32), .unset, .unset] [(.ref b119)] (fun t k => XS.aload X145.here hx rfl (hb hby at_176) rfl rfl k) ?_
          obtain ⟨_, T177, L177, X177, hQ177, st177⟩ := own_callS X145 hx hZ (y := (⟨"com/example/bdelloid/bdelloid/os/Environment", "name", "([B)Ljava/lang/String;"⟩ : MethodName)) (W := 0) hown (hw _ (own_mt 6 rfl)) (hw _ (own_mt 7 rfl)) (hw _ (own_mt 8 rfl)) (hw _ (own_mt 9 rfl)) (by decide) (rm_Qnm32 l Z a0 hw b119 k119 r1 r2 r3 cs sf iso u8 h145 n0 Z153 f151 SS f152 V145 (by (simp only [if_neg hc154, if_neg hc165, if_pos hc176]) <;> decide)) (by decide) (by decide) e145 (g := (mkF m 178 #[vI x1, vI x2, vI x3, vI x4, vI x5, vI x6, vI (3 : Int32), vI r1, vI r2, vI r3, vI r4, vR b119, vI (2 : Int32), .unset, .unset] [(.ref b119)])) rfl (by rw [hml]; rfl) (argsL := [(.ref b119)]) (rest := []) rfl (lenOf pd_AB__Ljava_lang_String_ rfl) rfl own_w0 (hb hby at_178) (by decide) (by decide)
          obtain ⟨b177r, rfl, N177q, K177q, Es177, Fc177, b177s, kb177, Fv177, Eb177, Va177⟩ := hQ177
          have N177 := Fr.app N145 N177q
          have f183 := f151.keep K177q all0
          have Z186 : n0 ≤ T177.heap.size := Nat.le_trans Z153 K177q.1
          refine own_vFW m T177 181 #[vI x1, vI x2, vI x3, vI x4, vI x5, vI x6, vI (3 : Int32), vI r1, vI r2, vI r3, vI r4, vR b119, vI (2 : Int32), .unset, .unset] [(.ref b177r)] (fun t k => st177 t k) ?_
          exact own_tail2 l Z a0 hw x1 x2 x3 x4 x5 x6 (3 : Int32) r1 r2 r3 r4 b119 b177r b177s kb177 cs sf iso u8 h0 T177.heap n0 Z186 f183 SS (X177.more (by decide) (by decide)) hx hby hml hret hlk hZ hown rfl N177 Es177 Fc177 Fv177 Va177
        case neg =>
          refine own_vFW m T145 154 #[vI x1, vI x2, vI x3, vI x4, vI x5, vI x6, vI (3 : Int32), vI r1, vI r2, vI r3, vI r4, vR b119, .unset, .unset, .unset] [] (fun t k => XS.icmpYes X145.here hx rfl (pc0 := 145) (pc' := 154) rfl (hb hby at_145) rfl (feq hc176).2 (by decide) (by decide) k) ?_
          refine own_vFW m T145 156 #[vI x1, vI x2, vI x3, vI x4, vI x5, vI x6, vI (3 : Int32), vI r1, vI r2, vI r3, vI r4, vR b119, .unset, .unset, .unset] [(.int 3)] (fun t k => XS.iload X145.here hx rfl (hb hby at_154) rfl k) ?_
          refine own_vFW m T145 157 #[vI x1, vI x2, vI x3, vI x4, vI x5, vI x6, vI (3 : Int32), vI r1, vI r2, vI r3, vI r4, vR b119, .unset, .unset, .unset] [(.int 3), (.int 3)] (fun t k => XS.iconst X145.here hx rfl (hb hby at_156) k) ?_
          refine own_vFW m T145 173 #[vI x1, vI x2, vI x3, vI x4, vI x5, vI x6, vI (3 : Int32), vI r1, vI r2, vI r3, vI r4, vR b119, .unset, .unset, .unset] [] (fun t k => XS.icmpYes X145.here hx rfl (pc0 := 157) (pc' := 173) rfl (hb hby at_157) rfl (flt (by decide : ¬ ((3 : Int32) < (3 : Int32)))).2.2.2 (by decide) (by decide) k) ?_
          refine own_vFW m T145 174 #[vI x1, vI x2, vI x3, vI x4, vI x5, vI x6, vI (3 : Int32), vI r1, vI r2, vI r3, vI r4, vR b119, .unset, .unset, .unset] [(.int 0)] (fun t k => XS.iconst X145.here hx rfl (hb hby at_173) k) ?_
          refine own_vFW m T145 176 #[vI x1, vI x2, vI x3, vI x4, vI x5, vI x6, vI (3 : Int32), vI r1, vI r2, vI r3, vI r4, vR b119, vI (0 : Int32), .unset, .unset] [] (fun t k => XS.istore X145.here hx rfl (hb hby at_174) rfl (l' := #[vI x1, vI x2, vI x3, vI x4, vI x5, vI x6, vI (3 : Int32), vI r1, vI r2, vI r3, vI r4, vR b119, vI (0 : Int32), .unset, .unset]) rfl k) ?_
          refine own_vFW m T145 178 #[vI x1, vI x2, vI x3, vI x4, vI x5, vI x6, vI (3 : Int32), vI r1, vI r2, vI r3, vI r4, vR b119, vI (0 : Int32), .unset, .unset] [(.ref b119)] (fun t k => XS.aload X145.here hx rfl (hb hby at_176) rfl rfl k) ?_
          obtain ⟨_, T187, L187, X187, hS, hZ, hown, hQ187, st187⟩ := own_callSW X145 hx hZ hEL hCH (y := (⟨"com/example/bdelloid/bdelloid/os/Environment", "name", "([B)Ljava/lang/String;"⟩ : MethodName)) (W := 0) hown (hw _ (own_mt 6 rfl)) (hw _ (own_mt 7 rfl)) (hw _ (own_mt 8 rfl)) (hw _ (own_mt 9 rfl)) (by decide) (rm_Qnm30 l Z a0 hw b119 k119 r1 r2 r3 cs sf iso u8 h145 n0 Z153 f151 SS f152 V145 (by (simp only [if_neg hc154, if_neg hc165, if_neg hc176]) <;> decide)) (by decide) (by decide) e145 (g := (mkF m 178 #[vI x1, vI x2, vI x3, vI x4, vI x5, vI x6, vI (3 : Int32), vI r1, vI r2, vI r3, vI r4, vR b119, vI (0 : Int32), .unset, .unset] [(.ref b119)])) rfl (by rw [hml]; rfl) (argsL := [(.ref b119)]) (rest := []) rfl (lenOf pd_AB__Ljava_lang_String_ rfl) rfl own_w0 (hb hby at_178) (by decide) (by decide)
          have hk187 : T187.heap.size ≤ T187.heap.size := Nat.le_refl _
          obtain ⟨b187r, rfl, N187q, K187q, Es187, Fc187, b187s, kb187, Fv187, Va187⟩ := hQ187
          have N187 := Fr.app N145 N187q
          have f193 := f151.keep K187q all0
          have Z196 : n0 ≤ T187.heap.size := Nat.le_trans Z153 K187q.1
          refine own_vFW m T187 181 #[vI x1, vI x2, vI x3, vI x4, vI x5, vI x6, vI (3 : Int32), vI r1, vI r2, vI r3, vI r4, vR b119, vI (0 : Int32), .unset, .unset] [(.ref b187r)] (fun t k => st187 t k) ?_
          exact own_tail0 l Z a0 hw x1 x2 x3 x4 x5 x6 (3 : Int32) r1 r2 r3 r4 b119 b187r b187s kb187 cs sf iso u8 h0 T187.heap n0 Z196 f193 SS (X187.more (by decide) (by decide)) hx hby hml hret hlk hZ hown hS hk187 rfl N187 Es187 Fc187 Fv187 Va187
  case inr.inr.inr.inr =>
    refine own_vFW m T4 47 #[vI x1, vI x2, vI x3, vI x4, vI x5, vI x6, vI (4 : Int32), vI r1, vI r2, vI r3, vI r4, .unset, .unset, .unset, .unset] [(.int 4)] (fun t k => XS.iload X4.here hx rfl (hb hby at_45) rfl k) ?_
    obtain ⟨T197, h197, k197, X197, e197, E197, A197, B197, st197⟩ := newPE X4 hx hZ (hw _ (own_mt 5 rfl)) e4 (g := (mkF m 47 #[vI x1, vI x2, vI x3, vI x4, vI x5, vI x6, vI (4 : Int32), vI r1, vI r2, vI r3, vI r4, .unset, .unset, .unset, .unset] [(.int 4)])) rfl (hb hby at_47) rfl (by decide) (cap := 4) (by decide) (by decide) (by decide) (by decide) (ad := "[B") (by decide)
    obtain ⟨b197, g197⟩ : ∃ z, z = h0.size := ⟨_, rfl⟩
    rw [← g197] at A197 st197 B197
    have gn_b197 : n0 ≤ b197 := Nat.le_trans Z0 (Nat.le_of_eq g197.symm)
    have f203 := Od.ext E197
    have V197 : Arv Z h197 b197 k197 .byte (4 : Int32) [(.int 0), (.int 0), (.int 0), (.int 0)] (.int 0) := (Arv.new A197 (by decide)).pad (pad_rep [] (.int 0) 4)
    have Z204 : n0 ≤ h197.size := Nat.le_trans Z0 E197.1
    refine own_vFW m T197 49 #[vI x1, vI x2, vI x3, vI x4, vI x5, vI x6, vI (4 : Int32), vI r1, vI r2, vI r3, vI r4, .unset, .unset, .unset, .unset] [(.ref b197)] (fun t k => st197 t k) ?_
    refine own_vFW m T197 51 #[vI x1, vI x2, vI x3, vI x4, vI x5, vI x6, vI (4 : Int32), vI r1, vI r2, vI r3, vI r4, vR b197, .unset, .unset, .unset] [] (fun t k => XS.astore X197.here hx rfl (hb hby at_49) rfl rfl (l' := #[vI x1, vI x2, vI x3, vI x4, vI x5, vI x6, vI (4 : Int32), vI r1, vI r2, vI r3, vI r4, vR b197, .unset, .unset, .unset]) rfl k) ?_
    refine own_vFW m T197 53 #[vI x1, vI x2, vI x3, vI x4, vI x5, vI x6, vI (4 : Int32), vI r1, vI r2, vI r3, vI r4, vR b197, .unset, .unset, .unset] [(.int 4)] (fun t k => XS.iload X197.here hx rfl (hb hby at_51) rfl k) ?_
    refine own_vFW m T197 56 #[vI x1, vI x2, vI x3, vI x4, vI x5, vI x6, vI (4 : Int32), vI r1, vI r2, vI r3, vI r4, vR b197, .unset, .unset, .unset] [] (fun t k => XS.ifNo X197.here hx rfl (hb hby at_53) rfl ((if0 _ _).trans (tlt (by decide : ((0 : Int32) < (4 : Int32)))).2.2.2) k) ?_
    refine own_vFW m T197 58 #[vI x1, vI x2, vI x3, vI x4, vI x5, vI x6, vI (4 : Int32), vI r1, vI r2, vI r3, vI r4, vR b197, .unset, .unset, .unset] [(.ref b197)] (fun t k => XS.aload X197.here hx rfl (hb hby at_56) rfl rfl k) ?_
    refine own_vFW m T197 59 #[vI x1, vI x2, vI x3, vI x4, vI x5, vI x6, vI (4 : Int32), vI r1, vI r2, vI r3, vI r4, vR b197, .unset, .unset, .unset] [(.int 0), (.ref b197)] (fun t k => XS.iconst X197.here hx rfl (hb hby at_58) k) ?_
    refine own_vFW m T197 61 #[vI x1, vI x2, vI x3, vI x4, vI x5, vI x6, vI (4 : Int32), vI r1, vI r2, vI r3, vI r4, vR b197, .unset, .unset, .unset] [(.int r1), (.int 0), (.ref b197)] (fun t k => XS.iload X197.here hx rfl (hb hby at_59) rfl k) ?_
    obtain ⟨c205, Ar205, q205a, q205b, q205c, q205d, q205e⟩ := id V197
    obtain ⟨T205, h205, X205, e205, W205, st205⟩ := stB X197 hx hZ e197 Ar205 (inb_of q205b (by decide)) (g := (mkF m 61 #[vI x1, vI x2, vI x3, vI x4, vI x5, vI x6, vI (4 : Int32), vI r1, vI r2, vI r3, vI r4, vR b197, .unset, .unset, .unset] [(.int r1), (.int 0), (.ref b197)])) rfl rfl (hb hby at_61)
    have V205 : Arv Z h205 b197 k197 .byte (4 : Int32) [(.int (r1.toInt8.toInt32)), (.int 0), (.int 0), (.int 0)] (.int 0) := Arv.set Ar205 q205a q205b q205c q205d q205e (fits_nar_byte _) W205 0 rfl (Nat.le_of_ble_eq_true rfl)
    rw [h8r1] at V205
    have f211 := f203.wr W205 gn_b197
    have f212 := B197.wr W205
    have Z213 : n0 ≤ h205.size := Nat.le_trans Z204 (Keep.of_wr W205).1
    have N205 := Fr.snoc X205 N4 gn_b197
    refine own_vFW m T205 62 #[vI x1, vI x2, vI x3, vI x4, vI x5, vI x6, vI (4 : Int32), vI r1, vI r2, vI r3, vI r4, vR b197, .unset, .unset, .unset] [] (fun t k => st205 t k) ?_
    refine own_vFW m T205 64 #[vI x1, vI x2, vI x3, vI x4, vI x5, vI x6, vI (4 : Int32), vI r1, vI r2, vI r3, vI r4, vR b197, .unset, .unset, .unset] [(.int 4)] (fun t k => XS.iload X205.here hx rfl (hb hby at_62) rfl k) ?_
    refine own_vFW m T205 65 #[vI x1, vI x2, vI x3, vI x4, vI x5, vI x6, vI (4 : Int32), vI r1, vI r2, vI r3, vI r4, vR b197, .unset, .unset, .unset] [(.int 1), (.int 4)] (fun t k => XS.iconst X205.here hx rfl (hb hby at_64) k) ?_
    refine own_vFW m T205 68 #[vI x1, vI x2, vI x3, vI x4, vI x5, vI x6, vI (4 : Int32), vI r1, vI r2, vI r3, vI r4, vR b197, .unset, .unset, .unset] [] (fun t k => XS.icmpNo X205.here hx rfl (hb hby at_65) rfl (tlt (by decide : ((1 : Int32) < (4 : Int32)))).2.2.2 k) ?_
    refine own_vFW m T205 70 #[vI x1, vI x2, vI x3, vI x4, vI x5, vI x6, vI (4 : Int32), vI r1, vI r2, vI r3, vI r4, vR b197, .unset, .unset, .unset] [(.ref b197)] (fun t k => XS.aload X205.here hx rfl (hb hby at_68) rfl rfl k) ?_
    refine own_vFW m T205 71 #[vI x1, vI x2, vI x3, vI x4, vI x5, vI x6, vI (4 : Int32), vI r1, vI r2, vI r3, vI r4, vR b197, .unset, .unset, .unset] [(.int 1), (.ref b197)] (fun t k => XS.iconst X205.here hx rfl (hb hby at_70) k) ?_
    refine own_vFW m T205 73 #[vI x1, vI x2, vI x3, vI x4, vI x5, vI x6, vI (4 : Int32), vI r1, vI r2, vI r3, vI r4, vR b197, .unset, .unset, .unset] [(.int r2), (.int 1), (.ref b197)] (fun t k => XS.iload X205.here hx rfl (hb hby at_71) rfl k) ?_
    obtain ⟨c214, Ar214, q214a, q214b, q214c, q214d, q214e⟩ := id V205
    obtain ⟨T214, h214, X214, e214, W214, st214⟩ := stB X205 hx hZ e205 Ar214 (inb_of q214b (by decide)) (g := (mkF m 73 #[vI x1, vI x2, vI x3, vI x4, vI x5, vI x6, vI (4 : Int32), vI r1, vI r2, vI r3, vI r4, vR b197, .unset, .unset, .unset] [(.int r2), (.int 1), (.ref b197)])) rfl rfl (hb hby at_73)
    have V214 : Arv Z h214 b197 k197 .byte (4 : Int32) [(.int r1), (.int (r2.toInt8.toInt32)), (.int 0), (.int 0)] (.int 0) := Arv.set Ar214 q214a q214b q214c q214d q214e (fits_nar_byte _) W214 1 rfl (Nat.le_of_ble_eq_true rfl)
    rw [h8r2] at V214
    have f220 := f211.wr W214 gn_b197
    have f221 := f212.wr W214
    have Z222 : n0 ≤ h214.size := Nat.le_trans Z213 (Keep.of_wr W214).1
    have N214 := Fr.snoc X214 N205 gn_b197
    refine own_vFW m T214 74 #[vI x1, vI x2, vI x3, vI x4, vI x5, vI x6, vI (4 : Int32), vI r1, vI r2, vI r3, vI r4, vR b197, .unset, .unset, .unset] [] (fun t k => st214 t k) ?_
    refine own_vFW m T214 76 #[vI x1, vI x2, vI x3, vI x4, vI x5, vI x6, vI (4 : Int32), vI r1, vI r2, vI r3, vI r4, vR b197, .unset, .unset, .unset] [(.int 4)] (fun t k => XS.iload X214.here hx rfl (hb hby at_74) rfl k) ?_
    refine own_vFW m T214 77 #[vI x1, vI x2, vI x3, vI x4, vI x5, vI x6, vI (4 : Int32), vI r1, vI r2, vI r3, vI r4, vR b197, .unset, .unset, .unset] [(.int 2), (.int 4)] (fun t k => XS.iconst X214.here hx rfl (hb hby at_76) k) ?_
    refine own_vFW m T214 80 #[vI x1, vI x2, vI x3, vI x4, vI x5, vI x6, vI (4 : Int32), vI r1, vI r2, vI r3, vI r4, vR b197, .unset, .unset, .unset] [] (fun t k => XS.icmpNo X214.here hx rfl (hb hby at_77) rfl (tlt (by decide : ((2 : Int32) < (4 : Int32)))).2.2.2 k) ?_
    refine own_vFW m T214 82 #[vI x1, vI x2, vI x3, vI x4, vI x5, vI x6, vI (4 : Int32), vI r1, vI r2, vI r3, vI r4, vR b197, .unset, .unset, .unset] [(.ref b197)] (fun t k => XS.aload X214.here hx rfl (hb hby at_80) rfl rfl k) ?_
    refine own_vFW m T214 83 #[vI x1, vI x2, vI x3, vI x4, vI x5, vI x6, vI (4 : Int32), vI r1, vI r2, vI r3, vI r4, vR b197, .unset, .unset, .unset] [(.int 2), (.ref b197)] (fun t k => XS.iconst X214.here hx rfl (hb hby at_82) k) ?_
    refine own_vFW m T214 85 #[vI x1, vI x2, vI x3, vI x4, vI x5, vI x6, vI (4 : Int32), vI r1, vI r2, vI r3, vI r4, vR b197, .unset, .unset, .unset] [(.int r3), (.int 2), (.ref b197)] (fun t k => XS.iload X214.here hx rfl (hb hby at_83) rfl k) ?_
    obtain ⟨c223, Ar223, q223a, q223b, q223c, q223d, q223e⟩ := id V214
    obtain ⟨T223, h223, X223, e223, W223, st223⟩ := stB X214 hx hZ e214 Ar223 (inb_of q223b (by decide)) (g := (mkF m 85 #[vI x1, vI x2, vI x3, vI x4, vI x5, vI x6, vI (4 : Int32), vI r1, vI r2, vI r3, vI r4, vR b197, .unset, .unset, .unset] [(.int r3), (.int 2), (.ref b197)])) rfl rfl (hb hby at_85)
    have V223 : Arv Z h223 b197 k197 .byte (4 : Int32) [(.int r1), (.int r2), (.int (r3.toInt8.toInt32)), (.int 0)] (.int 0) := Arv.set Ar223 q223a q223b q223c q223d q223e (fits_nar_byte _) W223 2 rfl (Nat.le_of_ble_eq_true rfl)
    rw [h8r3] at V223
    have f229 := f220.wr W223 gn_b197
    have f230 := f221.wr W223
    have Z231 : n0 ≤ h223.size := Nat.le_trans Z222 (Keep.of_wr W223).1
    have N223 := Fr.snoc X223 N214 gn_b197
    refine own_vFW m T223 86 #[vI x1, vI x2, vI x3, vI x4, vI x5, vI x6, vI (4 : Int32), vI r1, vI r2, vI r3, vI r4, vR b197, .unset, .unset, .unset] [] (fun t k => st223 t k) ?_
    refine own_vFW m T223 88 #[vI x1, vI x2, vI x3, vI x4, vI x5, vI x6, vI (4 : Int32), vI r1, vI r2, vI r3, vI r4, vR b197, .unset, .unset, .unset] [(.int 4)] (fun t k => XS.iload X223.here hx rfl (hb hby at_86) rfl k) ?_
    refine own_vFW m T223 89 #[vI x1, vI x2, vI x3, vI x4, vI x5, vI x6, vI (4 : Int32), vI r1, vI r2, vI r3, vI r4, vR b197, .unset, .unset, .unset] [(.int 3), (.int 4)] (fun t k => XS.iconst X223.here hx rfl (hb hby at_88) k) ?_
    refine own_vFW m T223 92 #[vI x1, vI x2, vI x3, vI x4, vI x5, vI x6, vI (4 : Int32), vI r1, vI r2, vI r3, vI r4, vR b197, .unset, .unset, .unset] [] (fun t k => XS.icmpNo X223.here hx rfl (hb hby at_89) rfl (tlt (by decide : ((3 : Int32) < (4 : Int32)))).2.2.2 k) ?_
    refine own_vFW m T223 94 #[vI x1, vI x2, vI x3, vI x4, vI x5, vI x6, vI (4 : Int32), vI r1, vI r2, vI r3, vI r4, vR b197, .unset, .unset, .unset] [(.ref b197)] (fun t k => XS.aload X223.here hx rfl (hb hby at_92) rfl rfl k) ?_
    refine own_vFW m T223 95 #[vI x1, vI x2, vI x3, vI x4, vI x5, vI x6, vI (4 : Int32), vI r1, vI r2, vI r3, vI r4, vR b197, .unset, .unset, .unset] [(.int 3), (.ref b197)] (fun t k => XS.iconst X223.here hx rfl (hb hby at_94) k) ?_
    refine own_vFW m T223 97 #[vI x1, vI x2, vI x3, vI x4, vI x5, vI x6, vI (4 : Int32), vI r1, vI r2, vI r3, vI r4, vR b197, .unset, .unset, .unset] [(.int r4), (.int 3), (.ref b197)] (fun t k => XS.iload X223.here hx rfl (hb hby at_95) rfl k) ?_
    obtain ⟨c232, Ar232, q232a, q232b, q232c, q232d, q232e⟩ := id V223
    obtain ⟨T232, h232, X232, e232, W232, st232⟩ := stB X223 hx hZ e223 Ar232 (inb_of q232b (by decide)) (g := (mkF m 97 #[vI x1, vI x2, vI x3, vI x4, vI x5, vI x6, vI (4 : Int32), vI r1, vI r2, vI r3, vI r4, vR b197, .unset, .unset, .unset] [(.int r4), (.int 3), (.ref b197)])) rfl rfl (hb hby at_97)
    have V232 : Arv Z h232 b197 k197 .byte (4 : Int32) [(.int r1), (.int r2), (.int r3), (.int (r4.toInt8.toInt32))] (.int 0) := Arv.set Ar232 q232a q232b q232c q232d q232e (fits_nar_byte _) W232 3 rfl (Nat.le_of_ble_eq_true rfl)
    rw [h8r4] at V232
    have f238 := f229.wr W232 gn_b197
    have f239 := f230.wr W232
    have Z240 : n0 ≤ h232.size := Nat.le_trans Z231 (Keep.of_wr W232).1
    have N232 := Fr.snoc X232 N223 gn_b197
    refine own_vFW m T232 98 #[vI x1, vI x2, vI x3, vI x4, vI x5, vI x6, vI (4 : Int32), vI r1, vI r2, vI r3, vI r4, vR b197, .unset, .unset, .unset] [] (fun t k => st232 t k) ?_
    refine own_vFW m T232 100 #[vI x1, vI x2, vI x3, vI x4, vI x5, vI x6, vI (4 : Int32), vI r1, vI r2, vI r3, vI r4, vR b197, .unset, .unset, .unset] [(.int 4)] (fun t k => XS.iload X232.here hx rfl (hb hby at_98) rfl k) ?_
    refine own_vFW m T232 103 #[vI x1, vI x2, vI x3, vI x4, vI x5, vI x6, vI (4 : Int32), vI r1, vI r2, vI r3, vI r4, vR b197, .unset, .unset, .unset] [] (fun t k => XS.ifNo X232.here hx rfl (hb hby at_100) rfl ((if0 _ _).trans (tlt (by decide : ((0 : Int32) < (4 : Int32)))).2.2.2) k) ?_
    refine own_vFW m T232 105 #[vI x1, vI x2, vI x3, vI x4, vI x5, vI x6, vI (4 : Int32), vI r1, vI r2, vI r3, vI r4, vR b197, .unset, .unset, .unset] [(.int r1)] (fun t k => XS.iload X232.here hx rfl (hb hby at_103) rfl k) ?_
    refine own_vFW m T232 107 #[vI x1, vI x2, vI x3, vI x4, vI x5, vI x6, vI (4 : Int32), vI r1, vI r2, vI r3, vI r4, vR b197, .unset, .unset, .unset] [(.int 61), (.int r1)] (fun t k => XS.bipush X232.here hx rfl (hb hby at_105) k) ?_
    by_cases hc241 : r1 = (61 : Int32)
    case pos =>
      refine own_vFW m T232 110 #[vI x1, vI x2, vI x3, vI x4, vI x5, vI x6, vI (4 : Int32), vI r1, vI r2, vI r3, vI r4, vR b197, .unset, .unset, .unset] [] (fun t k => XS.icmpNo X232.here hx rfl (hb hby at_107) rfl (teq hc241).2 k) ?_
      refine own_vFW m T232 111 #[vI x1, vI x2, vI x3, vI x4, vI x5, vI x6, vI (4 : Int32), vI r1, vI r2, vI r3, vI r4, vR b197, .unset, .unset, .unset] [(.int 0)] (fun t k => XS.iconst X232.here hx rfl (hb hby at_110) k) ?_
      refine own_vFW m T232 113 #[vI x1, vI x2, vI x3, vI x4, vI x5, vI x6, vI (4 : Int32), vI r1, vI r2, vI r3, vI r4, vR b197, vI (0 : Int32), .unset, .unset] [] (fun t k => XS.istore X232.here hx rfl (hb hby at_111) rfl (l' := #[vI x1, vI x2, vI x3, vI x4, vI x5, vI x6, vI (4 : Int32), vI r1, vI r2, vI r3, vI r4, vR b197, vI (0 : Int32), .unset, .unset]) rfl k) ?_
      refine own_vFW m T232 176 #[vI x1, vI x2, vI x3, vI x4, vI x5, vI x6, vI (4 : Int32), vI r1, vI r2, vI r3, vI r4, vR b197, vI (0 : Int32), .unset, .unset] [] (fun t k => XS.goto X232.here hx rfl (pc0 := 113) (pc' := 176) rfl (hb hby at_113) (by decide) (by decide) k) ?_
      refine own_vFW m T232 178 #[vI x1, vI x2, vI x3, vI x4, vI x5, vI x6, vI (4 : Int32), vI r1, vI r2, vI r3, vI r4, vR b197, vI (0 : Int32), .unset, .unset] [(.ref b197)] (fun t k => XS.aload X232.here hx rfl (hb hby at_176) rfl rfl k) ?_
      obtain ⟨_, T242, L242, X242, hS, hZ, hown, hQ242, st242⟩ := own_callSW X232 hx hZ hEL hCH (y := (⟨"com/example/bdelloid/bdelloid/os/Environment", "name", "([B)Ljava/lang/String;"⟩ : MethodName)) (W := 0) hown (hw _ (own_mt 6 rfl)) (hw _ (own_mt 7 rfl)) (hw _ (own_mt 8 rfl)) (hw _ (own_mt 9 rfl)) (by decide) (rm_Qnm40 l Z a0 hw b197 k197 r1 r2 r3 r4 cs sf iso u8 h232 n0 Z240 f238 SS f239 V232 (by (simp only [if_pos hc241]) <;> decide)) (by decide) (by decide) e232 (g := (mkF m 178 #[vI x1, vI x2, vI x3, vI x4, vI x5, vI x6, vI (4 : Int32), vI r1, vI r2, vI r3, vI r4, vR b197, vI (0 : Int32), .unset, .unset] [(.ref b197)])) rfl (by rw [hml]; rfl) (argsL := [(.ref b197)]) (rest := []) rfl (lenOf pd_AB__Ljava_lang_String_ rfl) rfl own_w0 (hb hby at_178) (by decide) (by decide)
      have hk242 : T242.heap.size ≤ T242.heap.size := Nat.le_refl _
      obtain ⟨b242r, rfl, N242q, K242q, Es242, Fc242, b242s, kb242, Fv242, Va242⟩ := hQ242
      have N242 := Fr.app N232 N242q
      have f248 := f238.keep K242q all0
      have Z251 : n0 ≤ T242.heap.size := Nat.le_trans Z240 K242q.1
      refine own_vFW m T242 181 #[vI x1, vI x2, vI x3, vI x4, vI x5, vI x6, vI (4 : Int32), vI r1, vI r2, vI r3, vI r4, vR b197, vI (0 : Int32), .unset, .unset] [(.ref b242r)] (fun t k => st242 t k) ?_
      exact own_tail0 l Z a0 hw x1 x2 x3 x4 x5 x6 (4 : Int32) r1 r2 r3 r4 b197 b242r b242s kb242 cs sf iso u8 h0 T242.heap n0 Z251 f248 SS (X242.more (by decide) (by decide)) hx hby hml hret hlk hZ hown hS hk242 rfl N242 Es242 Fc242 Fv242 Va242
    case neg =>
      refine own_vFW m T232 116 #[vI x1, vI x2, vI x3, vI x4, vI x5, vI x6, vI (4 : Int32), vI r1, vI r2, vI r3, vI r4, vR b197, .unset, .unset, .unset] [] (fun t k => XS.icmpYes X232.here hx rfl (pc0 := 107) (pc' := 116) rfl (hb hby at_107) rfl (feq hc241).2 (by decide) (by decide) k) ?_
      refine own_vFW m T232 118 #[vI x1, vI x2, vI x3, vI x4, vI x5, vI x6, vI (4 : Int32), vI r1, vI r2, vI r3, vI r4, vR b197, .unset, .unset, .unset] [(.int 4)] (fun t k => XS.iload X232.here hx rfl (hb hby at_116) rfl k) ?_
      refine own_vFW m T232 119 #[vI x1, vI x2, vI x3, vI x4, vI x5, vI x6, vI (4 : Int32), vI r1, vI r2, vI r3, vI r4, vR b197, .unset, .unset, .unset] [(.int 1), (.int 4)] (fun t k => XS.iconst X232.here hx rfl (hb hby at_118) k) ?_
      refine own_vFW m T232 122 #[vI x1, vI x2, vI x3, vI x4, vI x5, vI x6, vI (4 : Int32), vI r1, vI r2, vI r3, vI r4, vR b197, .unset, .unset, .unset] [] (fun t k => XS.icmpNo X232.here hx rfl (hb hby at_119) rfl (tlt (by decide : ((1 : Int32) < (4 : Int32)))).2.2.2 k) ?_
      refine own_vFW m T232 124 #[vI x1, vI x2, vI x3, vI x4, vI x5, vI x6, vI (4 : Int32), vI r1, vI r2, vI r3, vI r4, vR b197, .unset, .unset, .unset] [(.int r2)] (fun t k => XS.iload X232.here hx rfl (hb hby at_122) rfl k) ?_
      refine own_vFW m T232 126 #[vI x1, vI x2, vI x3, vI x4, vI x5, vI x6, vI (4 : Int32), vI r1, vI r2, vI r3, vI r4, vR b197, .unset, .unset, .unset] [(.int 61), (.int r2)] (fun t k => XS.bipush X232.here hx rfl (hb hby at_124) k) ?_
      by_cases hc252 : r2 = (61 : Int32)
      case pos =>
        refine own_vFW m T232 129 #[vI x1, vI x2, vI x3, vI x4, vI x5, vI x6, vI (4 : Int32), vI r1, vI r2, vI r3, vI r4, vR b197, .unset, .unset, .unset] [] (fun t k => XS.icmpNo X232.here hx rfl (hb hby at_126) rfl (teq hc252).2 k) ?_
        refine own_vFW m T232 130 #[vI x1, vI x2, vI x3, vI x4, vI x5, vI x6, vI (4 : Int32), vI r1, vI r2, vI r3, vI r4, vR b197, .unset, .unset, .unset] [(.int 1)] (fun t k => XS.iconst X232.here hx rfl (hb hby at_129) k) ?_
        refine own_vFW m T232 132 #[vI x1, vI x2, vI x3, vI x4, vI x5, vI x6, vI (4 : Int32), vI r1, vI r2, vI r3, vI r4, vR b197, vI (1 : Int32), .unset, .unset] [] (fun t k => XS.istore X232.here hx rfl (hb hby at_130) rfl (l' := #[vI x1, vI x2, vI x3, vI x4, vI x5, vI x6, vI (4 : Int32), vI r1, vI r2, vI r3, vI r4, vR b197, vI (1 : Int32), .unset, .unset]) rfl k) ?_
        refine own_vFW m T232 176 #[vI x1, vI x2, vI x3, vI x4, vI x5, vI x6, vI (4 : Int32), vI r1, vI r2, vI r3, vI r4, vR b197, vI (1 : Int32), .unset, .unset] [] (fun t k => XS.goto X232.here hx rfl (pc0 := 132) (pc' := 176) rfl (hb hby at_132) (by decide) (by decide) k) ?_
        refine own_vFW m T232 178 #[vI x1, vI x2, vI x3, vI x4, vI x5, vI x6, vI (4 : Int32), vI r1, vI r2, vI r3, vI r4, vR b197, vI (1 : Int32), .unset, .unset] [(.ref b197)] (fun t k => XS.aload X232.here hx rfl (hb hby at_176) rfl rfl k) ?_
        obtain ⟨_, T253, L253, X253, hQ253, st253⟩ := own_callS X232 hx hZ (y := (⟨"com/example/bdelloid/bdelloid/os/Environment", "name", "([B)Ljava/lang/String;"⟩ : MethodName)) (W := 0) hown (hw _ (own_mt 6 rfl)) (hw _ (own_mt 7 rfl)) (hw _ (own_mt 8 rfl)) (hw _ (own_mt 9 rfl)) (by decide) (rm_Qnm41 l Z a0 hw b197 k197 r1 r2 r3 r4 cs sf iso u8 h232 n0 Z240 f238 SS f239 V232 (by (simp only [if_neg hc241, if_pos hc252]) <;> decide)) (by decide) (by decide) e232 (g := (mkF m 178 #[vI x1, vI x2, vI x3, vI x4, vI x5, vI x6, vI (4 : Int32), vI r1, vI r2, vI r3, vI r4, vR b197, vI (1 : Int32), .unset, .unset] [(.ref b197)])) rfl (by rw [hml]; rfl) (argsL := [(.ref b197)]) (rest := []) rfl (lenOf pd_AB__Ljava_lang_String_ rfl) rfl own_w0 (hb hby at_178) (by decide) (by decide)
        obtain ⟨b253r, rfl, N253q, K253q, Es253, Fc253, b253s, kb253, Fv253, Eb253, Va253⟩ := hQ253
        have N253 := Fr.app N232 N253q
        have f259 := f238.keep K253q all0
        have Z262 : n0 ≤ T253.heap.size := Nat.le_trans Z240 K253q.1
        refine own_vFW m T253 181 #[vI x1, vI x2, vI x3, vI x4, vI x5, vI x6, vI (4 : Int32), vI r1, vI r2, vI r3, vI r4, vR b197, vI (1 : Int32), .unset, .unset] [(.ref b253r)] (fun t k => st253 t k) ?_
        exact own_tail1 l Z a0 hw x1 x2 x3 x4 x5 x6 (4 : Int32) r1 r2 r3 r4 b197 b253r b253s kb253 cs sf iso u8 h0 T253.heap n0 Z262 f259 SS (X253.more (by decide) (by decide)) hx hby hml hret hlk hZ hown rfl N253 Es253 Fc253 Fv253 Va253
      case neg =>
        refine own_vFW m T232 135 #[vI x1, vI x2, vI x3, vI x4, vI x5, vI x6, vI (4 : Int32), vI r1, vI r2, vI r3, vI r4, vR b197, .unset, .unset, .unset] [] (fun t k => XS.icmpYes X232.here hx rfl (pc0 := 126) (pc' := 135) rfl (hb hby at_126) rfl (feq hc252).2 (by decide) (by decide) k) ?_
        refine own_vFW m T232 137 #[vI x1, vI x2, vI x3, vI x4, vI x5, vI x6, vI (4 : Int32), vI r1, vI r2, vI r3, vI r4, vR b197, .unset, .unset, .unset] [(.int 4)] (fun t k => XS.iload X232.here hx rfl (hb hby at_135) rfl k) ?_
        refine own_vFW m T232 138 #[vI x1, vI x2, vI x3, vI x4, vI x5, vI x6, vI (4 : Int32), vI r1, vI r2, vI r3, vI r4, vR b197, .unset, .unset, .unset] [(.int 2), (.int 4)] (fun t k => XS.iconst X232.here hx rfl (hb hby at_137) k) ?_
        refine own_vFW m T232 141 #[vI x1, vI x2, vI x3, vI x4, vI x5, vI x6, vI (4 : Int32), vI r1, vI r2, vI r3, vI r4, vR b197, .unset, .unset, .unset] [] (fun t k => XS.icmpNo X232.here hx rfl (hb hby at_138) rfl (tlt (by decide : ((2 : Int32) < (4 : Int32)))).2.2.2 k) ?_
        refine own_vFW m T232 143 #[vI x1, vI x2, vI x3, vI x4, vI x5, vI x6, vI (4 : Int32), vI r1, vI r2, vI r3, vI r4, vR b197, .unset, .unset, .unset] [(.int r3)] (fun t k => XS.iload X232.here hx rfl (hb hby at_141) rfl k) ?_
        refine own_vFW m T232 145 #[vI x1, vI x2, vI x3, vI x4, vI x5, vI x6, vI (4 : Int32), vI r1, vI r2, vI r3, vI r4, vR b197, .unset, .unset, .unset] [(.int 61), (.int r3)] (fun t k => XS.bipush X232.here hx rfl (hb hby at_143) k) ?_
        by_cases hc263 : r3 = (61 : Int32)
        case pos =>
          refine own_vFW m T232 148 #[vI x1, vI x2, vI x3, vI x4, vI x5, vI x6, vI (4 : Int32), vI r1, vI r2, vI r3, vI r4, vR b197, .unset, .unset, .unset] [] (fun t k => XS.icmpNo X232.here hx rfl (hb hby at_145) rfl (teq hc263).2 k) ?_
          refine own_vFW m T232 149 #[vI x1, vI x2, vI x3, vI x4, vI x5, vI x6, vI (4 : Int32), vI r1, vI r2, vI r3, vI r4, vR b197, .unset, .unset, .unset] [(.int 2)] (fun t k => XS.iconst X232.here hx rfl (hb hby at_148) k) ?_
          refine own_vFW m T232 151 #[vI x1, vI x2, vI x3, vI x4, vI x5, vI x6, vI (4 : Int32), vI r1, vI r2, vI r3, vI r4, vR b197, vI (2 : Int32), .unset, .unset] [] (fun t k => XS.istore X232.here hx rfl (hb hby at_149) rfl (l' := #[vI x1, vI x2, vI x3, vI x4, vI x5, vI x6, vI (4 : Int32), vI r1, vI r2, vI r3, vI r4, vR b197, vI (2 : Int32), .unset, .unset]) rfl k) ?_
          refine own_vFW m T232 176 #[vI x1, vI x2, vI x3, vI x4, vI x5, vI x6, vI (4 : Int32), vI r1, vI r2, vI r3, vI r4, vR b197, vI (2 : Int32), .unset, .unset] [] (fun t k => XS.goto X232.here hx rfl (pc0 := 151) (pc' := 176) rfl (hb hby at_151) (by decide) (by decide) k) ?_
          refine own_vFW m T232 178 #[vI x1, vI x2, vI x3, vI x4, vI x5, vI x6, vI (4 : Int32), vI r1, vI r2, vI r3, vI r4, vR b197, vI (2 : Int32), .unset, .unset] [(.ref b197)] (fun t k => XS.aload X232.here hx rfl (hb hby at_176) rfl rfl k) ?_
          obtain ⟨_, T264, L264, X264, hQ264, st264⟩ := own_callS X232 hx hZ (y := (⟨"com/example/bdelloid/bdelloid/os/Environment", "name", "([B)Ljava/lang/String;"⟩ : MethodName)) (W := 0) hown (hw _ (own_mt 6 rfl)) (hw _ (own_mt 7 rfl)) (hw _ (own_mt 8 rfl)) (hw _ (own_mt 9 rfl)) (by decide) (rm_Qnm42 l Z a0 hw b197 k197 r1 r2 r3 r4 cs sf iso u8 h232 n0 Z240 f238 SS f239 V232 (by (simp only [if_neg hc241, if_neg hc252, if_pos hc263]) <;> decide)) (by decide) (by decide) e232 (g := (mkF m 178 #[vI x1, vI x2, vI x3, vI x4, vI x5, vI x6, vI (4 : Int32), vI r1, vI r2, vI r3, vI r4, vR b197, vI (2 : Int32), .unset, .unset] [(.ref b197)])) rfl (by rw [hml]; rfl) (argsL := [(.ref b197)]) (rest := []) rfl (lenOf pd_AB__Ljava_lang_String_ rfl) rfl own_w0 (hb hby at_178) (by decide) (by decide)
          obtain ⟨b264r, rfl, N264q, K264q, Es264, Fc264, b264s, kb264, Fv264, Eb264, Va264⟩ := hQ264
          have N264 := Fr.app N232 N264q
          have f270 := f238.keep K264q all0
          have Z273 : n0 ≤ T264.heap.size := Nat.le_trans Z240 K264q.1
          refine own_vFW m T264 181 #[vI x1, vI x2, vI x3, vI x4, vI x5, vI x6, vI (4 : Int32), vI r1, vI r2, vI r3, vI r4, vR b197, vI (2 : Int32), .unset, .unset] [(.ref b264r)] (fun t k => st264 t k) ?_
          exact own_tail2 l Z a0 hw x1 x2 x3 x4 x5 x6 (4 : Int32) r1 r2 r3 r4 b197 b264r b264s kb264 cs sf iso u8 h0 T264.heap n0 Z273 f270 SS (X264.more (by decide) (by decide)) hx hby hml hret hlk hZ hown rfl N264 Es264 Fc264 Fv264 Va264
        case neg =>
          refine own_vFW m T232 154 #[vI x1, vI x2, vI x3, vI x4, vI x5, vI x6, vI (4 : Int32), vI r1, vI r2, vI r3, vI r4, vR b197, .unset, .unset, .unset] [] (fun t k => XS.icmpYes X232.here hx rfl (pc0 := 145) (pc' := 154) rfl (hb hby at_145) rfl (feq hc263).2 (by decide) (by decide) k) ?_
          refine own_vFW m T232 156 #[vI x1, vI x2, vI x3, vI x4, vI x5, vI x6, vI (4 : Int32), vI r1, vI r2, vI r3, vI r4, vR b197, .unset, .unset, .unset] [(.int 4)] (fun t k => XS.iload X232.here hx rfl (hb hby at_154) rfl k) ?_
          refine own_vFW m T232 157 #[vI x1, vI x2, vI x3, vI x4, vI x5, vI x6, vI (4 : Int32), vI r1, vI r2, vI r3, vI r4, vR b197, .unset, .unset, .unset] [(.int 3), (.int 4)] (fun t k => XS.iconst X232.here hx rfl (hb hby at_156) k) ?_
          refine own_vFW m T232 160 #[vI x1, vI x2, vI x3, vI x4, vI x5, vI x6, vI (4 : Int32), vI r1, vI r2, vI r3, vI r4, vR b197, .unset, .unset, .unset] [] (fun t k => XS.icmpNo X232.here hx rfl (hb hby at_157) rfl (tlt (by decide : ((3 : Int32) < (4 : Int32)))).2.2.2 k) ?_
          refine own_vFW m T232 162 #[vI x1, vI x2, vI x3, vI x4, vI x5, vI x6, vI (4 : Int32), vI r1, vI r2, vI r3, vI r4, vR b197, .unset, .unset, .unset] [(.int r4)] (fun t k => XS.iload X232.here hx rfl (hb hby at_160) rfl k) ?_
          refine own_vFW m T232 164 #[vI x1, vI x2, vI x3, vI x4, vI x5, vI x6, vI (4 : Int32), vI r1, vI r2, vI r3, vI r4, vR b197, .unset, .unset, .unset] [(.int 61), (.int r4)] (fun t k => XS.bipush X232.here hx rfl (hb hby at_162) k) ?_
          by_cases hc274 : r4 = (61 : Int32)
          case pos =>
            refine own_vFW m T232 167 #[vI x1, vI x2, vI x3, vI x4, vI x5, vI x6, vI (4 : Int32), vI r1, vI r2, vI r3, vI r4, vR b197, .unset, .unset, .unset] [] (fun t k => XS.icmpNo X232.here hx rfl (hb hby at_164) rfl (teq hc274).2 k) ?_
            refine own_vFW m T232 168 #[vI x1, vI x2, vI x3, vI x4, vI x5, vI x6, vI (4 : Int32), vI r1, vI r2, vI r3, vI r4, vR b197, .unset, .unset, .unset] [(.int 3)] (fun t k => XS.iconst X232.here hx rfl (hb hby at_167) k) ?_
            refine own_vFW m T232 170 #[vI x1, vI x2, vI x3, vI x4, vI x5, vI x6, vI (4 : Int32), vI r1, vI r2, vI r3, vI r4, vR b197, vI (3 : Int32), .unset, .unset] [] (fun t k => XS.istore X232.here hx rfl (hb hby at_168) rfl (l' := #[vI x1, vI x2, vI x3, vI x4, vI x5, vI x6, vI (4 : Int32), vI r1, vI r2, vI r3, vI r4, vR b197, vI (3 : Int32), .unset, .unset]) rfl k) ?_
            refine own_vFW m T232 176 #[vI x1, vI x2, vI x3, vI x4, vI x5, vI x6, vI (4 : Int32), vI r1, vI r2, vI r3, vI r4, vR b197, vI (3 : Int32), .unset, .unset] [] (fun t k => XS.goto X232.here hx rfl (pc0 := 170) (pc' := 176) rfl (hb hby at_170) (by decide) (by decide) k) ?_
            refine own_vFW m T232 178 #[vI x1, vI x2, vI x3, vI x4, vI x5, vI x6, vI (4 : Int32), vI r1, vI r2, vI r3, vI r4, vR b197, vI (3 : Int32), .unset, .unset] [(.ref b197)] (fun t k => XS.aload X232.here hx rfl (hb hby at_176) rfl rfl k) ?_
            obtain ⟨_, T275, L275, X275, hQ275, st275⟩ := own_callS X232 hx hZ (y := (⟨"com/example/bdelloid/bdelloid/os/Environment", "name", "([B)Ljava/lang/String;"⟩ : MethodName)) (W := 0) hown (hw _ (own_mt 6 rfl)) (hw _ (own_mt 7 rfl)) (hw _ (own_mt 8 rfl)) (hw _ (own_mt 9 rfl)) (by decide) (rm_Qnm43 l Z a0 hw b197 k197 r1 r2 r3 r4 cs sf iso u8 h232 n0 Z240 f238 SS f239 V232 (by (simp only [if_neg hc241, if_neg hc252, if_neg hc263, if_pos hc274]) <;> decide)) (by decide) (by decide) e232 (g := (mkF m 178 #[vI x1, vI x2, vI x3, vI x4, vI x5, vI x6, vI (4 : Int32), vI r1, vI r2, vI r3, vI r4, vR b197, vI (3 : Int32), .unset, .unset] [(.ref b197)])) rfl (by rw [hml]; rfl) (argsL := [(.ref b197)]) (rest := []) rfl (lenOf pd_AB__Ljava_lang_String_ rfl) rfl own_w0 (hb hby at_178) (by decide) (by decide)
            obtain ⟨b275r, rfl, N275q, K275q, Es275, Fc275, b275s, kb275, Fv275, Eb275, Va275⟩ := hQ275
            have N275 := Fr.app N232 N275q
            have f281 := f238.keep K275q all0
            have Z284 : n0 ≤ T275.heap.size := Nat.le_trans Z240 K275q.1
            refine own_vFW m T275 181 #[vI x1, vI x2, vI x3, vI x4, vI x5, vI x6, vI (4 : Int32), vI r1, vI r2, vI r3, vI r4, vR b197, vI (3 : Int32), .unset, .unset] [(.ref b275r)] (fun t k => st275 t k) ?_
            exact own_tail3 l Z a0 hw x1 x2 x3 x4 x5 x6 (4 : Int32) r1 r2 r3 r4 b197 b275r b275s kb275 cs sf iso u8 h0 T275.heap n0 Z284 f281 SS (X275.more (by decide) (by decide)) hx hby hml hret hlk hZ hown rfl N275 Es275 Fc275 Fv275 Va275
          case neg =>
            refine own_vFW m T232 173 #[vI x1, vI x2, vI x3, vI x4, vI x5, vI x6, vI (4 : Int32), vI r1, vI r2, vI r3, vI r4, vR b197, .unset, .unset, .unset] [] (fun t k => XS.icmpYes X232.here hx rfl (pc0 := 164) (pc' := 173) rfl (hb hby at_164) rfl (feq hc274).2 (by decide) (by decide) k) ?_
            refine own_vFW m T232 174 #[vI x1, vI x2, vI x3, vI x4, vI x5, vI x6, vI (4 : Int32), vI r1, vI r2, vI r3, vI r4, vR b197, .unset, .unset, .unset] [(.int 0)] (fun t k => XS.iconst X232.here hx rfl (hb hby at_173) k) ?_
            refine own_vFW m T232 176 #[vI x1, vI x2, vI x3, vI x4, vI x5, vI x6, vI (4 : Int32), vI r1, vI r2, vI r3, vI r4, vR b197, vI (0 : Int32), .unset, .unset] [] (fun t k => XS.istore X232.here hx rfl (hb hby at_174) rfl (l' := #[vI x1, vI x2, vI x3, vI x4, vI x5, vI x6, vI (4 : Int32), vI r1, vI r2, vI r3, vI r4, vR b197, vI (0 : Int32), .unset, .unset]) rfl k) ?_
            refine own_vFW m T232 178 #[vI x1, vI x2, vI x3, vI x4, vI x5, vI x6, vI (4 : Int32), vI r1, vI r2, vI r3, vI r4, vR b197, vI (0 : Int32), .unset, .unset] [(.ref b197)] (fun t k => XS.aload X232.here hx rfl (hb hby at_176) rfl rfl k) ?_
            obtain ⟨_, T285, L285, X285, hS, hZ, hown, hQ285, st285⟩ := own_callSW X232 hx hZ hEL hCH (y := (⟨"com/example/bdelloid/bdelloid/os/Environment", "name", "([B)Ljava/lang/String;"⟩ : MethodName)) (W := 0) hown (hw _ (own_mt 6 rfl)) (hw _ (own_mt 7 rfl)) (hw _ (own_mt 8 rfl)) (hw _ (own_mt 9 rfl)) (by decide) (rm_Qnm40 l Z a0 hw b197 k197 r1 r2 r3 r4 cs sf iso u8 h232 n0 Z240 f238 SS f239 V232 (by (simp only [if_neg hc241, if_neg hc252, if_neg hc263, if_neg hc274]) <;> decide)) (by decide) (by decide) e232 (g := (mkF m 178 #[vI x1, vI x2, vI x3, vI x4, vI x5, vI x6, vI (4 : Int32), vI r1, vI r2, vI r3, vI r4, vR b197, vI (0 : Int32), .unset, .unset] [(.ref b197)])) rfl (by rw [hml]; rfl) (argsL := [(.ref b197)]) (rest := []) rfl (lenOf pd_AB__Ljava_lang_String_ rfl) rfl own_w0 (hb hby at_178) (by decide) (by decide)
            have hk285 : T285.heap.size ≤ T285.heap.size := Nat.le_refl _
            obtain ⟨b285r, rfl, N285q, K285q, Es285, Fc285, b285s, kb285, Fv285, Va285⟩ := hQ285
            have N285 := Fr.app N232 N285q
            have f291 := f238.keep K285q all0
            have Z294 : n0 ≤ T285.heap.size := Nat.le_trans Z240 K285q.1
            refine own_vFW m T285 181 #[vI x1, vI x2, vI x3, vI x4, vI x5, vI x6, vI (4 : Int32), vI r1, vI r2, vI r3, vI r4, vR b197, vI (0 : Int32), .unset, .unset] [(.ref b285r)] (fun t k => st285 t k) ?_
            exact own_tail0 l Z a0 hw x1 x2 x3 x4 x5 x6 (4 : Int32) r1 r2 r3 r4 b197 b285r b285s kb285 cs sf iso u8 h0 T285.heap n0 Z294 f291 SS (X285.more (by decide) (by decide)) hx hby hml hret hlk hZ hown hS hk285 rfl N285 Es285 Fc285 Fv285 Va285
theorem own_neI {args : Array Value} {t : Term} {first s : State} {o : Option Outcome} {idx : List Nat} {x : Int32} (e : t.eval args first o idx s = some (.int x)) (h : (Jvm.Cond.not (Jvm.Cond.eq t (Jvm.Term.int 0))).value args first o s idx = some true) : ¬ x = (0 : Int32) := fun q => by
  subst q
  simp [Cond.value, e, Term.eval] at h
theorem own_eqR {args : Array Value} {t u : Term} {first s : State} {o : Option Outcome} {idx : List Nat} {a b : Addr} (e : t.eval args first o idx s = some (.ref a)) (f : u.eval args first o idx s = some (.ref b)) (h : (Jvm.Cond.eq t u).value args first o s idx = some true) : a = b := by
  simpa [Cond.value, e, f] using h
set_option maxRecDepth 65536 in
set_option maxHeartbeats 40000000 in
theorem comes_1 {Post : Tables → Env → Array Value → State → Outcome → State → Prop} (hpost : ∀ tb e args s v u, (limb_1_1.after args s (.returned v) u = true ∧ limb_1_2.after args s (.returned v) u = true ∧ True) → ReturnedEndW s (.returned v) u (Jvm.fieldLocs frame_1_writes args s ++ Jvm.arrayLocs frame_1_arrays args s ++ Jvm.staticLocs frame_1_statics s) 24 2176 → Post tb e args s (.returned v) u) :
    ArmFor flags0 classFile x code maxLocals ret World_1 tables_1 room_1 Calls_1 rest_1 Pre_1 Post := by
  intro l hfl _ _ p e ha hc hk s m args below hf hA hF happ hP
  obtain ⟨hcalls, hrest, hpre⟩ := hP
  obtain ⟨-, -, -, hnamed, -, -, -, hat⟩ := (Spec.applies_iff hf).mp happ
  obtain ⟨hg, hn⟩ := and_e (Cond.before_iff.mp (show (Jvm.Cond.and given_1 narrow_1).before args s = true from hpre))
  obtain ⟨hcount, r0⟩ := and_e hg
  obtain ⟨k0, r1⟩ := and_e r0
  obtain ⟨k1, r2⟩ := and_e r1
  obtain ⟨k2, r3⟩ := and_e r2
  obtain ⟨k3, r4⟩ := and_e r3
  obtain ⟨k4, r5⟩ := and_e r4
  obtain ⟨w0, w1, w2, w3, w4, w5, rfl⟩ : ∃ w0 w1 w2 w3 w4 w5 : Value, args = #[w0, w1, w2, w3, w4, w5] := by
    have hs : args.size = 6 := by simpa [Cond.value, given_1] using hcount
    obtain ⟨L⟩ := args
    match L, hs with
    | [w0, w1, w2, w3, w4, w5], _ => exact ⟨w0, w1, w2, w3, w4, w5, rfl⟩
  have hw := fun d (hd : d ∈ tables_1) => atoms_spec (ws := Jvm.Cond.code x code maxLocals ret :: tables_1) hat d (List.mem_cons_of_mem _ hd)
  have hfit : Fit s := fun {y c} hc i hi => by
    obtain ⟨ha, rfl⟩ := Array.getElem?_eq_some_iff.mp hc
    have q := List.all_eq_true.mp ((Array.all_eq_true_iff_forall_mem.mp hF) _ (Array.getElem_mem ha)) i (List.mem_range.mpr hi)
    simpa [Array.getElem?_eq_getElem hi] using q
  obtain ⟨hsets, hown0⟩ := atoms_of _ (rest_1_c_eq ▸ (show rest_1_c.before _ s = true from hrest))
  have hr0 := Cond.before_iff.mp hown0
  obtain ⟨i0, ei0⟩ := is_v k0
  obtain rfl : w0 = (.int i0) := Option.some.inj ei0
  obtain ⟨i1, ei1⟩ := is_v k1
  obtain rfl : w1 = (.int i1) := Option.some.inj ei1
  obtain ⟨i2, ei2⟩ := is_v k2
  obtain rfl : w2 = (.int i2) := Option.some.inj ei2
  obtain ⟨i3, ei3⟩ := is_v k3
  obtain rfl : w3 = (.int i3) := Option.some.inj ei3
  obtain ⟨i4, ei4⟩ := is_v k4
  obtain rfl : w4 = (.int i4) := Option.some.inj ei4
  obtain ⟨i5, ei5⟩ := is_v r5
  obtain rfl : w5 = (.int i5) := Option.some.inj ei5
  obtain ⟨cs, vcs⟩ := is_v (Cond.before_iff.mp (hsets _ (own_mt 7 rfl)))
  have Scs := Sta.start vcs (Or.inl (hsets _ (own_mt 6 rfl)))
  have hcs := own_neI vcs (Cond.before_iff.mp (hsets _ (own_mt 8 rfl)))
  obtain ⟨sf, vsf, hsf⟩ := isR_v (Cond.before_iff.mp (hsets _ (own_mt 14 rfl)))
  have Ssf := Sta.start vsf (Or.inl (hsets _ (own_mt 13 rfl)))
  obtain ⟨iso, viso⟩ := exa_v (Cond.before_iff.mp (hsets _ (own_mt 5 rfl)))
  have Siso := Sta.start viso (Or.inl (hsets _ (own_mt 1 rfl)))
  have Eiso := Exa.start viso (Cond.before_iff.mp (hsets _ (own_mt 5 rfl)))
  obtain ⟨ins, vins⟩ := exa_v (Cond.before_iff.mp (hsets _ (own_mt 20 rfl)))
  have Sins := Sta.start vins (Or.inl (hsets _ (own_mt 3 rfl)))
  obtain rfl := own_eqR viso vins (Cond.before_iff.mp (hsets _ (own_mt 4 rfl)))
  obtain ⟨u8, vu8⟩ := exa_v (Cond.before_iff.mp (hsets _ (own_mt 17 rfl)))
  have Su8 := Sta.start vu8 (Or.inl (hsets _ (own_mt 16 rfl)))
  have Eu8 := Exa.start vu8 (Cond.before_iff.mp (hsets _ (own_mt 17 rfl)))
  have hCH : CHv s own_EL s.vm s.heap := CHv.start (own_hEL hw) (fun p hp => hcalls.1 p hp) (hsets _ (own_mt 8 rfl)) (hw _ (own_mt 5 rfl)) (hw _ (own_mt 11 rfl))
  obtain ⟨n, o, h1, h2, h3, _, L, rfl, ⟨rfl, N⟩, hq⟩ := rm_Q0 l s _ hw tables_1 i0 i1 i2 i3 i4 i5 cs sf iso u8 s.heap s.heap.size (Nat.le_refl _) (Old.start s) ⟨Scs, hcs, Ssf, hsf, Siso, Sins, Eiso, Su8, Eu8⟩ p e ha hc hk s m _ below hf ((Spec.applies_iff_loose hf).mp happ).1 ⟨rfl, State.Warmed39.refl s, rfl, hCH⟩ trivial
  refine ⟨n, _, h1, h2, h3, hpost _ _ _ _ _ _ ⟨Cond.after_iff.mpr rfl, Cond.after_iff.mpr (eq_i res_at (Term.int_eval (1)) rfl), trivial⟩ ⟨hq.1, hq.2.1, hq.2.2.1, (hq.2.2.2.sift fun y hy => Or.inr (N y hy)).mono (by decide) (by decide)⟩⟩
theorem main_1_1 : Claimed_1_1 := comes_1 fun _ _ _ _ _ _ h hF => ⟨h.1, hF⟩
theorem main_1_2 : Claimed_1_2 := comes_1 fun _ _ _ _ _ _ h hF => ⟨h.2.1, hF⟩
end Jvm.Pilot.@@N@@
namespace Jvm.Pilot.@@N@@
open Jvm Jvm.ClassFile Sem Op Lib Jvm.Free Jvm.Stand Jvm.Pilot.@@N@@.Jvm.D
/-! MADE BY PROGRAM (witnessworld.py) out of the Statement's table words and the real class files: 27 classes; the members and pool entries that the words name. The judged class is class 1, her method 2. -/
namespace start1
open Jvm.ClassFile
def u (s : String) : CpInfo := .utf8 (stringToUtf16 s)
/-- a pool by its gaps: so many unusable entries, then the entry; so many at the end -/
def gap : Nat → List CpInfo → List CpInfo
  | 0, r => r
  | n + 1, r => .unusable :: gap n r
def poolList (es : List (Nat × CpInfo)) (last : Nat) : List CpInfo := es.foldr (fun e r => gap e.1 (e.2 :: r)) (gap last [])
def pool (es : List (Nat × CpInfo)) (last : Nat) : Array CpInfo := ⟨poolList es last⟩
def fileOf (pool : Array CpInfo) (this : Nat) (attrs : Array Attribute := #[]) (ms : Array MethodInfo := #[]) (fl : Nat := 33) (sup : Nat := 0) (ifs : Array Nat := #[]) (fds : Array FieldInfo := #[]) : ClassFile where
  minorVersion := 0
  majorVersion := 65
  constantPool := pool
  accessFlags := fl
  thisClass := this
  superClass := sup
  interfaces := ifs
  fields := fds
  methods := ms
  attributes := attrs
def plain (name : String) (sup : Option ClassId) : Class where
  name := name
  kind := .ordinary
  loader := none
  accessFlags := 33
  super := sup
  interfaces := #[]
  cf := none
  fields := #[]
  methods := #[]
  instanceTypes := #[]
  staticTypes := #[]
  resolved := #[]
  callSites := []
  init := .initialized
  statics := none
  mirror := none

def pool0 : Array CpInfo := pool [(5, u "<init>"), (0, u "()V"), (1, .class_ 10), (1, u "java/lang/Object"), (85, u "clone"), (0, u "()Ljava/lang/Object;")] 26

def k0c0 : Code := { maxStack := 0, maxLocals := 1, code := object_method_1_code, exceptionTable := #[], attributes := #[] }
def k0m0 : Method := { name := "<init>", desc := "()V", sig := { parameters := [], returnType := none }, accessFlags := 1, code := some k0c0 }
def k0m1 : Method := { name := "clone", desc := "()Ljava/lang/Object;", sig := { parameters := [], returnType := some (.object "java/lang/Object") }, accessFlags := 260, code := none }
/-- java/lang/Object -/
def k0 : Class := { plain "java/lang/Object" none with
  accessFlags := 33
  interfaces := #[]
  cf := some (fileOf pool0 8 #[] #[{ accessFlags := 1, nameIndex := 5, descriptorIndex := 6, attributes := #[] }, { accessFlags := 260, nameIndex := 96, descriptorIndex := 97, attributes := #[] }] 33 0 #[] #[])
  fields := #[]
  methods := #[k0m0, k0m1]
  instanceTypes := #[]
  staticTypes := #[]
  resolved := Array.replicate 124 none
  statics := none }

def pool1 : Array CpInfo := pool [(2, .class_ 4), (1, u "java/lang/Object"), (0, u "<init>"), (0, u "()V"), (0, .integer 2147483647), (0, .methodref 9 10), (0, .class_ 11), (0, .nameAndType 12 13), (0, u "com/example/bdelloid/bdelloid/os/EnvironmentNamePinLaw"), (0, u "pick"), (0, u "(III)B"), (0, .methodref 15 16), (0, .class_ 17), (0, .nameAndType 18 19), (0, u "com/example/bdelloid/bdelloid/os/Environment"), (0, u "name"), (0, u "([B)Ljava/lang/String;"), (0, .methodref 21 22), (0, .class_ 23), (0, .nameAndType 24 25), (0, u "java/lang/String"), (0, u "length"), (0, u "()I"), (0, .methodref 21 27), (0, .nameAndType 28 29), (0, u "charAt"), (0, u "(I)C"), (3, u "law"), (0, u "(IIIIII)Z")] 4

def k1m0 : Method := { name := "<init>", desc := "()V", sig := { parameters := [], returnType := none }, accessFlags := 1, code := none }
def k1c1 : Code := { maxStack := 2, maxLocals := 3, code := method_2_code, exceptionTable := #[], attributes := #[] }
def k1m1 : Method := { name := "pick", desc := "(III)B", sig := { parameters := [.int, .int, .int], returnType := some .byte }, accessFlags := 10, code := some k1c1 }
def k1c2 : Code := { maxStack := 3, maxLocals := 15, code := code, exceptionTable := #[], attributes := #[] }
def k1m2 : Method := { name := "law", desc := "(IIIIII)Z", sig := { parameters := [.int, .int, .int, .int, .int, .int], returnType := some .boolean }, accessFlags := 9, code := some k1c2 }
/-- com/example/bdelloid/bdelloid/os/EnvironmentNamePinLaw -/
def k1 : Class := { plain "com/example/bdelloid/bdelloid/os/EnvironmentNamePinLaw" (some 0) with
  accessFlags := 49
  interfaces := #[]
  cf := some (fileOf pool1 9 #[] #[{ accessFlags := 1, nameIndex := 5, descriptorIndex := 6, attributes := #[] }, { accessFlags := 10, nameIndex := 12, descriptorIndex := 13, attributes := #[] }, { accessFlags := 9, nameIndex := 33, descriptorIndex := 34, attributes := #[] }] 49 2 #[] #[])
  fields := #[]
  methods := #[k1m0, k1m1, k1m2]
  instanceTypes := #[]
  staticTypes := #[]
  resolved := Array.replicate 39 none
  statics := none }

def pool2 : Array CpInfo := pool [(2, .class_ 4), (1, u "java/lang/Object"), (0, u "<init>"), (0, u "()V"), (21, .class_ 29), (0, u "java/lang/String"), (0, .fieldref 31 32), (0, .class_ 33), (0, .nameAndType 34 35), (0, u "java/nio/charset/StandardCharsets"), (0, u "ISO_8859_1"), (0, u "Ljava/nio/charset/Charset;"), (0, .methodref 28 37), (0, .nameAndType 5 38), (0, u "([BLjava/nio/charset/Charset;)V"), (0, .methodref 28 40), (0, .nameAndType 41 42), (0, u "indexOf"), (0, u "(I)I"), (0, .methodref 44 45), (0, .class_ 46), (0, .nameAndType 47 48), (0, u "java/lang/Math"), (0, u "max"), (0, u "(II)I"), (0, .methodref 28 50), (0, .nameAndType 51 52), (0, u "substring"), (0, u "(II)Ljava/lang/String;"), (39, .class_ 94), (1, u "com/example/bdelloid/bdelloid/os/Environment"), (0, u "name"), (0, u "([B)Ljava/lang/String;"), (3, u "PACKAGE_VARIABLE"), (0, u "Ljava/lang/String;"), (3, u "SERVICE_VARIABLE")] 57

def k2m0 : Method := { name := "<init>", desc := "()V", sig := { parameters := [], returnType := none }, accessFlags := 2, code := none }
def k2c1 : Code := { maxStack := 5, maxLocals := 2, code := prog_10_method_3_code, exceptionTable := #[], attributes := #[] }
def k2m1 : Method := { name := "name", desc := "([B)Ljava/lang/String;", sig := { parameters := [(.array .byte)], returnType := some (.object "java/lang/String") }, accessFlags := 8, code := some k2c1 }
/-- com/example/bdelloid/bdelloid/os/Environment -/
def k2 : Class := { plain "com/example/bdelloid/bdelloid/os/Environment" (some 0) with
  accessFlags := 32
  interfaces := #[]
  cf := some (fileOf pool2 92 #[] #[{ accessFlags := 2, nameIndex := 5, descriptorIndex := 6, attributes := #[] }, { accessFlags := 8, nameIndex := 95, descriptorIndex := 96, attributes := #[] }] 32 2 #[] #[{ accessFlags := 24, nameIndex := 100, descriptorIndex := 101, attributes := #[] }, { accessFlags := 24, nameIndex := 105, descriptorIndex := 101, attributes := #[] }])
  fields := #[{ name := "PACKAGE_VARIABLE", type := (.object "java/lang/String"), accessFlags := 24, slot := 0, constantValue := 0 }, { name := "SERVICE_VARIABLE", type := (.object "java/lang/String"), accessFlags := 24, slot := 1, constantValue := 0 }]
  methods := #[k2m0, k2m1]
  instanceTypes := #[]
  staticTypes := #[(.object "java/lang/String"), (.object "java/lang/String")]
  resolved := Array.replicate 163 none
  statics := none }

def pool3 : Array CpInfo := pool [(1, .class_ 2), (0, u "java/io/Serializable"), (0, .class_ 4), (0, u "java/lang/Object")] 2

/-- java/io/Serializable -/
def k3 : Class := { plain "java/io/Serializable" (some 0) with
  accessFlags := 1537
  interfaces := #[]
  cf := some (fileOf pool3 1 #[] #[] 1537 3 #[] #[])
  fields := #[]
  methods := #[]
  instanceTypes := #[]
  staticTypes := #[]
  resolved := Array.replicate 7 none
  statics := none }

def pool4 : Array CpInfo := pool [(1, .class_ 2), (0, u "java/lang/Comparable"), (0, .class_ 4), (0, u "java/lang/Object")] 7

/-- java/lang/Comparable -/
def k4 : Class := { plain "java/lang/Comparable" (some 0) with
  accessFlags := 1537
  interfaces := #[]
  cf := some (fileOf pool4 1 #[] #[] 1537 3 #[] #[])
  fields := #[]
  methods := #[]
  instanceTypes := #[]
  staticTypes := #[]
  resolved := Array.replicate 12 none
  statics := none }

def pool5 : Array CpInfo := pool [(2, .class_ 4), (1, u "java/lang/CharSequence"), (42, .class_ 48), (0, u "java/lang/CharSequence$1CodePointIterator"), (10, .class_ 60), (0, u "java/lang/CharSequence$1CharIterator"), (5, .class_ 67), (0, u "java/lang/Object")] 63

/-- java/lang/CharSequence -/
def k5 : Class := { plain "java/lang/CharSequence" (some 0) with
  accessFlags := 1537
  interfaces := #[]
  cf := some (fileOf pool5 2 #[.nestMembers #[47, 59]] #[] 1537 66 #[] #[])
  fields := #[]
  methods := #[]
  instanceTypes := #[]
  staticTypes := #[]
  resolved := Array.replicate 131 none
  statics := none }

def pool6 : Array CpInfo := pool [(1, .class_ 2), (0, u "java/lang/constant/Constable"), (0, .class_ 4), (0, u "java/lang/Object")] 6

/-- java/lang/constant/Constable -/
def k6 : Class := { plain "java/lang/constant/Constable" (some 0) with
  accessFlags := 1537
  interfaces := #[]
  cf := some (fileOf pool6 1 #[] #[] 1537 3 #[] #[])
  fields := #[]
  methods := #[]
  instanceTypes := #[]
  staticTypes := #[]
  resolved := Array.replicate 11 none
  statics := none }

def pool7 : Array CpInfo := pool [(1, .class_ 2), (0, u "java/lang/constant/ConstantDesc"), (0, .class_ 4), (0, u "java/lang/Object")] 32

/-- java/lang/constant/ConstantDesc -/
def k7 : Class := { plain "java/lang/constant/ConstantDesc" (some 0) with
  accessFlags := 1537
  interfaces := #[]
  cf := some (fileOf pool7 1 #[] #[] 1537 3 #[] #[])
  fields := #[]
  methods := #[]
  instanceTypes := #[]
  staticTypes := #[]
  resolved := Array.replicate 37 none
  statics := none }

def pool8 : Array CpInfo := pool [(1, .methodref 2 3), (0, .class_ 4), (0, .nameAndType 5 6), (0, u "java/lang/Object"), (0, u "<init>"), (0, u "()V"), (0, .string 8), (0, u ""), (0, .fieldref 10 11), (0, .class_ 12), (0, .nameAndType 13 14), (0, u "java/lang/String"), (0, u "value"), (0, u "[B"), (0, .fieldref 10 16), (0, .nameAndType 17 18), (0, u "coder"), (0, u "B"), (2, u "hash"), (0, u "I"), (2, u "hashIsZero"), (0, u "Z"), (11, .fieldref 10 39), (0, .nameAndType 40 26), (0, u "COMPACT_STRINGS"), (13, .methodref 55 56), (0, .class_ 57), (0, .nameAndType 58 59), (0, u "java/util/Arrays"), (0, u "copyOfRange"), (0, u "([BII)[B"), (15, .methodref 10 76), (0, .nameAndType 5 77), (0, u "(Ljava/nio/charset/Charset;[BII)V"), (0, .methodref 79 80), (0, .class_ 81), (0, .nameAndType 82 83), (0, u "java/util/Objects"), (0, u "requireNonNull"), (0, u "(Ljava/lang/Object;)Ljava/lang/Object;"), (0, .class_ 85), (0, u "java/nio/charset/Charset"), (0, .fieldref 87 88), (0, .class_ 89), (0, .nameAndType 90 91), (0, u "sun/nio/cs/UTF_8"), (0, u "INSTANCE"), (0, u "Lsun/nio/cs/UTF_8;"), (15, .class_ 109), (1, u "java/lang/StringLatin1"), (6, .fieldref 117 118), (0, .class_ 119), (0, .nameAndType 90 120), (0, u "sun/nio/cs/ISO_8859_1"), (0, u "Lsun/nio/cs/ISO_8859_1;"), (21, u "()Z"), (68, u "([BB)V"), (122, u "()I"), (0, .methodref 10 336), (0, .nameAndType 17 337), (0, u "()B"), (25, u "([BI)C"), (27, u "(II)V"), (35, u "(I)C"), (64, .methodref 10 493), (0, .nameAndType 494 142), (0, u "isLatin1"), (0, .methodref 107 496), (0, .nameAndType 497 363), (0, u "charAt"), (3, u "checkIndex"), (3, .methodref 10 506), (0, .nameAndType 507 334), (0, u "length"), (5, u "checkFromToIndex"), (7, .methodref 10 522), (0, .nameAndType 523 524), (0, u "checkBoundsBeginEnd"), (0, u "(III)V"), (50, .class_ 576), (0, u "java/lang/CharSequence"), (22, u "CASE_INSENSITIVE_ORDER"), (0, u "Ljava/util/Comparator;"), (32, .methodref 10 634), (0, .nameAndType 635 636), (0, u "indexOf"), (0, u "(II)I"), (0, .methodref 107 638), (0, .nameAndType 635 639), (0, u "([BIII)I"), (43, u "substring"), (0, u "(II)Ljava/lang/String;"), (0, .methodref 107 686), (0, .nameAndType 687 688), (0, u "newString"), (0, u "([BII)Ljava/lang/String;"), (76, u "(I)I"), (287, .fieldref 1054 1055), (0, .class_ 1056), (0, .nameAndType 1057 1058), (0, u "jdk/internal/util/Preconditions"), (0, u "SIOOBE_FORMATTER"), (0, u "Ljava/util/function/BiFunction;"), (0, .methodref 1054 1060), (0, .nameAndType 501 1061), (0, u "(IILjava/util/function/BiFunction;)I"), (0, .methodref 1054 1063), (0, .nameAndType 513 1064), (0, u "(IIILjava/util/function/BiFunction;)I"), (36, u "serialPersistentFields"), (0, u "[Ljava/io/ObjectStreamField;"), (0, .class_ 1104), (0, u "java/lang/String$CaseInsensitiveComparator"), (1, .class_ 1107), (0, u "java/io/Serializable"), (0, .class_ 1109), (0, u "java/lang/Comparable"), (0, .class_ 1111), (0, u "java/lang/constant/Constable"), (0, .class_ 1113), (0, u "java/lang/constant/ConstantDesc"), (2, u "serialVersionUID"), (0, u "J"), (3, u "REPL"), (0, u "C"), (2, u "LATIN1"), (1, u "UTF16"), (101, u "([BLjava/nio/charset/Charset;)V")] 221

def k8m0 : Method := { name := "<init>", desc := "()V", sig := { parameters := [], returnType := none }, accessFlags := 1, code := none }
def k8c1 : Code := { maxStack := 6, maxLocals := 11, code := jdk_42_method_11_code, exceptionTable := #[{ startPc := 800, endPc := 813, handlerPc := 816, catchType := 202 }], attributes := #[] }
def k8m1 : Method := { name := "<init>", desc := "(Ljava/nio/charset/Charset;[BII)V", sig := { parameters := [(.object "java/nio/charset/Charset"), (.array .byte), .int, .int], returnType := none }, accessFlags := 2, code := some k8c1 }
def k8c2 : Code := { maxStack := 5, maxLocals := 3, code := jdk_42_method_49_code, exceptionTable := #[], attributes := #[] }
def k8m2 : Method := { name := "<init>", desc := "([BLjava/nio/charset/Charset;)V", sig := { parameters := [(.array .byte), (.object "java/nio/charset/Charset")], returnType := none }, accessFlags := 1, code := some k8c2 }
def k8c3 : Code := { maxStack := 2, maxLocals := 1, code := jdk_42_method_54_code, exceptionTable := #[], attributes := #[] }
def k8m3 : Method := { name := "length", desc := "()I", sig := { parameters := [], returnType := some .int }, accessFlags := 1, code := some k8c3 }
def k8c4 : Code := { maxStack := 2, maxLocals := 2, code := jdk_42_method_56_code, exceptionTable := #[], attributes := #[] }
def k8m4 : Method := { name := "charAt", desc := "(I)C", sig := { parameters := [.int], returnType := some .char }, accessFlags := 1, code := some k8c4 }
def k8c5 : Code := { maxStack := 3, maxLocals := 2, code := jdk_42_method_79_code, exceptionTable := #[], attributes := #[] }
def k8m5 : Method := { name := "indexOf", desc := "(I)I", sig := { parameters := [.int], returnType := some .int }, accessFlags := 1, code := some k8c5 }
def k8c6 : Code := { maxStack := 4, maxLocals := 3, code := jdk_42_method_80_code, exceptionTable := #[], attributes := #[] }
def k8m6 : Method := { name := "indexOf", desc := "(II)I", sig := { parameters := [.int, .int], returnType := some .int }, accessFlags := 1, code := some k8c6 }
def k8c7 : Code := { maxStack := 3, maxLocals := 5, code := jdk_42_method_92_code, exceptionTable := #[], attributes := #[] }
def k8m7 : Method := { name := "substring", desc := "(II)Ljava/lang/String;", sig := { parameters := [.int, .int], returnType := some (.object "java/lang/String") }, accessFlags := 1, code := some k8c7 }
def k8c8 : Code := { maxStack := 2, maxLocals := 3, code := jdk_42_method_151_code, exceptionTable := #[], attributes := #[] }
def k8m8 : Method := { name := "<init>", desc := "([BB)V", sig := { parameters := [(.array .byte), .byte], returnType := none }, accessFlags := 0, code := some k8c8 }
def k8c9 : Code := { maxStack := 1, maxLocals := 1, code := jdk_42_method_152_code, exceptionTable := #[], attributes := #[] }
def k8m9 : Method := { name := "coder", desc := "()B", sig := { parameters := [], returnType := some .byte }, accessFlags := 0, code := some k8c9 }
def k8c10 : Code := { maxStack := 1, maxLocals := 1, code := jdk_42_method_154_code, exceptionTable := #[], attributes := #[] }
def k8m10 : Method := { name := "isLatin1", desc := "()Z", sig := { parameters := [], returnType := some .boolean }, accessFlags := 0, code := some k8c10 }
def k8c11 : Code := { maxStack := 3, maxLocals := 2, code := jdk_42_method_155_code, exceptionTable := #[], attributes := #[] }
def k8m11 : Method := { name := "checkIndex", desc := "(II)V", sig := { parameters := [.int, .int], returnType := none }, accessFlags := 8, code := some k8c11 }
def k8c12 : Code := { maxStack := 4, maxLocals := 3, code := jdk_42_method_158_code, exceptionTable := #[], attributes := #[] }
def k8m12 : Method := { name := "checkBoundsBeginEnd", desc := "(III)V", sig := { parameters := [.int, .int, .int], returnType := none }, accessFlags := 8, code := some k8c12 }
/-- java/lang/String -/
def k8 : Class := { plain "java/lang/String" (some 0) with
  accessFlags := 49
  interfaces := #[3, 4, 5, 6, 7]
  cf := some (fileOf pool8 10 #[.nestMembers #[1103]] #[{ accessFlags := 1, nameIndex := 5, descriptorIndex := 6, attributes := #[] }, { accessFlags := 2, nameIndex := 5, descriptorIndex := 77, attributes := #[] }, { accessFlags := 1, nameIndex := 5, descriptorIndex := 1229, attributes := #[] }, { accessFlags := 1, nameIndex := 507, descriptorIndex := 334, attributes := #[] }, { accessFlags := 1, nameIndex := 497, descriptorIndex := 427, attributes := #[] }, { accessFlags := 1, nameIndex := 635, descriptorIndex := 765, attributes := #[] }, { accessFlags := 1, nameIndex := 635, descriptorIndex := 636, attributes := #[] }, { accessFlags := 1, nameIndex := 683, descriptorIndex := 684, attributes := #[] }, { accessFlags := 0, nameIndex := 5, descriptorIndex := 211, attributes := #[] }, { accessFlags := 0, nameIndex := 17, descriptorIndex := 337, attributes := #[] }, { accessFlags := 0, nameIndex := 494, descriptorIndex := 142, attributes := #[] }, { accessFlags := 8, nameIndex := 501, descriptorIndex := 391, attributes := #[] }, { accessFlags := 8, nameIndex := 523, descriptorIndex := 524, attributes := #[] }] 49 2 #[1106, 1108, 575, 1110, 1112] #[{ accessFlags := 18, nameIndex := 13, descriptorIndex := 14, attributes := #[] }, { accessFlags := 18, nameIndex := 17, descriptorIndex := 18, attributes := #[] }, { accessFlags := 2, nameIndex := 21, descriptorIndex := 22, attributes := #[] }, { accessFlags := 2, nameIndex := 25, descriptorIndex := 26, attributes := #[] }, { accessFlags := 26, nameIndex := 1116, descriptorIndex := 1117, attributes := #[] }, { accessFlags := 24, nameIndex := 40, descriptorIndex := 26, attributes := #[] }, { accessFlags := 26, nameIndex := 1101, descriptorIndex := 1102, attributes := #[] }, { accessFlags := 26, nameIndex := 1121, descriptorIndex := 1122, attributes := #[] }, { accessFlags := 25, nameIndex := 599, descriptorIndex := 600, attributes := #[] }, { accessFlags := 24, nameIndex := 1125, descriptorIndex := 18, attributes := #[] }, { accessFlags := 24, nameIndex := 1127, descriptorIndex := 18, attributes := #[] }])
  fields := #[{ name := "value", type := (.array .byte), accessFlags := 18, slot := 0, constantValue := 0 }, { name := "coder", type := .byte, accessFlags := 18, slot := 1, constantValue := 0 }, { name := "hash", type := .int, accessFlags := 2, slot := 2, constantValue := 0 }, { name := "hashIsZero", type := .boolean, accessFlags := 2, slot := 3, constantValue := 0 }, { name := "serialVersionUID", type := .long, accessFlags := 26, slot := 0, constantValue := 0 }, { name := "COMPACT_STRINGS", type := .boolean, accessFlags := 24, slot := 1, constantValue := 0 }, { name := "serialPersistentFields", type := (.array (.object "java/io/ObjectStreamField")), accessFlags := 26, slot := 2, constantValue := 0 }, { name := "REPL", type := .char, accessFlags := 26, slot := 3, constantValue := 0 }, { name := "CASE_INSENSITIVE_ORDER", type := (.object "java/util/Comparator"), accessFlags := 25, slot := 4, constantValue := 0 }, { name := "LATIN1", type := .byte, accessFlags := 24, slot := 5, constantValue := 0 }, { name := "UTF16", type := .byte, accessFlags := 24, slot := 6, constantValue := 0 }]
  methods := #[k8m0, k8m1, k8m2, k8m3, k8m4, k8m5, k8m6, k8m7, k8m8, k8m9, k8m10, k8m11, k8m12]
  instanceTypes := #[(.array .byte), .byte, .int, .boolean]
  staticTypes := #[.long, .boolean, (.array (.object "java/io/ObjectStreamField")), .char, (.object "java/util/Comparator"), .byte, .byte]
  resolved := Array.replicate 1451 none
  statics := some 0 }

def pool9 : Array CpInfo := pool [(2, .class_ 4), (1, u "java/lang/Object"), (0, u "<init>"), (0, u "()V"), (14, .class_ 23), (1, u "java/nio/charset/StandardCharsets"), (0, u "US_ASCII"), (0, u "Ljava/nio/charset/Charset;"), (7, u "ISO_8859_1"), (7, u "UTF_8"), (5, u "UTF_16BE"), (5, u "UTF_16LE"), (5, u "UTF_16")] 8

def k9m0 : Method := { name := "<init>", desc := "()V", sig := { parameters := [], returnType := none }, accessFlags := 2, code := none }
/-- java/nio/charset/StandardCharsets -/
def k9 : Class := { plain "java/nio/charset/StandardCharsets" (some 0) with
  accessFlags := 49
  interfaces := #[]
  cf := some (fileOf pool9 21 #[] #[{ accessFlags := 2, nameIndex := 5, descriptorIndex := 6, attributes := #[] }] 49 2 #[] #[{ accessFlags := 25, nameIndex := 24, descriptorIndex := 25, attributes := #[] }, { accessFlags := 25, nameIndex := 33, descriptorIndex := 25, attributes := #[] }, { accessFlags := 25, nameIndex := 41, descriptorIndex := 25, attributes := #[] }, { accessFlags := 25, nameIndex := 47, descriptorIndex := 25, attributes := #[] }, { accessFlags := 25, nameIndex := 53, descriptorIndex := 25, attributes := #[] }, { accessFlags := 25, nameIndex := 59, descriptorIndex := 25, attributes := #[] }])
  fields := #[{ name := "US_ASCII", type := (.object "java/nio/charset/Charset"), accessFlags := 25, slot := 0, constantValue := 0 }, { name := "ISO_8859_1", type := (.object "java/nio/charset/Charset"), accessFlags := 25, slot := 1, constantValue := 0 }, { name := "UTF_8", type := (.object "java/nio/charset/Charset"), accessFlags := 25, slot := 2, constantValue := 0 }, { name := "UTF_16BE", type := (.object "java/nio/charset/Charset"), accessFlags := 25, slot := 3, constantValue := 0 }, { name := "UTF_16LE", type := (.object "java/nio/charset/Charset"), accessFlags := 25, slot := 4, constantValue := 0 }, { name := "UTF_16", type := (.object "java/nio/charset/Charset"), accessFlags := 25, slot := 5, constantValue := 0 }]
  methods := #[k9m0]
  instanceTypes := #[]
  staticTypes := #[(.object "java/nio/charset/Charset"), (.object "java/nio/charset/Charset"), (.object "java/nio/charset/Charset"), (.object "java/nio/charset/Charset"), (.object "java/nio/charset/Charset"), (.object "java/nio/charset/Charset")]
  resolved := Array.replicate 68 none
  statics := some 1 }

def pool10 : Array CpInfo := pool [(2, .class_ 4), (1, u "java/lang/Object"), (0, u "<init>"), (0, u "()V"), (35, .class_ 44), (1, u "java/util/Objects"), (0, u "requireNonNull"), (0, u "(Ljava/lang/Object;)Ljava/lang/Object;")] 137

def k10m0 : Method := { name := "<init>", desc := "()V", sig := { parameters := [], returnType := none }, accessFlags := 2, code := none }
def k10c1 : Code := { maxStack := 2, maxLocals := 1, code := jdk_31_method_10_code, exceptionTable := #[], attributes := #[] }
def k10m1 : Method := { name := "requireNonNull", desc := "(Ljava/lang/Object;)Ljava/lang/Object;", sig := { parameters := [(.object "java/lang/Object")], returnType := some (.object "java/lang/Object") }, accessFlags := 9, code := some k10c1 }
/-- java/util/Objects -/
def k10 : Class := { plain "java/util/Objects" (some 0) with
  accessFlags := 49
  interfaces := #[]
  cf := some (fileOf pool10 42 #[] #[{ accessFlags := 2, nameIndex := 5, descriptorIndex := 6, attributes := #[] }, { accessFlags := 9, nameIndex := 45, descriptorIndex := 46, attributes := #[] }] 49 2 #[] #[])
  fields := #[]
  methods := #[k10m0, k10m1]
  instanceTypes := #[]
  staticTypes := #[]
  resolved := Array.replicate 184 none
  statics := none }

def pool11 : Array CpInfo := pool [(18, .class_ 20), (1, u "java/nio/charset/Charset"), (0, u "cache1"), (0, u "[Ljava/lang/Object;"), (2, u "cache2"), (0, .class_ 27), (0, u "java/lang/Object"), (0, .class_ 29), (0, u "java/nio/charset/Charset$1"), (4, .class_ 36), (1, u "java/nio/charset/Charset$ThreadTrackHolder"), (21, .class_ 59), (0, u "java/nio/charset/Charset$2"), (11, .class_ 73), (1, u "java/nio/charset/Charset$ExtendedProviderHolder"), (22, u "standardProvider"), (0, u "Ljava/nio/charset/spi/CharsetProvider;"), (29, u "name"), (7, .class_ 136), (0, u "java/nio/charset/Charset$3"), (5, u "defaultCharset"), (0, u "Ljava/nio/charset/Charset;"), (14, u "zeroAliases"), (0, u "[Ljava/lang/String;"), (29, u "Ljava/lang/String;"), (2, u "aliases"), (2, u "aliasSet"), (0, u "Ljava/util/Set;"), (82, .class_ 280), (0, u "java/lang/Comparable"), (84, .class_ 366), (0, u "java/nio/charset/Charset$ExtendedProviderHolder$1")] 3

/-- java/nio/charset/Charset -/
def k11 : Class := { plain "java/nio/charset/Charset" (some 0) with
  accessFlags := 1057
  interfaces := #[4]
  cf := some (fileOf pool11 18 #[.nestMembers #[71, 365, 34, 135, 58, 28]] #[] 1057 26 #[279] #[{ accessFlags := 26, nameIndex := 96, descriptorIndex := 97, attributes := #[] }, { accessFlags := 26, nameIndex := 158, descriptorIndex := 159, attributes := #[] }, { accessFlags := 74, nameIndex := 21, descriptorIndex := 22, attributes := #[] }, { accessFlags := 74, nameIndex := 25, descriptorIndex := 22, attributes := #[] }, { accessFlags := 10, nameIndex := 142, descriptorIndex := 143, attributes := #[] }, { accessFlags := 18, nameIndex := 127, descriptorIndex := 189, attributes := #[] }, { accessFlags := 18, nameIndex := 192, descriptorIndex := 159, attributes := #[] }, { accessFlags := 2, nameIndex := 195, descriptorIndex := 196, attributes := #[] }])
  fields := #[{ name := "standardProvider", type := (.object "java/nio/charset/spi/CharsetProvider"), accessFlags := 26, slot := 0, constantValue := 0 }, { name := "zeroAliases", type := (.array (.object "java/lang/String")), accessFlags := 26, slot := 1, constantValue := 0 }, { name := "cache1", type := (.array (.object "java/lang/Object")), accessFlags := 74, slot := 2, constantValue := 0 }, { name := "cache2", type := (.array (.object "java/lang/Object")), accessFlags := 74, slot := 3, constantValue := 0 }, { name := "defaultCharset", type := (.object "java/nio/charset/Charset"), accessFlags := 10, slot := 4, constantValue := 0 }, { name := "name", type := (.object "java/lang/String"), accessFlags := 18, slot := 0, constantValue := 0 }, { name := "aliases", type := (.array (.object "java/lang/String")), accessFlags := 18, slot := 1, constantValue := 0 }, { name := "aliasSet", type := (.object "java/util/Set"), accessFlags := 2, slot := 2, constantValue := 0 }]
  methods := #[]
  instanceTypes := #[(.object "java/lang/String"), (.array (.object "java/lang/String")), (.object "java/util/Set")]
  staticTypes := #[(.object "java/nio/charset/spi/CharsetProvider"), (.array (.object "java/lang/String")), (.array (.object "java/lang/Object")), (.array (.object "java/lang/Object")), (.object "java/nio/charset/Charset")]
  resolved := Array.replicate 370 none
  statics := none }

def pool12 : Array CpInfo := pool [(1, .class_ 2), (0, u "sun/nio/cs/HistoricallyNamedCharset"), (0, .class_ 4), (0, u "java/lang/Object")] 4

/-- sun/nio/cs/HistoricallyNamedCharset -/
def k12 : Class := { plain "sun/nio/cs/HistoricallyNamedCharset" (some 0) with
  accessFlags := 1537
  interfaces := #[]
  cf := some (fileOf pool12 1 #[] #[] 1537 3 #[] #[])
  fields := #[]
  methods := #[]
  instanceTypes := #[]
  staticTypes := #[]
  resolved := Array.replicate 9 none
  statics := none }

def pool13 : Array CpInfo := pool [(10, .class_ 12), (1, u "java/nio/charset/Charset"), (0, u "<init>"), (5, .class_ 20), (0, u "sun/nio/cs/ISO_8859_1"), (0, .class_ 22), (0, u "sun/nio/cs/ISO_8859_1$Decoder"), (3, .class_ 27), (0, u "sun/nio/cs/ISO_8859_1$Encoder"), (3, u "()V"), (2, u "INSTANCE"), (0, u "Lsun/nio/cs/ISO_8859_1;"), (0, .class_ 37), (0, u "sun/nio/cs/HistoricallyNamedCharset")] 22

def k13m0 : Method := { name := "<init>", desc := "()V", sig := { parameters := [], returnType := none }, accessFlags := 1, code := none }
/-- sun/nio/cs/ISO_8859_1 -/
def k13 : Class := { plain "sun/nio/cs/ISO_8859_1" (some 11) with
  accessFlags := 33
  interfaces := #[12]
  cf := some (fileOf pool13 19 #[.nestMembers #[26, 21]] #[{ accessFlags := 1, nameIndex := 13, descriptorIndex := 31, attributes := #[] }] 33 10 #[36] #[{ accessFlags := 25, nameIndex := 34, descriptorIndex := 35, attributes := #[] }])
  fields := #[{ name := "INSTANCE", type := (.object "sun/nio/cs/ISO_8859_1"), accessFlags := 25, slot := 0, constantValue := 0 }]
  methods := #[k13m0]
  instanceTypes := #[(.object "java/lang/String"), (.array (.object "java/lang/String")), (.object "java/util/Set")]
  staticTypes := #[(.object "sun/nio/cs/ISO_8859_1")]
  resolved := Array.replicate 60 none
  statics := some 2 }

def pool14 : Array CpInfo := pool [(1, .class_ 2), (0, u "java/lang/String"), (1, .class_ 6), (1, u "java/lang/Object"), (0, u "<init>"), (0, u "()V"), (0, .methodref 1 10), (0, .nameAndType 11 12), (0, u "checkIndex"), (0, u "(II)V"), (1, .class_ 16), (1, u "java/lang/StringLatin1"), (21, .methodref 39 40), (0, .class_ 41), (0, .nameAndType 42 43), (0, u "java/lang/Math"), (0, u "min"), (0, u "(II)I"), (9, u "([BI)C"), (34, .methodref 14 89), (0, .nameAndType 90 91), (0, u "canEncode"), (0, u "(I)Z"), (0, .methodref 39 93), (0, .nameAndType 94 43), (0, u "max"), (0, .methodref 14 96), (0, .nameAndType 97 98), (0, u "indexOfChar"), (0, u "([BIII)I"), (2, u "indexOf"), (10, .methodref 1 113), (0, .nameAndType 7 114), (0, u "([BB)V"), (6, u "$assertionsDisabled"), (0, u "Z"), (8, .class_ 133), (1, u "java/util/Arrays"), (17, .string 152), (0, u ""), (43, u "newString"), (0, u "([BII)Ljava/lang/String;"), (23, .class_ 223), (1, u "java/lang/StringLatin1$LinesSpliterator"), (8, .methodref 131 233), (0, .nameAndType 234 235), (0, u "copyOfRange"), (0, u "([BII)[B"), (16, u "charAt"), (137, .class_ 391), (0, u "java/lang/StringLatin1$CharsSpliterator")] 3

def k14m0 : Method := { name := "<init>", desc := "()V", sig := { parameters := [], returnType := none }, accessFlags := 0, code := none }
def k14c1 : Code := { maxStack := 2, maxLocals := 2, code := jdk_43_method_2_code, exceptionTable := #[], attributes := #[] }
def k14m1 : Method := { name := "charAt", desc := "([BI)C", sig := { parameters := [(.array .byte), .int], returnType := some .char }, accessFlags := 9, code := some k14c1 }
def k14c2 : Code := { maxStack := 2, maxLocals := 1, code := jdk_43_method_4_code, exceptionTable := #[], attributes := #[] }
def k14m2 : Method := { name := "canEncode", desc := "(I)Z", sig := { parameters := [.int], returnType := some .boolean }, accessFlags := 9, code := some k14c2 }
def k14c3 : Code := { maxStack := 4, maxLocals := 4, code := jdk_43_method_22_code, exceptionTable := #[], attributes := #[] }
def k14m3 : Method := { name := "indexOf", desc := "([BIII)I", sig := { parameters := [(.array .byte), .int, .int, .int], returnType := some .int }, accessFlags := 9, code := some k14c3 }
def k14c4 : Code := { maxStack := 2, maxLocals := 6, code := jdk_43_method_23_code, exceptionTable := #[], attributes := #[] }
def k14m4 : Method := { name := "indexOfChar", desc := "([BIII)I", sig := { parameters := [(.array .byte), .int, .int, .int], returnType := some .int }, accessFlags := 10, code := some k14c4 }
def k14c5 : Code := { maxStack := 6, maxLocals := 3, code := jdk_43_method_47_code, exceptionTable := #[], attributes := #[] }
def k14m5 : Method := { name := "newString", desc := "([BII)Ljava/lang/String;", sig := { parameters := [(.array .byte), .int, .int], returnType := some (.object "java/lang/String") }, accessFlags := 9, code := some k14c5 }
/-- java/lang/StringLatin1 -/
def k14 : Class := { plain "java/lang/StringLatin1" (some 0) with
  accessFlags := 48
  interfaces := #[]
  cf := some (fileOf pool14 14 #[.nestMembers #[390, 221]] #[{ accessFlags := 0, nameIndex := 7, descriptorIndex := 8, attributes := #[] }, { accessFlags := 9, nameIndex := 252, descriptorIndex := 53, attributes := #[] }, { accessFlags := 9, nameIndex := 90, descriptorIndex := 91, attributes := #[] }, { accessFlags := 9, nameIndex := 101, descriptorIndex := 98, attributes := #[] }, { accessFlags := 10, nameIndex := 97, descriptorIndex := 98, attributes := #[] }, { accessFlags := 9, nameIndex := 196, descriptorIndex := 197, attributes := #[] }] 48 4 #[] #[{ accessFlags := 4120, nameIndex := 121, descriptorIndex := 122, attributes := #[] }])
  fields := #[{ name := "$assertionsDisabled", type := .boolean, accessFlags := 4120, slot := 0, constantValue := 0 }]
  methods := #[k14m0, k14m1, k14m2, k14m3, k14m4, k14m5]
  instanceTypes := #[]
  staticTypes := #[.boolean]
  resolved := Array.replicate 395 none
  statics := none }

def pool15 : Array CpInfo := pool [(1, .class_ 2), (0, u "java/lang/Math"), (1, .class_ 6), (1, u "java/lang/Object"), (0, u "<init>"), (0, u "()V"), (89, .class_ 100), (1, u "java/lang/Math$RandomNumberGeneratorHolder"), (71, u "negativeZeroFloatBits"), (0, u "J"), (2, u "negativeZeroDoubleBits"), (21, u "max"), (2, u "min"), (43, u "$assertionsDisabled"), (0, u "Z"), (88, u "(II)I"), (2, u "twoToTheDoubleScaleDown"), (0, u "D"), (4, u "twoToTheDoubleScaleUp"), (9, u "E"), (3, u "PI"), (2, u "TAU"), (2, u "DEGREES_TO_RADIANS"), (0, u "RADIANS_TO_DEGREES")] 94

def k15m0 : Method := { name := "<init>", desc := "()V", sig := { parameters := [], returnType := none }, accessFlags := 2, code := none }
def k15c1 : Code := { maxStack := 2, maxLocals := 2, code := jdk_29_method_65_code, exceptionTable := #[], attributes := #[] }
def k15m1 : Method := { name := "max", desc := "(II)I", sig := { parameters := [.int, .int], returnType := some .int }, accessFlags := 9, code := some k15c1 }
def k15c2 : Code := { maxStack := 2, maxLocals := 2, code := jdk_29_method_69_code, exceptionTable := #[], attributes := #[] }
def k15m2 : Method := { name := "min", desc := "(II)I", sig := { parameters := [.int, .int], returnType := some .int }, accessFlags := 9, code := some k15c2 }
/-- java/lang/Math -/
def k15 : Class := { plain "java/lang/Math" (some 0) with
  accessFlags := 49
  interfaces := #[]
  cf := some (fileOf pool15 1 #[.nestMembers #[98]] #[{ accessFlags := 2, nameIndex := 7, descriptorIndex := 8, attributes := #[] }, { accessFlags := 9, nameIndex := 198, descriptorIndex := 335, attributes := #[] }, { accessFlags := 9, nameIndex := 201, descriptorIndex := 335, attributes := #[] }] 49 4 #[] #[{ accessFlags := 25, nameIndex := 354, descriptorIndex := 339, attributes := #[] }, { accessFlags := 25, nameIndex := 358, descriptorIndex := 339, attributes := #[] }, { accessFlags := 25, nameIndex := 361, descriptorIndex := 339, attributes := #[] }, { accessFlags := 26, nameIndex := 364, descriptorIndex := 339, attributes := #[] }, { accessFlags := 26, nameIndex := 365, descriptorIndex := 339, attributes := #[] }, { accessFlags := 26, nameIndex := 172, descriptorIndex := 173, attributes := #[] }, { accessFlags := 26, nameIndex := 176, descriptorIndex := 173, attributes := #[] }, { accessFlags := 8, nameIndex := 344, descriptorIndex := 339, attributes := #[] }, { accessFlags := 8, nameIndex := 338, descriptorIndex := 339, attributes := #[] }, { accessFlags := 4120, nameIndex := 245, descriptorIndex := 246, attributes := #[] }])
  fields := #[{ name := "E", type := .double, accessFlags := 25, slot := 0, constantValue := 0 }, { name := "PI", type := .double, accessFlags := 25, slot := 1, constantValue := 0 }, { name := "TAU", type := .double, accessFlags := 25, slot := 2, constantValue := 0 }, { name := "DEGREES_TO_RADIANS", type := .double, accessFlags := 26, slot := 3, constantValue := 0 }, { name := "RADIANS_TO_DEGREES", type := .double, accessFlags := 26, slot := 4, constantValue := 0 }, { name := "negativeZeroFloatBits", type := .long, accessFlags := 26, slot := 5, constantValue := 0 }, { name := "negativeZeroDoubleBits", type := .long, accessFlags := 26, slot := 6, constantValue := 0 }, { name := "twoToTheDoubleScaleUp", type := .double, accessFlags := 8, slot := 7, constantValue := 0 }, { name := "twoToTheDoubleScaleDown", type := .double, accessFlags := 8, slot := 8, constantValue := 0 }, { name := "$assertionsDisabled", type := .boolean, accessFlags := 4120, slot := 9, constantValue := 0 }]
  methods := #[k15m0, k15m1, k15m2]
  instanceTypes := #[]
  staticTypes := #[.double, .double, .double, .double, .double, .long, .long, .double, .double, .boolean]
  resolved := Array.replicate 460 none
  statics := none }

def pool16 : Array CpInfo := pool [(2, .class_ 4), (1, u "java/lang/Object"), (0, u "<init>"), (0, u "()V"), (17, .class_ 26), (1, u "jdk/internal/util/Preconditions"), (6, u "checkIndex"), (13, u "checkFromToIndex"), (7, .class_ 56), (0, u "jdk/internal/util/Preconditions$4"), (57, .class_ 115), (0, u "jdk/internal/util/Preconditions$1"), (7, u "SIOOBE_FORMATTER"), (0, u "Ljava/util/function/BiFunction;"), (0, .class_ 126), (0, u "jdk/internal/util/Preconditions$2"), (3, u "AIOOBE_FORMATTER"), (0, .class_ 132), (0, u "jdk/internal/util/Preconditions$3"), (3, u "IOOBE_FORMATTER"), (41, u "(IILjava/util/function/BiFunction;)I"), (4, u "(IIILjava/util/function/BiFunction;)I")] 10

def k16m0 : Method := { name := "<init>", desc := "()V", sig := { parameters := [], returnType := none }, accessFlags := 1, code := none }
def k16c1 : Code := { maxStack := 3, maxLocals := 3, code := jdk_41_method_11_code, exceptionTable := #[], attributes := #[] }
def k16m1 : Method := { name := "checkIndex", desc := "(IILjava/util/function/BiFunction;)I", sig := { parameters := [.int, .int, (.object "java/util/function/BiFunction")], returnType := some .int }, accessFlags := 9, code := some k16c1 }
def k16c2 : Code := { maxStack := 4, maxLocals := 4, code := jdk_41_method_12_code, exceptionTable := #[], attributes := #[] }
def k16m2 : Method := { name := "checkFromToIndex", desc := "(IIILjava/util/function/BiFunction;)I", sig := { parameters := [.int, .int, .int, (.object "java/util/function/BiFunction")], returnType := some .int }, accessFlags := 9, code := some k16c2 }
/-- jdk/internal/util/Preconditions -/
def k16 : Class := { plain "jdk/internal/util/Preconditions" (some 0) with
  accessFlags := 33
  interfaces := #[]
  cf := some (fileOf pool16 24 #[.nestMembers #[55, 131, 125, 114]] #[{ accessFlags := 1, nameIndex := 5, descriptorIndex := 6, attributes := #[] }, { accessFlags := 9, nameIndex := 33, descriptorIndex := 178, attributes := #[] }, { accessFlags := 9, nameIndex := 47, descriptorIndex := 183, attributes := #[] }] 33 2 #[] #[{ accessFlags := 25, nameIndex := 123, descriptorIndex := 124, attributes := #[] }, { accessFlags := 25, nameIndex := 130, descriptorIndex := 124, attributes := #[] }, { accessFlags := 25, nameIndex := 136, descriptorIndex := 124, attributes := #[] }])
  fields := #[{ name := "SIOOBE_FORMATTER", type := (.object "java/util/function/BiFunction"), accessFlags := 25, slot := 0, constantValue := 0 }, { name := "AIOOBE_FORMATTER", type := (.object "java/util/function/BiFunction"), accessFlags := 25, slot := 1, constantValue := 0 }, { name := "IOOBE_FORMATTER", type := (.object "java/util/function/BiFunction"), accessFlags := 25, slot := 2, constantValue := 0 }]
  methods := #[k16m0, k16m1, k16m2]
  instanceTypes := #[]
  staticTypes := #[(.object "java/util/function/BiFunction"), (.object "java/util/function/BiFunction"), (.object "java/util/function/BiFunction")]
  resolved := Array.replicate 194 none
  statics := some 3 }

def pool17 : Array CpInfo := pool [(2, .class_ 4), (1, u "java/nio/charset/Charset"), (130, .class_ 136), (0, u "sun/nio/cs/Unicode"), (0, .class_ 138), (0, u "sun/nio/cs/HistoricallyNamedCharset")] 15

/-- sun/nio/cs/Unicode -/
def k17 : Class := { plain "sun/nio/cs/Unicode" (some 11) with
  accessFlags := 1056
  interfaces := #[12]
  cf := some (fileOf pool17 135 #[] #[] 1056 2 #[137] #[])
  fields := #[]
  methods := #[]
  instanceTypes := #[(.object "java/lang/String"), (.array (.object "java/lang/String")), (.object "java/util/Set")]
  staticTypes := #[]
  resolved := Array.replicate 154 none
  statics := none }

def pool18 : Array CpInfo := pool [(10, .class_ 12), (1, u "sun/nio/cs/Unicode"), (0, u "<init>"), (3, .class_ 18), (0, u "sun/nio/cs/UTF_8$Decoder"), (3, .class_ 23), (0, u "sun/nio/cs/UTF_8$Encoder"), (15, .class_ 40), (0, u "sun/nio/cs/UTF_8"), (2, u "()V"), (2, u "INSTANCE"), (0, u "Lsun/nio/cs/UTF_8;"), (8, u "JLA"), (0, u "Ljdk/internal/access/JavaLangAccess;")] 26

def k18m0 : Method := { name := "<init>", desc := "()V", sig := { parameters := [], returnType := none }, accessFlags := 1, code := none }
/-- sun/nio/cs/UTF_8 -/
def k18 : Class := { plain "sun/nio/cs/UTF_8" (some 17) with
  accessFlags := 49
  interfaces := #[]
  cf := some (fileOf pool18 39 #[.nestMembers #[22, 17]] #[{ accessFlags := 1, nameIndex := 13, descriptorIndex := 43, attributes := #[] }] 49 10 #[] #[{ accessFlags := 25, nameIndex := 46, descriptorIndex := 47, attributes := #[] }, { accessFlags := 26, nameIndex := 56, descriptorIndex := 57, attributes := #[] }])
  fields := #[{ name := "INSTANCE", type := (.object "sun/nio/cs/UTF_8"), accessFlags := 25, slot := 0, constantValue := 0 }, { name := "JLA", type := (.object "jdk/internal/access/JavaLangAccess"), accessFlags := 26, slot := 1, constantValue := 0 }]
  methods := #[k18m0]
  instanceTypes := #[(.object "java/lang/String"), (.array (.object "java/lang/String")), (.object "java/util/Set")]
  staticTypes := #[(.object "sun/nio/cs/UTF_8"), (.object "jdk/internal/access/JavaLangAccess")]
  resolved := Array.replicate 84 none
  statics := some 4 }

def pool19 : Array CpInfo := pool [(2, .class_ 4), (1, u "java/lang/Object"), (0, u "<init>"), (0, u "()V"), (7, .class_ 16), (1, u "java/util/Arrays"), (57, .class_ 76), (1, u "java/util/Arrays$NaturalOrder"), (32, u "()Ljava/lang/Object;"), (3, .class_ 115), (1, u "java/util/Arrays$LegacyMergeSort"), (1, u "Z"), (10, .nameAndType 129 109), (0, u "clone"), (9, u "copyOfRange"), (10, .methodref 151 152), (0, .class_ 153), (0, .nameAndType 154 155), (0, u "java/lang/System"), (0, u "arraycopy"), (0, u "(Ljava/lang/Object;ILjava/lang/Object;II)V"), (148, .methodref 305 306), (0, .class_ 307), (0, .nameAndType 308 309), (0, u "java/lang/Math"), (0, u "min"), (0, u "(II)I"), (0, .methodref 311 128), (0, .class_ 312), (0, u "[B"), (26, .methodref 14 340), (0, .nameAndType 341 342), (0, u "copyOfRangeByte"), (0, u "([BII)[B"), (0, .methodref 14 344), (0, .nameAndType 345 346), (0, u "checkLength"), (0, u "(II)V"), (28, .class_ 376), (0, u "java/util/Arrays$ArrayList"), (68, u "$assertionsDisabled"), (269, u "MIN_ARRAY_SORT_GRAN"), (0, u "I"), (2, u "INSERTIONSORT_THRESHOLD"), (255, .class_ 976), (0, u "java/util/Arrays$ArrayItr")] 52

def k19m0 : Method := { name := "<init>", desc := "()V", sig := { parameters := [], returnType := none }, accessFlags := 2, code := none }
def k19c1 : Code := { maxStack := 4, maxLocals := 2, code := jdk_65_method_131_code, exceptionTable := #[], attributes := #[] }
def k19m1 : Method := { name := "checkLength", desc := "(II)V", sig := { parameters := [.int, .int], returnType := none }, accessFlags := 10, code := some k19c1 }
def k19c2 : Code := { maxStack := 3, maxLocals := 3, code := jdk_65_method_132_code, exceptionTable := #[], attributes := #[] }
def k19m2 : Method := { name := "copyOfRange", desc := "([BII)[B", sig := { parameters := [(.array .byte), .int, .int], returnType := some (.array .byte) }, accessFlags := 9, code := some k19c2 }
def k19c3 : Code := { maxStack := 6, maxLocals := 5, code := jdk_65_method_133_code, exceptionTable := #[], attributes := #[] }
def k19m3 : Method := { name := "copyOfRangeByte", desc := "([BII)[B", sig := { parameters := [(.array .byte), .int, .int], returnType := some (.array .byte) }, accessFlags := 10, code := some k19c3 }
/-- java/util/Arrays -/
def k19 : Class := { plain "java/util/Arrays" (some 0) with
  accessFlags := 49
  interfaces := #[]
  cf := some (fileOf pool19 14 #[.nestMembers #[975, 375, 113, 74]] #[{ accessFlags := 2, nameIndex := 5, descriptorIndex := 6, attributes := #[] }, { accessFlags := 10, nameIndex := 345, descriptorIndex := 346, attributes := #[] }, { accessFlags := 9, nameIndex := 139, descriptorIndex := 342, attributes := #[] }, { accessFlags := 10, nameIndex := 341, descriptorIndex := 342, attributes := #[] }] 49 2 #[] #[{ accessFlags := 26, nameIndex := 715, descriptorIndex := 716, attributes := #[] }, { accessFlags := 26, nameIndex := 719, descriptorIndex := 716, attributes := #[] }, { accessFlags := 4120, nameIndex := 445, descriptorIndex := 117, attributes := #[] }])
  fields := #[{ name := "MIN_ARRAY_SORT_GRAN", type := .int, accessFlags := 26, slot := 0, constantValue := 0 }, { name := "INSERTIONSORT_THRESHOLD", type := .int, accessFlags := 26, slot := 1, constantValue := 0 }, { name := "$assertionsDisabled", type := .boolean, accessFlags := 4120, slot := 2, constantValue := 0 }]
  methods := #[k19m0, k19m1, k19m2, k19m3]
  instanceTypes := #[]
  staticTypes := #[.int, .int, .boolean]
  resolved := Array.replicate 1029 none
  statics := none }

def pool20 : Array CpInfo := pool [(1, .class_ 2), (0, u "java/lang/Cloneable"), (0, .class_ 4), (0, u "java/lang/Object")] 2

/-- java/lang/Cloneable -/
def k20 : Class := { plain "java/lang/Cloneable" (some 0) with
  accessFlags := 1537
  interfaces := #[]
  cf := some (fileOf pool20 1 #[] #[] 1537 3 #[] #[])
  fields := #[]
  methods := #[]
  instanceTypes := #[]
  staticTypes := #[]
  resolved := Array.replicate 7 none
  statics := none }

def pool21 : Array CpInfo := pool [(2, .class_ 4), (1, u "java/lang/Object"), (0, u "<init>"), (0, u "()V"), (1, .class_ 10), (1, u "java/lang/System"), (0, u "allowSecurityManager"), (0, u "I"), (16, u "cons"), (0, u "Ljava/io/Console;"), (77, .class_ 110), (1, u "java/lang/System$CallersHolder"), (43, u "initialErrStream"), (0, u "Ljava/io/PrintStream;"), (19, u "security"), (0, u "Ljava/lang/SecurityManager;"), (31, .class_ 209), (0, u "java/lang/System$1"), (7, u "props"), (0, u "Ljava/util/Properties;"), (2, u "lineSeparator"), (0, u "Ljava/lang/String;"), (96, .class_ 321), (1, u "java/lang/System$LoggerFinder"), (5, .class_ 328), (0, u "java/lang/System$Logger"), (67, u "err"), (2, u "out"), (91, u "notSupportedJnuEncoding"), (15, u "in"), (17, u "initialIn"), (0, u "Ljava/io/InputStream;"), (35, u "bootLayer"), (0, u "Ljava/lang/ModuleLayer;"), (99, .class_ 664), (0, u "java/lang/System$2"), (9, u "NEVER"), (2, u "MAYBE"), (49, u "arraycopy"), (0, u "(Ljava/lang/Object;ILjava/lang/Object;II)V"), (72, .class_ 802), (0, u "java/lang/System$Logger$Level")] 31

def k21m0 : Method := { name := "<init>", desc := "()V", sig := { parameters := [], returnType := none }, accessFlags := 2, code := none }
def k21m1 : Method := { name := "arraycopy", desc := "(Ljava/lang/Object;ILjava/lang/Object;II)V", sig := { parameters := [(.object "java/lang/Object"), .int, (.object "java/lang/Object"), .int, .int], returnType := none }, accessFlags := 265, code := none }
/-- java/lang/System -/
def k21 : Class := { plain "java/lang/System" (some 0) with
  accessFlags := 49
  interfaces := #[]
  cf := some (fileOf pool21 8 #[.nestMembers #[319, 327, 801, 108, 663, 208]] #[{ accessFlags := 2, nameIndex := 5, descriptorIndex := 6, attributes := #[] }, { accessFlags := 265, nameIndex := 727, descriptorIndex := 728, attributes := #[] }] 49 2 #[] #[{ accessFlags := 25, nameIndex := 507, descriptorIndex := 526, attributes := #[] }, { accessFlags := 25, nameIndex := 399, descriptorIndex := 155, attributes := #[] }, { accessFlags := 25, nameIndex := 396, descriptorIndex := 155, attributes := #[] }, { accessFlags := 10, nameIndex := 525, descriptorIndex := 526, attributes := #[] }, { accessFlags := 26, nameIndex := 674, descriptorIndex := 12, attributes := #[] }, { accessFlags := 26, nameIndex := 677, descriptorIndex := 12, attributes := #[] }, { accessFlags := 10, nameIndex := 11, descriptorIndex := 12, attributes := #[] }, { accessFlags := 74, nameIndex := 175, descriptorIndex := 176, attributes := #[] }, { accessFlags := 10, nameIndex := 491, descriptorIndex := 222, attributes := #[] }, { accessFlags := 74, nameIndex := 29, descriptorIndex := 30, attributes := #[] }, { accessFlags := 74, nameIndex := 154, descriptorIndex := 155, attributes := #[] }, { accessFlags := 10, nameIndex := 217, descriptorIndex := 218, attributes := #[] }, { accessFlags := 10, nameIndex := 221, descriptorIndex := 222, attributes := #[] }, { accessFlags := 8, nameIndex := 562, descriptorIndex := 563, attributes := #[] }])
  fields := #[{ name := "in", type := (.object "java/io/InputStream"), accessFlags := 25, slot := 0, constantValue := 0 }, { name := "out", type := (.object "java/io/PrintStream"), accessFlags := 25, slot := 1, constantValue := 0 }, { name := "err", type := (.object "java/io/PrintStream"), accessFlags := 25, slot := 2, constantValue := 0 }, { name := "initialIn", type := (.object "java/io/InputStream"), accessFlags := 10, slot := 3, constantValue := 0 }, { name := "NEVER", type := .int, accessFlags := 26, slot := 4, constantValue := 0 }, { name := "MAYBE", type := .int, accessFlags := 26, slot := 5, constantValue := 0 }, { name := "allowSecurityManager", type := .int, accessFlags := 10, slot := 6, constantValue := 0 }, { name := "security", type := (.object "java/lang/SecurityManager"), accessFlags := 74, slot := 7, constantValue := 0 }, { name := "notSupportedJnuEncoding", type := (.object "java/lang/String"), accessFlags := 10, slot := 8, constantValue := 0 }, { name := "cons", type := (.object "java/io/Console"), accessFlags := 74, slot := 9, constantValue := 0 }, { name := "initialErrStream", type := (.object "java/io/PrintStream"), accessFlags := 74, slot := 10, constantValue := 0 }, { name := "props", type := (.object "java/util/Properties"), accessFlags := 10, slot := 11, constantValue := 0 }, { name := "lineSeparator", type := (.object "java/lang/String"), accessFlags := 10, slot := 12, constantValue := 0 }, { name := "bootLayer", type := (.object "java/lang/ModuleLayer"), accessFlags := 8, slot := 13, constantValue := 0 }]
  methods := #[k21m0, k21m1]
  instanceTypes := #[]
  staticTypes := #[(.object "java/io/InputStream"), (.object "java/io/PrintStream"), (.object "java/io/PrintStream"), (.object "java/io/InputStream"), .int, .int, .int, (.object "java/lang/SecurityManager"), (.object "java/lang/String"), (.object "java/io/Console"), (.object "java/io/PrintStream"), (.object "java/util/Properties"), (.object "java/lang/String"), (.object "java/lang/ModuleLayer")]
  resolved := Array.replicate 834 none
  statics := none }

def pool22 : Array CpInfo := pool [(9, u "<init>"), (6, .class_ 18), (1, u "java/lang/Object"), (0, u "()V"), (1, .class_ 23), (1, u "jdk/internal/util/ArraysSupport"), (0, u "LOG2_ARRAY_LONG_INDEX_SCALE"), (0, u "I"), (2, u "U"), (0, u "Ljdk/internal/misc/Unsafe;"), (8, u "BIG_ENDIAN"), (0, u "Z"), (8, u "LOG2_BYTE_BIT_SIZE"), (4, u "LOG2_ARRAY_INT_INDEX_SCALE"), (54, u "JLA"), (0, u "Ljdk/internal/access/JavaLangAccess;"), (11, u "LOG2_ARRAY_BOOLEAN_INDEX_SCALE"), (9, u "LOG2_ARRAY_BYTE_INDEX_SCALE"), (5, u "LOG2_ARRAY_CHAR_INDEX_SCALE"), (5, u "LOG2_ARRAY_SHORT_INDEX_SCALE"), (18, u "LOG2_ARRAY_FLOAT_INDEX_SCALE"), (24, u "LOG2_ARRAY_DOUBLE_INDEX_SCALE"), (89, u "T_BOOLEAN"), (2, u "T_CHAR"), (1, u "T_FLOAT"), (1, u "T_DOUBLE"), (1, u "T_BYTE"), (1, u "T_SHORT"), (1, u "T_INT"), (1, u "T_LONG"), (1, u "SOFT_MAX_ARRAY_LENGTH")] 83

def k22m0 : Method := { name := "<init>", desc := "()V", sig := { parameters := [], returnType := none }, accessFlags := 2, code := none }
/-- jdk/internal/util/ArraysSupport -/
def k22 : Class := { plain "jdk/internal/util/ArraysSupport" (some 0) with
  accessFlags := 33
  interfaces := #[]
  cf := some (fileOf pool22 21 #[] #[{ accessFlags := 2, nameIndex := 9, descriptorIndex := 19, attributes := #[] }] 33 16 #[] #[{ accessFlags := 24, nameIndex := 28, descriptorIndex := 29, attributes := #[] }, { accessFlags := 26, nameIndex := 38, descriptorIndex := 39, attributes := #[] }, { accessFlags := 25, nameIndex := 121, descriptorIndex := 25, attributes := #[] }, { accessFlags := 25, nameIndex := 131, descriptorIndex := 25, attributes := #[] }, { accessFlags := 25, nameIndex := 137, descriptorIndex := 25, attributes := #[] }, { accessFlags := 25, nameIndex := 143, descriptorIndex := 25, attributes := #[] }, { accessFlags := 25, nameIndex := 53, descriptorIndex := 25, attributes := #[] }, { accessFlags := 25, nameIndex := 24, descriptorIndex := 25, attributes := #[] }, { accessFlags := 25, nameIndex := 162, descriptorIndex := 25, attributes := #[] }, { accessFlags := 25, nameIndex := 187, descriptorIndex := 25, attributes := #[] }, { accessFlags := 26, nameIndex := 48, descriptorIndex := 25, attributes := #[] }, { accessFlags := 25, nameIndex := 277, descriptorIndex := 25, attributes := #[] }, { accessFlags := 25, nameIndex := 280, descriptorIndex := 25, attributes := #[] }, { accessFlags := 25, nameIndex := 282, descriptorIndex := 25, attributes := #[] }, { accessFlags := 25, nameIndex := 284, descriptorIndex := 25, attributes := #[] }, { accessFlags := 25, nameIndex := 286, descriptorIndex := 25, attributes := #[] }, { accessFlags := 25, nameIndex := 288, descriptorIndex := 25, attributes := #[] }, { accessFlags := 25, nameIndex := 290, descriptorIndex := 25, attributes := #[] }, { accessFlags := 25, nameIndex := 292, descriptorIndex := 25, attributes := #[] }, { accessFlags := 26, nameIndex := 108, descriptorIndex := 109, attributes := #[] }, { accessFlags := 25, nameIndex := 294, descriptorIndex := 25, attributes := #[] }])
  fields := #[{ name := "U", type := (.object "jdk/internal/misc/Unsafe"), accessFlags := 24, slot := 0, constantValue := 0 }, { name := "BIG_ENDIAN", type := .boolean, accessFlags := 26, slot := 1, constantValue := 0 }, { name := "LOG2_ARRAY_BOOLEAN_INDEX_SCALE", type := .int, accessFlags := 25, slot := 2, constantValue := 0 }, { name := "LOG2_ARRAY_BYTE_INDEX_SCALE", type := .int, accessFlags := 25, slot := 3, constantValue := 0 }, { name := "LOG2_ARRAY_CHAR_INDEX_SCALE", type := .int, accessFlags := 25, slot := 4, constantValue := 0 }, { name := "LOG2_ARRAY_SHORT_INDEX_SCALE", type := .int, accessFlags := 25, slot := 5, constantValue := 0 }, { name := "LOG2_ARRAY_INT_INDEX_SCALE", type := .int, accessFlags := 25, slot := 6, constantValue := 0 }, { name := "LOG2_ARRAY_LONG_INDEX_SCALE", type := .int, accessFlags := 25, slot := 7, constantValue := 0 }, { name := "LOG2_ARRAY_FLOAT_INDEX_SCALE", type := .int, accessFlags := 25, slot := 8, constantValue := 0 }, { name := "LOG2_ARRAY_DOUBLE_INDEX_SCALE", type := .int, accessFlags := 25, slot := 9, constantValue := 0 }, { name := "LOG2_BYTE_BIT_SIZE", type := .int, accessFlags := 26, slot := 10, constantValue := 0 }, { name := "T_BOOLEAN", type := .int, accessFlags := 25, slot := 11, constantValue := 0 }, { name := "T_CHAR", type := .int, accessFlags := 25, slot := 12, constantValue := 0 }, { name := "T_FLOAT", type := .int, accessFlags := 25, slot := 13, constantValue := 0 }, { name := "T_DOUBLE", type := .int, accessFlags := 25, slot := 14, constantValue := 0 }, { name := "T_BYTE", type := .int, accessFlags := 25, slot := 15, constantValue := 0 }, { name := "T_SHORT", type := .int, accessFlags := 25, slot := 16, constantValue := 0 }, { name := "T_INT", type := .int, accessFlags := 25, slot := 17, constantValue := 0 }, { name := "T_LONG", type := .int, accessFlags := 25, slot := 18, constantValue := 0 }, { name := "JLA", type := (.object "jdk/internal/access/JavaLangAccess"), accessFlags := 26, slot := 19, constantValue := 0 }, { name := "SOFT_MAX_ARRAY_LENGTH", type := .int, accessFlags := 25, slot := 20, constantValue := 0 }]
  methods := #[k22m0]
  instanceTypes := #[]
  staticTypes := #[(.object "jdk/internal/misc/Unsafe"), .boolean, .int, .int, .int, .int, .int, .int, .int, .int, .int, .int, .int, .int, .int, .int, .int, .int, .int, (.object "jdk/internal/access/JavaLangAccess"), .int]
  resolved := Array.replicate 378 none
  statics := none }

/-- the primitive byte -/
def k23 : Class := { plain "byte" none with kind := .primitive 'B', accessFlags := 0x411 }
/-- [B -/
def k24 : Class := { plain "[B" (some 0) with kind := .array 23 .byte, interfaces := #[20, 3], accessFlags := 1041 }

/-- the primitive int -/
def k25 : Class := { plain "int" none with kind := .primitive 'I', accessFlags := 0x411 }
/-- [I -/
def k26 : Class := { plain "[I" (some 0) with kind := .array 25 .int, interfaces := #[20, 3], accessFlags := 1041 }

def heap : Heap := #[{ cls := 8, slots := #[.long 0, .int 1, .null, .int 0, .null, .int 0, .int 0], vm := .statics 8 },
  { cls := 9, slots := #[.null, .ref 5, .null, .null, .null, .null], vm := .statics 9 },
  { cls := 13, slots := #[.ref 5], vm := .statics 13 },
  { cls := 16, slots := #[.null, .null, .null], vm := .statics 16 },
  { cls := 18, slots := #[.ref 6, .null], vm := .statics 18 },
  { cls := 13, slots := #[.null, .null, .null], vm := .none },
  { cls := 18, slots := #[.null, .null, .null], vm := .none }]
def classes : Array Class := #[k0, k1, k2, k3, k4, k5, k6, k7, k8, k9, k10, k11, k12, k13, k14, k15, k16, k17, k18, k19, k20, k21, k22, k23, k24, k25, k26]
def interned : List (Array UInt16 × Addr) := []
def slotsUsed : Nat := 25
def theMethod : MethodId := ⟨1, 2⟩
def args0 : Array Value := #[.int 5, .int 65, .int 66, .int 67, .int 68, .int 4]
def aboutOver (below : List Frame) : State where
  vm := { classes := classes, interned := interned.toArray }
  heap := heap
  slotsUsed := slotsUsed
  threads := #[{ frames := .invoking theMethod args0 :: below }]
def below0 : List Frame := [.native { method := ⟨0, 0⟩, args := #[] }]
def about1 : State := aboutOver below0
def p0 : Program := .bare "" "" ""
def e0 : Env := launch0.env 0 0 0
theorem w_frames : about1.frames = Frame.invoking theMethod args0 :: below0 := rfl
set_option maxRecDepth 65536 in
theorem w_args : argsFit about1.vm theMethod args0 = true := by decide +kernel
set_option maxRecDepth 65536 in
theorem w_heap : heapFits about1 = true := by decide +kernel
set_option maxRecDepth 65536 in
theorem w_runnable : about1.curStatus? = some .runnable := by decide +kernel
set_option maxRecDepth 65536 in
theorem w_alone : about1.alone = true := by decide +kernel
set_option maxRecDepth 65536 in
theorem w_named : about1.methodNamed? x = some theMethod := by decide +kernel
set_option maxRecDepth 65536 in
theorem w_hears : about1.hears theMethod below0 = true := by decide +kernel
set_option maxRecDepth 65536 in
theorem w_ripe : about1.ripe theMethod args0 below0 = true := by decide +kernel
theorem w_running : about1.status = .running := rfl
set_option maxRecDepth 65536 in
theorem w_room : about1.hasRoom e0.platform room_1 = true :=
  launch0.hasRoom_least _ room_1 (by decide +kernel) (by decide +kernel) (by decide +kernel) (by decide +kernel) (by decide +kernel) (by decide +kernel)
theorem allAtoms_all (ts : List Jvm.Cond) (a : Array Jvm.Value) (st : Jvm.State) : (allAtoms ts).before a st = ts.all (fun c => c.before a st) := by
  induction ts with
  | nil => rfl
  | cons c t ih =>
    show (Jvm.Cond.and c (allAtoms t)).before a st = _
    rw [Jvm.Cond.before_and, ih, List.all_cons]
def words1 : List Jvm.Cond := Jvm.Cond.code x code maxLocals ret :: tables_1
/-- a 'code' word, met by the world's own term for the bytes: nothing is compared byte by byte -/
theorem code_word {y : MethodName} {bytes : ByteArray} {mx : Nat} {rt : Option FieldType} {a : Array Value} {s : State} {m : MethodId} {meth : Method} {c : Code} (h1 : s.methodNamed? y = some m) (h2 : s.vm.method? m = some meth) (h3 : meth.code = some c) (h4 : c.code = bytes)
    (h5 : (c.maxLocals == mx && c.exceptionTable.isEmpty && decide (c.maxStack ≤ mostOperands) && decide (meth.sig.returnType = rt) && !meth.locks && decide (parseMethodDescriptor y.desc = some meth.sig)) = true) : (Jvm.Cond.code y bytes mx rt).before a s = true := by
  simp only [Bool.and_eq_true, beq_iff_eq, Bool.not_eq_true', decide_eq_true_eq] at h5
  obtain ⟨⟨⟨⟨⟨g1, g2⟩, g3⟩, g4⟩, g5⟩, g6⟩ := h5
  simp [Cond.before, Cond.holds, Cond.value, h1, h2, h3, h4, g1, g2, g3, g4, g5, g6]
theorem code_wordW {y : MethodName} {bytes : ByteArray} {mx : Nat} {rt : Option FieldType} {hs : List (Nat × Nat × Nat × Nat)} {a : Array Value} {s : State} {m : MethodId} {meth : Method} {c : Code} (h1 : s.methodNamed? y = some m) (h2 : s.vm.method? m = some meth) (h3 : meth.code = some c) (h4 : c.code = bytes)
    (h5 : (c.maxLocals == mx && decide (c.exceptionTable.toList.map (fun h => (h.startPc, h.endPc, h.handlerPc, h.catchType)) = hs) && decide (c.maxStack ≤ mostOperands) && decide (meth.sig.returnType = rt) && !meth.locks && decide (parseMethodDescriptor y.desc = some meth.sig)) = true) : (Jvm.Cond.codeWith y bytes mx rt hs).before a s = true := by
  simp only [Bool.and_eq_true, beq_iff_eq, Bool.not_eq_true', decide_eq_true_eq] at h5
  obtain ⟨⟨⟨⟨⟨g1, g2⟩, g3⟩, g4⟩, g5⟩, g6⟩ := h5
  simp [Cond.before, Cond.holds, Cond.value, h1, h2, h3, h4, g1, g2, g3, g4, g5, g6]
def isCode : Jvm.Cond → Bool
  | .code _ _ _ _ => true
  | .codeWith _ _ _ _ _ => true
  | _ => false
theorem all_split {L : List Jvm.Cond} {P : Jvm.Cond → Bool} (h1 : L.all (fun c => isCode c || P c) = true) (h2 : ∀ c ∈ L.filter isCode, P c = true) : L.all P = true := by
  refine List.all_eq_true.mpr fun c hc => ?_
  have h := List.all_eq_true.mp h1 c hc
  rcases Bool.eq_false_or_eq_true (isCode c) with hi | hi
  · exact h2 c (List.mem_filter.mpr ⟨hc, hi⟩)
  · simpa [hi] using h
set_option maxRecDepth 65536 in
theorem w_c0 : (Jvm.Cond.code x code maxLocals ret).before args0 about1 = true := code_word (m := ⟨1, 2⟩) (meth := k1m2) (c := k1c2) (by decide +kernel) rfl rfl rfl (by decide +kernel)
set_option maxRecDepth 65536 in
theorem w_c1 : (Jvm.Cond.code ({ cls := "com/example/bdelloid/bdelloid/os/EnvironmentNamePinLaw", name := "pick", desc := "(III)B" } : Jvm.MethodName) method_2_code (3 : Nat) (Option.some Jvm.ClassFile.FieldType.byte)).before args0 about1 = true := code_word (m := ⟨1, 1⟩) (meth := k1m1) (c := k1c1) (by decide +kernel) rfl rfl rfl (by decide +kernel)
set_option maxRecDepth 65536 in
theorem w_c2 : (Jvm.Cond.code ({ cls := "com/example/bdelloid/bdelloid/os/Environment", name := "name", desc := "([B)Ljava/lang/String;" } : Jvm.MethodName) prog_10_method_3_code (2 : Nat) (Option.some (Jvm.ClassFile.FieldType.object "java/lang/String"))).before args0 about1 = true := code_word (m := ⟨2, 1⟩) (meth := k2m1) (c := k2c1) (by decide +kernel) rfl rfl rfl (by decide +kernel)
set_option maxRecDepth 65536 in
theorem w_c3 : (Jvm.Cond.code ({ cls := "java/lang/String", name := "<init>", desc := "([BLjava/nio/charset/Charset;)V" } : Jvm.MethodName) jdk_42_method_49_code (3 : Nat) (Option.none : Option Jvm.ClassFile.FieldType)).before args0 about1 = true := code_word (m := ⟨8, 2⟩) (meth := k8m2) (c := k8c2) (by decide +kernel) rfl rfl rfl (by decide +kernel)
set_option maxRecDepth 65536 in
theorem w_c4 : (Jvm.Cond.code ({ cls := "java/util/Objects", name := "requireNonNull", desc := "(Ljava/lang/Object;)Ljava/lang/Object;" } : Jvm.MethodName) jdk_31_method_10_code (1 : Nat) (Option.some (Jvm.ClassFile.FieldType.object "java/lang/Object"))).before args0 about1 = true := code_word (m := ⟨10, 1⟩) (meth := k10m1) (c := k10c1) (by decide +kernel) rfl rfl rfl (by decide +kernel)
set_option maxRecDepth 65536 in
theorem w_c5 : (Jvm.Cond.code ({ cls := "java/lang/Object", name := "<init>", desc := "()V" } : Jvm.MethodName) object_method_1_code (1 : Nat) (Option.none : Option Jvm.ClassFile.FieldType)).before args0 about1 = true := code_word (m := ⟨0, 0⟩) (meth := k0m0) (c := k0c0) (by decide +kernel) rfl rfl rfl (by decide +kernel)
set_option maxRecDepth 65536 in
theorem w_c6 : (Jvm.Cond.code ({ cls := "java/lang/String", name := "indexOf", desc := "(I)I" } : Jvm.MethodName) jdk_42_method_79_code (2 : Nat) (Option.some Jvm.ClassFile.FieldType.int)).before args0 about1 = true := code_word (m := ⟨8, 5⟩) (meth := k8m5) (c := k8c5) (by decide +kernel) rfl rfl rfl (by decide +kernel)
set_option maxRecDepth 65536 in
theorem w_c7 : (Jvm.Cond.code ({ cls := "java/lang/String", name := "indexOf", desc := "(II)I" } : Jvm.MethodName) jdk_42_method_80_code (3 : Nat) (Option.some Jvm.ClassFile.FieldType.int)).before args0 about1 = true := code_word (m := ⟨8, 6⟩) (meth := k8m6) (c := k8c6) (by decide +kernel) rfl rfl rfl (by decide +kernel)
set_option maxRecDepth 65536 in
theorem w_c8 : (Jvm.Cond.code ({ cls := "java/lang/String", name := "isLatin1", desc := "()Z" } : Jvm.MethodName) jdk_42_method_154_code (1 : Nat) (Option.some Jvm.ClassFile.FieldType.boolean)).before args0 about1 = true := code_word (m := ⟨8, 10⟩) (meth := k8m10) (c := k8c10) (by decide +kernel) rfl rfl rfl (by decide +kernel)
set_option maxRecDepth 65536 in
theorem w_c9 : (Jvm.Cond.code ({ cls := "java/lang/String", name := "length", desc := "()I" } : Jvm.MethodName) jdk_42_method_54_code (1 : Nat) (Option.some Jvm.ClassFile.FieldType.int)).before args0 about1 = true := code_word (m := ⟨8, 3⟩) (meth := k8m3) (c := k8c3) (by decide +kernel) rfl rfl rfl (by decide +kernel)
set_option maxRecDepth 65536 in
theorem w_c10 : (Jvm.Cond.code ({ cls := "java/lang/String", name := "coder", desc := "()B" } : Jvm.MethodName) jdk_42_method_152_code (1 : Nat) (Option.some Jvm.ClassFile.FieldType.byte)).before args0 about1 = true := code_word (m := ⟨8, 9⟩) (meth := k8m9) (c := k8c9) (by decide +kernel) rfl rfl rfl (by decide +kernel)
set_option maxRecDepth 65536 in
theorem w_c11 : (Jvm.Cond.code ({ cls := "java/lang/StringLatin1", name := "indexOf", desc := "([BIII)I" } : Jvm.MethodName) jdk_43_method_22_code (4 : Nat) (Option.some Jvm.ClassFile.FieldType.int)).before args0 about1 = true := code_word (m := ⟨14, 3⟩) (meth := k14m3) (c := k14c3) (by decide +kernel) rfl rfl rfl (by decide +kernel)
set_option maxRecDepth 65536 in
theorem w_c12 : (Jvm.Cond.code ({ cls := "java/lang/StringLatin1", name := "canEncode", desc := "(I)Z" } : Jvm.MethodName) jdk_43_method_4_code (1 : Nat) (Option.some Jvm.ClassFile.FieldType.boolean)).before args0 about1 = true := code_word (m := ⟨14, 2⟩) (meth := k14m2) (c := k14c2) (by decide +kernel) rfl rfl rfl (by decide +kernel)
set_option maxRecDepth 65536 in
theorem w_c13 : (Jvm.Cond.code ({ cls := "java/lang/Math", name := "max", desc := "(II)I" } : Jvm.MethodName) jdk_29_method_65_code (2 : Nat) (Option.some Jvm.ClassFile.FieldType.int)).before args0 about1 = true := code_word (m := ⟨15, 1⟩) (meth := k15m1) (c := k15c1) (by decide +kernel) rfl rfl rfl (by decide +kernel)
set_option maxRecDepth 65536 in
theorem w_c14 : (Jvm.Cond.code ({ cls := "java/lang/Math", name := "min", desc := "(II)I" } : Jvm.MethodName) jdk_29_method_69_code (2 : Nat) (Option.some Jvm.ClassFile.FieldType.int)).before args0 about1 = true := code_word (m := ⟨15, 2⟩) (meth := k15m2) (c := k15c2) (by decide +kernel) rfl rfl rfl (by decide +kernel)
set_option maxRecDepth 65536 in
theorem w_c15 : (Jvm.Cond.code ({ cls := "java/lang/String", name := "substring", desc := "(II)Ljava/lang/String;" } : Jvm.MethodName) jdk_42_method_92_code (5 : Nat) (Option.some (Jvm.ClassFile.FieldType.object "java/lang/String"))).before args0 about1 = true := code_word (m := ⟨8, 7⟩) (meth := k8m7) (c := k8c7) (by decide +kernel) rfl rfl rfl (by decide +kernel)
set_option maxRecDepth 65536 in
theorem w_c16 : (Jvm.Cond.code ({ cls := "java/lang/String", name := "checkBoundsBeginEnd", desc := "(III)V" } : Jvm.MethodName) jdk_42_method_158_code (3 : Nat) (Option.none : Option Jvm.ClassFile.FieldType)).before args0 about1 = true := code_word (m := ⟨8, 12⟩) (meth := k8m12) (c := k8c12) (by decide +kernel) rfl rfl rfl (by decide +kernel)
set_option maxRecDepth 65536 in
theorem w_c17 : (Jvm.Cond.code ({ cls := "jdk/internal/util/Preconditions", name := "checkFromToIndex", desc := "(IIILjava/util/function/BiFunction;)I" } : Jvm.MethodName) jdk_41_method_12_code (4 : Nat) (Option.some Jvm.ClassFile.FieldType.int)).before args0 about1 = true := code_word (m := ⟨16, 2⟩) (meth := k16m2) (c := k16c2) (by decide +kernel) rfl rfl rfl (by decide +kernel)
set_option maxRecDepth 65536 in
theorem w_c18 : (Jvm.Cond.code ({ cls := "java/util/Arrays", name := "copyOfRange", desc := "([BII)[B" } : Jvm.MethodName) jdk_65_method_132_code (3 : Nat) (Option.some (Jvm.ClassFile.FieldType.array Jvm.ClassFile.FieldType.byte))).before args0 about1 = true := code_word (m := ⟨19, 2⟩) (meth := k19m2) (c := k19c2) (by decide +kernel) rfl rfl rfl (by decide +kernel)
set_option maxRecDepth 65536 in
theorem w_c19 : (Jvm.Cond.code ({ cls := "java/lang/StringLatin1", name := "indexOfChar", desc := "([BIII)I" } : Jvm.MethodName) jdk_43_method_23_code (6 : Nat) (Option.some Jvm.ClassFile.FieldType.int)).before args0 about1 = true := code_word (m := ⟨14, 4⟩) (meth := k14m4) (c := k14c4) (by decide +kernel) rfl rfl rfl (by decide +kernel)
set_option maxRecDepth 65536 in
theorem w_c20 : (Jvm.Cond.code ({ cls := "java/lang/StringLatin1", name := "newString", desc := "([BII)Ljava/lang/String;" } : Jvm.MethodName) jdk_43_method_47_code (3 : Nat) (Option.some (Jvm.ClassFile.FieldType.object "java/lang/String"))).before args0 about1 = true := code_word (m := ⟨14, 5⟩) (meth := k14m5) (c := k14c5) (by decide +kernel) rfl rfl rfl (by decide +kernel)
set_option maxRecDepth 65536 in
theorem w_c21 : (Jvm.Cond.code ({ cls := "java/util/Arrays", name := "copyOfRangeByte", desc := "([BII)[B" } : Jvm.MethodName) jdk_65_method_133_code (5 : Nat) (Option.some (Jvm.ClassFile.FieldType.array Jvm.ClassFile.FieldType.byte))).before args0 about1 = true := code_word (m := ⟨19, 3⟩) (meth := k19m3) (c := k19c3) (by decide +kernel) rfl rfl rfl (by decide +kernel)
set_option maxRecDepth 65536 in
theorem w_c22 : (Jvm.Cond.code ({ cls := "java/util/Arrays", name := "checkLength", desc := "(II)V" } : Jvm.MethodName) jdk_65_method_131_code (2 : Nat) (Option.none : Option Jvm.ClassFile.FieldType)).before args0 about1 = true := code_word (m := ⟨19, 1⟩) (meth := k19m1) (c := k19c1) (by decide +kernel) rfl rfl rfl (by decide +kernel)
set_option maxRecDepth 65536 in
theorem w_c23 : (Jvm.Cond.code ({ cls := "java/lang/String", name := "<init>", desc := "([BB)V" } : Jvm.MethodName) jdk_42_method_151_code (3 : Nat) (Option.none : Option Jvm.ClassFile.FieldType)).before args0 about1 = true := code_word (m := ⟨8, 8⟩) (meth := k8m8) (c := k8c8) (by decide +kernel) rfl rfl rfl (by decide +kernel)
set_option maxRecDepth 65536 in
theorem w_c24 : (Jvm.Cond.code ({ cls := "java/lang/String", name := "charAt", desc := "(I)C" } : Jvm.MethodName) jdk_42_method_56_code (2 : Nat) (Option.some Jvm.ClassFile.FieldType.char)).before args0 about1 = true := code_word (m := ⟨8, 4⟩) (meth := k8m4) (c := k8c4) (by decide +kernel) rfl rfl rfl (by decide +kernel)
set_option maxRecDepth 65536 in
theorem w_c25 : (Jvm.Cond.code ({ cls := "java/lang/StringLatin1", name := "charAt", desc := "([BI)C" } : Jvm.MethodName) jdk_43_method_2_code (2 : Nat) (Option.some Jvm.ClassFile.FieldType.char)).before args0 about1 = true := code_word (m := ⟨14, 1⟩) (meth := k14m1) (c := k14c1) (by decide +kernel) rfl rfl rfl (by decide +kernel)
set_option maxRecDepth 65536 in
theorem w_c26 : (Jvm.Cond.code ({ cls := "java/lang/String", name := "checkIndex", desc := "(II)V" } : Jvm.MethodName) jdk_42_method_155_code (2 : Nat) (Option.none : Option Jvm.ClassFile.FieldType)).before args0 about1 = true := code_word (m := ⟨8, 11⟩) (meth := k8m11) (c := k8c11) (by decide +kernel) rfl rfl rfl (by decide +kernel)
set_option maxRecDepth 65536 in
theorem w_c27 : (Jvm.Cond.code ({ cls := "jdk/internal/util/Preconditions", name := "checkIndex", desc := "(IILjava/util/function/BiFunction;)I" } : Jvm.MethodName) jdk_41_method_11_code (3 : Nat) (Option.some Jvm.ClassFile.FieldType.int)).before args0 about1 = true := code_word (m := ⟨16, 1⟩) (meth := k16m1) (c := k16c1) (by decide +kernel) rfl rfl rfl (by decide +kernel)
set_option maxRecDepth 65536 in
theorem w_cW : (Jvm.Cond.codeWith ({ cls := "java/lang/String", name := "<init>", desc := "(Ljava/nio/charset/Charset;[BII)V" } : Jvm.MethodName) jdk_42_method_11_code (11 : Nat) (Option.none : Option Jvm.ClassFile.FieldType) [(800, 813, 816, 202)]).before args0 about1 = true := code_wordW (m := ⟨8, 1⟩) (meth := k8m1) (c := k8c1) (by decide +kernel) rfl rfl rfl (by decide +kernel)
def codes1 : List Jvm.Cond := [Jvm.Cond.code x code maxLocals ret, Jvm.Cond.code ({ cls := "com/example/bdelloid/bdelloid/os/EnvironmentNamePinLaw", name := "pick", desc := "(III)B" } : Jvm.MethodName) method_2_code (3 : Nat) (Option.some Jvm.ClassFile.FieldType.byte), Jvm.Cond.code ({ cls := "com/example/bdelloid/bdelloid/os/Environment", name := "name", desc := "([B)Ljava/lang/String;" } : Jvm.MethodName) prog_10_method_3_code (2 : Nat) (Option.some (Jvm.ClassFile.FieldType.object "java/lang/String")), Jvm.Cond.code ({ cls := "java/lang/String", name := "<init>", desc := "([BLjava/nio/charset/Charset;)V" } : Jvm.MethodName) jdk_42_method_49_code (3 : Nat) (Option.none : Option Jvm.ClassFile.FieldType), Jvm.Cond.code ({ cls := "java/util/Objects", name := "requireNonNull", desc := "(Ljava/lang/Object;)Ljava/lang/Object;" } : Jvm.MethodName) jdk_31_method_10_code (1 : Nat) (Option.some (Jvm.ClassFile.FieldType.object "java/lang/Object")), Jvm.Cond.codeWith ({ cls := "java/lang/String", name := "<init>", desc := "(Ljava/nio/charset/Charset;[BII)V" } : Jvm.MethodName) jdk_42_method_11_code (11 : Nat) (Option.none : Option Jvm.ClassFile.FieldType) [(800, 813, 816, 202)], Jvm.Cond.code ({ cls := "java/lang/Object", name := "<init>", desc := "()V" } : Jvm.MethodName) object_method_1_code (1 : Nat) (Option.none : Option Jvm.ClassFile.FieldType), Jvm.Cond.code ({ cls := "java/lang/String", name := "indexOf", desc := "(I)I" } : Jvm.MethodName) jdk_42_method_79_code (2 : Nat) (Option.some Jvm.ClassFile.FieldType.int), Jvm.Cond.code ({ cls := "java/lang/String", name := "indexOf", desc := "(II)I" } : Jvm.MethodName) jdk_42_method_80_code (3 : Nat) (Option.some Jvm.ClassFile.FieldType.int), Jvm.Cond.code ({ cls := "java/lang/String", name := "isLatin1", desc := "()Z" } : Jvm.MethodName) jdk_42_method_154_code (1 : Nat) (Option.some Jvm.ClassFile.FieldType.boolean), Jvm.Cond.code ({ cls := "java/lang/String", name := "length", desc := "()I" } : Jvm.MethodName) jdk_42_method_54_code (1 : Nat) (Option.some Jvm.ClassFile.FieldType.int), Jvm.Cond.code ({ cls := "java/lang/String", name := "coder", desc := "()B" } : Jvm.MethodName) jdk_42_method_152_code (1 : Nat) (Option.some Jvm.ClassFile.FieldType.byte), Jvm.Cond.code ({ cls := "java/lang/StringLatin1", name := "indexOf", desc := "([BIII)I" } : Jvm.MethodName) jdk_43_method_22_code (4 : Nat) (Option.some Jvm.ClassFile.FieldType.int), Jvm.Cond.code ({ cls := "java/lang/StringLatin1", name := "canEncode", desc := "(I)Z" } : Jvm.MethodName) jdk_43_method_4_code (1 : Nat) (Option.some Jvm.ClassFile.FieldType.boolean), Jvm.Cond.code ({ cls := "java/lang/Math", name := "max", desc := "(II)I" } : Jvm.MethodName) jdk_29_method_65_code (2 : Nat) (Option.some Jvm.ClassFile.FieldType.int), Jvm.Cond.code ({ cls := "java/lang/Math", name := "min", desc := "(II)I" } : Jvm.MethodName) jdk_29_method_69_code (2 : Nat) (Option.some Jvm.ClassFile.FieldType.int), Jvm.Cond.code ({ cls := "java/lang/String", name := "substring", desc := "(II)Ljava/lang/String;" } : Jvm.MethodName) jdk_42_method_92_code (5 : Nat) (Option.some (Jvm.ClassFile.FieldType.object "java/lang/String")), Jvm.Cond.code ({ cls := "java/lang/String", name := "checkBoundsBeginEnd", desc := "(III)V" } : Jvm.MethodName) jdk_42_method_158_code (3 : Nat) (Option.none : Option Jvm.ClassFile.FieldType), Jvm.Cond.code ({ cls := "jdk/internal/util/Preconditions", name := "checkFromToIndex", desc := "(IIILjava/util/function/BiFunction;)I" } : Jvm.MethodName) jdk_41_method_12_code (4 : Nat) (Option.some Jvm.ClassFile.FieldType.int), Jvm.Cond.code ({ cls := "java/util/Arrays", name := "copyOfRange", desc := "([BII)[B" } : Jvm.MethodName) jdk_65_method_132_code (3 : Nat) (Option.some (Jvm.ClassFile.FieldType.array Jvm.ClassFile.FieldType.byte)), Jvm.Cond.code ({ cls := "java/lang/StringLatin1", name := "indexOfChar", desc := "([BIII)I" } : Jvm.MethodName) jdk_43_method_23_code (6 : Nat) (Option.some Jvm.ClassFile.FieldType.int), Jvm.Cond.code ({ cls := "java/lang/StringLatin1", name := "newString", desc := "([BII)Ljava/lang/String;" } : Jvm.MethodName) jdk_43_method_47_code (3 : Nat) (Option.some (Jvm.ClassFile.FieldType.object "java/lang/String")), Jvm.Cond.code ({ cls := "java/util/Arrays", name := "copyOfRangeByte", desc := "([BII)[B" } : Jvm.MethodName) jdk_65_method_133_code (5 : Nat) (Option.some (Jvm.ClassFile.FieldType.array Jvm.ClassFile.FieldType.byte)), Jvm.Cond.code ({ cls := "java/util/Arrays", name := "checkLength", desc := "(II)V" } : Jvm.MethodName) jdk_65_method_131_code (2 : Nat) (Option.none : Option Jvm.ClassFile.FieldType), Jvm.Cond.code ({ cls := "java/lang/String", name := "<init>", desc := "([BB)V" } : Jvm.MethodName) jdk_42_method_151_code (3 : Nat) (Option.none : Option Jvm.ClassFile.FieldType), Jvm.Cond.code ({ cls := "java/lang/String", name := "charAt", desc := "(I)C" } : Jvm.MethodName) jdk_42_method_56_code (2 : Nat) (Option.some Jvm.ClassFile.FieldType.char), Jvm.Cond.code ({ cls := "java/lang/StringLatin1", name := "charAt", desc := "([BI)C" } : Jvm.MethodName) jdk_43_method_2_code (2 : Nat) (Option.some Jvm.ClassFile.FieldType.char), Jvm.Cond.code ({ cls := "java/lang/String", name := "checkIndex", desc := "(II)V" } : Jvm.MethodName) jdk_42_method_155_code (2 : Nat) (Option.none : Option Jvm.ClassFile.FieldType), Jvm.Cond.code ({ cls := "jdk/internal/util/Preconditions", name := "checkIndex", desc := "(IILjava/util/function/BiFunction;)I" } : Jvm.MethodName) jdk_41_method_11_code (3 : Nat) (Option.some Jvm.ClassFile.FieldType.int)]
set_option maxRecDepth 65536 in
theorem codes_eq : words1.filter isCode = codes1 := rfl
theorem w_codes : ∀ c ∈ words1.filter isCode, c.before args0 about1 = true := by
  rw [codes_eq]
  intro c hc
  simp only [codes1, List.mem_cons, List.not_mem_nil, or_false] at hc
  rcases hc with rfl | rfl | rfl | rfl | rfl | rfl | rfl | rfl | rfl | rfl | rfl | rfl | rfl | rfl | rfl | rfl | rfl | rfl | rfl | rfl | rfl | rfl | rfl | rfl | rfl | rfl | rfl | rfl | rfl
  · exact w_c0
  · exact w_c1
  · exact w_c2
  · exact w_c3
  · exact w_c4
  · exact w_cW
  · exact w_c5
  · exact w_c6
  · exact w_c7
  · exact w_c8
  · exact w_c9
  · exact w_c10
  · exact w_c11
  · exact w_c12
  · exact w_c13
  · exact w_c14
  · exact w_c15
  · exact w_c16
  · exact w_c17
  · exact w_c18
  · exact w_c19
  · exact w_c20
  · exact w_c21
  · exact w_c22
  · exact w_c23
  · exact w_c24
  · exact w_c25
  · exact w_c26
  · exact w_c27
set_option maxRecDepth 65536 in
theorem w_t1 : (words1.take 24).all (fun c => isCode c || c.before args0 about1) = true := by decide +kernel
set_option maxRecDepth 65536 in
theorem w_t2 : ((words1.drop 24).take 24).all (fun c => isCode c || c.before args0 about1) = true := by decide +kernel
set_option maxRecDepth 65536 in
theorem w_t3 : (((words1.drop 24).drop 24).take 24).all (fun c => isCode c || c.before args0 about1) = true := by decide +kernel
set_option maxRecDepth 65536 in
theorem w_t4 : ((((words1.drop 24).drop 24).drop 24).take 24).all (fun c => isCode c || c.before args0 about1) = true := by decide +kernel
set_option maxRecDepth 65536 in
theorem w_t5 : (((((words1.drop 24).drop 24).drop 24).drop 24).take 24).all (fun c => isCode c || c.before args0 about1) = true := by decide +kernel
set_option maxRecDepth 65536 in
theorem w_t6 : ((((((words1.drop 24).drop 24).drop 24).drop 24).drop 24).take 24).all (fun c => isCode c || c.before args0 about1) = true := by decide +kernel
set_option maxRecDepth 65536 in
theorem w_t7 : ((((((words1.drop 24).drop 24).drop 24).drop 24).drop 24).drop 24).all (fun c => isCode c || c.before args0 about1) = true := by decide +kernel
theorem w_tables : (allAtoms (Jvm.Cond.code x code maxLocals ret :: tables_1)).before args0 about1 = true := by
  rw [allAtoms_all]
  show words1.all (fun c => c.before args0 about1) = true
  refine all_split ?_ w_codes
  rw [← List.take_append_drop 24 words1, List.all_append, w_t1, ← List.take_append_drop 24 (words1.drop 24), List.all_append, w_t2, ← List.take_append_drop 24 ((words1.drop 24).drop 24), List.all_append, w_t3, ← List.take_append_drop 24 (((words1.drop 24).drop 24).drop 24), List.all_append, w_t4, ← List.take_append_drop 24 ((((words1.drop 24).drop 24).drop 24).drop 24), List.all_append, w_t5, ← List.take_append_drop 24 (((((words1.drop 24).drop 24).drop 24).drop 24).drop 24), List.all_append, w_t6, w_t7]
  rfl
set_option maxRecDepth 65536 in
theorem w_rest : rest_1_c.before args0 about1 = true := by decide +kernel
set_option maxRecDepth 65536 in
theorem w_case : (Jvm.Cond.and given_1 narrow_1).before args0 about1 = true := by decide +kernel
set_option maxRecDepth 65536 in
theorem w_consts : constsHeld consts_1 about1 := Jvm.Lit.constsHeldB_iff.mp (by decide +kernel)
theorem w_applies : (headSpec (Jvm.Cond.code x code maxLocals ret :: tables_1) room_1).applies x e0.platform about1 = true :=
  (Spec.applies_iff w_frames).mpr ⟨w_running, w_runnable, w_alone, w_named, w_hears, w_ripe, w_room, w_tables⟩
theorem atStart : AtStart classFile x code maxLocals ret World_1 tables_1 room_1 Calls_1 rest_1 Pre_1 launch0 p0 e0 about1 theMethod args0 below0 :=
  ⟨lists_1, trivial, launch0.admits_env _ _ _, launch0.least_env, fairChoices_fair.cas, fairChoices_fair.clock, w_frames, w_args, w_heap, w_applies, ⟨w_consts, trivial⟩, w_rest, w_case⟩
end start1
theorem witness_1 : WitnessClaimed_1 := ⟨start1.p0, start1.e0, start1.about1, start1.theMethod, start1.args0, start1.below0, start1.atStart⟩
end Jvm.Pilot.@@N@@
