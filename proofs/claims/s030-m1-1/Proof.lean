import JvmDerived
import JvmDerived.Pilot.@@N@@Statement
import JvmDerived.Pilot.@@N@@Code
set_option linter.unusedVariables false
set_option linter.unusedSimpArgs false
namespace Jvm.Pilot.@@N@@
open Jvm Jvm.ClassFile Sem Op Lib Jvm.Free Jvm.Stand Jvm.LawKit Jvm.RoadKit Bundle Jvm.Pilot.@@N@@.Jvm.D
/-! own laws: the run from a state to the return, in continuation form -/
section OwnG
variable {p : Program} {l : Launch} {e : Env} {R : Room} {s : State} {m : MethodId} {args : Array Value} {below : List Frame} {meth : Method} {c : Code} {T : State} {locs : List Loc} {cells slots : Nat} {Z : State} {a0 : Array Value} {h : Heap} {Q : Option Value → Heap → List Loc → Prop} {ck sk : Nat}
def own_G (p : Program) (e : Env) (below : List Frame) (s : State) (Q : Option Value → Heap → List Loc → Prop) (ck sk : Nat) (U : State) : Prop :=
  ∃ s₂ o, Steps p.tables e below U s₂ ∧ s₂.status = .running ∧ Ended s₂ below o ∧ ∃ v L, o = .returned v ∧ Q v s₂.heap L ∧ FrameEnd s o s₂ L ck sk
theorem own_via {U U' : State} (k : ∀ t, Steps p.tables e below U' t → Steps p.tables e below U t) (g : own_G p e below s Q ck sk U') : own_G p e below s Q ck sk U := by
  obtain ⟨s2, o, h1, r⟩ := g
  exact ⟨s2, o, k _ h1, r⟩
theorem own_mono {Q' : Option Value → Heap → List Loc → Prop} {U : State} (k : ∀ v h L, Q v h L → Q' v h L) (g : own_G p e below s Q ck sk U) : own_G p e below s Q' ck sk U := by
  obtain ⟨s2, o, h1, h2, h3, v, L, h4, h5, h6⟩ := g
  exact ⟨s2, o, h1, h2, h3, v, L, h4, k _ _ _ h5, h6⟩
theorem own_ret (X : Stand p l e R s m args below meth c T locs cells slots) {v : Option Value} (hv : meth.sig.returnType = none → v = none) (hlk : meth.locks = false) {f : JFrame}
    (st : ∀ fs, (∀ (f : JFrame) (acts : List Action), f.method = m → f.locked = none → f.entered = [] → (doReturn e (T.setTop f) acts v).1 = T.setFrames fs) → Steps p.tables e below (T.setTop f) (T.setFrames fs))
    (hQ : Q v T.heap locs) (hc : cells ≤ ck) (hs : slots ≤ sk) : own_G p e below s Q ck sk (T.setTop f) := by
  obtain ⟨fs, hr, hrun, hended, hW, hsame⟩ := X.leave (v := v) hv hlk
  exact ⟨_, _, st fs hr, hrun, hended, _, _, rfl, hQ, ⟨_, rfl⟩, hW, hsame.mono hc hs⟩
theorem own_callS (X : Stand p l e R s m args below meth c T locs cells slots) (hx : p.tables.exec = Jvm.exec) (hZ : Z.Warmed39 s.vm) {own : String} {index : Nat} {y : MethodName} {bytes : ByteArray} {maxL : Nat} {ret : Option FieldType} {rm : Room} {as' : Array Value} {W : Nat}
    (hown : s.vm.findClass own = some m.cls) (w1 : (Jvm.Cond.methodLink own index y).before a0 Z = true) (w2 : (Jvm.Cond.static y).before a0 Z = true) (w3 : (Jvm.Cond.initialized y.cls).before a0 Z = true) (w4 : (Jvm.Cond.code y bytes maxL ret).before a0 Z = true)
    (hy : y.cls ≠ "java/lang/invoke/MethodHandle" ∧ y.cls ≠ "java/lang/invoke/VarHandle")
    (hM : MetFree l y (head1 [Jvm.Cond.code y bytes maxL ret] rm) (fun a U => a = as' ∧ Z.Warmed39 U.vm ∧ U.heap = h) (fun _ _ _ _ _ => True) (fun _ U o U' => ∃ v L, o = .returned v ∧ Q v U'.heap L ∧ FrameEnd U o U' L rm.cells rm.slots))
    (hf : rm.frames + 1 ≤ R.frames) (hl : W + (maxL + 11) + rm.locals ≤ R.locals) (eT : T.heap = h)
    {g : JFrame} (hg : g.method = m) (hsize : g.locals.size = c.maxLocals) {argsL rest : List Value} (has : argsL.toArray = as') (hlen : ∀ sig, parseMethodDescriptor y.desc = some sig → argsL.length = sig.parameters.length)
    (hstack : g.stack = argsL.reverse ++ rest) (hW : 2 * g.monitorRoom + (rest.map fun v => v.category).sum ≤ W) (hdg : decode c.code g.pc = .ok (.invokestatic index, 3))
    (hcells : cells + rm.cells ≤ R.cells) (hslots : slots + rm.slots ≤ R.slots) :
    ∃ v T' L', Stand p l e R s m args below meth c T' (locs ++ L') (cells + rm.cells) (slots + rm.slots) ∧ Q v T'.heap L' ∧ ∀ t, Steps p.tables e below (T'.setTop { g with pc := g.pc + 3, stack := v.toList ++ rest }) t → Steps p.tables e below (T.setTop g) t := by
  obtain ⟨v, vm1, ⟨T', L', k', n'⟩, -, X', ⟨Lc, hQ, q1, q2, q3⟩, st⟩ := Jvm.LawKit.callS X hx hown (mvT hZ w1) (mvT hZ w2) (mvT hZ w3) (mvT hZ w4) hy (backOf (W := W) hM hZ w4 w3 hf hl) hg hsize hlen hstack hW hdg (fun _ _ => ⟨has, eT, hcells, hslots⟩)
  dsimp only [Pt.U, Pt.locs, Pt.cells, Pt.slots] at X' q1 q2 q3 st hQ
  subst q1 q2 q3
  exact ⟨v, T', Lc, X', hQ, st⟩
theorem own_callI (X : Stand p l e R s m args below meth c T locs cells slots) (hx : p.tables.exec = Jvm.exec) (hZ : Z.Warmed39 s.vm) {own : String} {index : Nat} {y : MethodName} (hy1 : y.name = "<init>") {bytes : ByteArray} {maxL : Nat} {rm : Room} {as' : Array Value} {W : Nat}
    (hown : s.vm.findClass own = some m.cls) (w1 : (Jvm.Cond.methodLink own index y).before a0 Z = true) (w2 : (Jvm.Cond.instanceMethod y).before a0 Z = true) (w3 : (Jvm.Cond.initialized y.cls).before a0 Z = true) (w4 : (Jvm.Cond.code y bytes maxL none).before a0 Z = true)
    (hy : y.cls ≠ "java/lang/invoke/MethodHandle" ∧ y.cls ≠ "java/lang/invoke/VarHandle")
    (hM : MetFree l y (head1 [Jvm.Cond.code y bytes maxL none] rm) (fun a U => a = as' ∧ Z.Warmed39 U.vm ∧ U.heap = h) (fun _ _ _ _ _ => True) (fun _ U o U' => ∃ v L, o = .returned v ∧ Q v U'.heap L ∧ FrameEnd U o U' L rm.cells rm.slots))
    (hf : rm.frames + 1 ≤ R.frames) (hl : W + (maxL + 11) + rm.locals ≤ R.locals) (eT : T.heap = h)
    {g : JFrame} (hg : g.method = m) (hsize : g.locals.size = c.maxLocals) {a : Addr} {argsL rest : List Value} (has : (.ref a :: argsL).toArray = as') (hlen : ∀ sig, parseMethodDescriptor y.desc = some sig → argsL.length = sig.parameters.length)
    (hstack : g.stack = argsL.reverse ++ .ref a :: rest) (hW : 2 * g.monitorRoom + (rest.map fun v => v.category).sum ≤ W) (hdg : decode c.code g.pc = .ok (.invokespecial index, 3))
    (hcells : cells + rm.cells ≤ R.cells) (hslots : slots + rm.slots ≤ R.slots) :
    ∃ v T' L', Stand p l e R s m args below meth c T' (locs ++ L') (cells + rm.cells) (slots + rm.slots) ∧ Q v T'.heap L' ∧ ∀ t, Steps p.tables e below (T'.setTop { g with pc := g.pc + 3, stack := v.toList ++ rest }) t → Steps p.tables e below (T.setTop g) t := by
  obtain ⟨v, vm1, ⟨T', L', k', n'⟩, -, X', ⟨Lc, hQ, q1, q2, q3⟩, st⟩ := X.specialBack hx hy1 hown (mvT hZ w1) (mvT hZ w2) (mvT hZ w4) hy (backOf (W := W) hM hZ w4 w3 hf hl) hg hsize (Steps.refl _) hlen hstack hW hdg (fun _ _ => ⟨has, eT, hcells, hslots⟩)
  dsimp only [Pt.U, Pt.locs, Pt.cells, Pt.slots] at X' q1 q2 q3 st hQ
  subst q1 q2 q3
  exact ⟨v, T', Lc, X', hQ, fun t k => st.trans k⟩
theorem own_callV (X : Stand p l e R s m args below meth c T locs cells slots) (hx : p.tables.exec = Jvm.exec) (hZ : Z.Warmed39 s.vm) {own : String} {index : Nat} {y : MethodName} {bytes : ByteArray} {maxL : Nat} {ret : Option FieldType} {rm : Room} {as' : Array Value} {W : Nat} {C : String}
    (hown : s.vm.findClass own = some m.cls) (w1 : (Jvm.Cond.methodLink own index y).before a0 Z = true) (w2 : (Jvm.Cond.declares y).before a0 Z = true) (w5 : (Jvm.Cond.selects C y y).before a0 Z = true) (w6 : (Jvm.Cond.instanceMethod y).before a0 Z = true) (w3 : (Jvm.Cond.initialized y.cls).before a0 Z = true) (w4 : (Jvm.Cond.code y bytes maxL ret).before a0 Z = true)
    (hy : y.cls ≠ "java/lang/invoke/MethodHandle" ∧ y.cls ≠ "java/lang/invoke/VarHandle")
    (hM : MetFree l y (head1 [Jvm.Cond.code y bytes maxL ret] rm) (fun a U => a = as' ∧ Z.Warmed39 U.vm ∧ U.heap = h) (fun _ _ _ _ _ => True) (fun _ U o U' => ∃ v L, o = .returned v ∧ Q v U'.heap L ∧ FrameEnd U o U' L rm.cells rm.slots))
    (hf : rm.frames + 1 ≤ R.frames) (hl : W + (maxL + 11) + rm.locals ≤ R.locals) (eT : T.heap = h) {b : Addr} (E : Exa Z h b C)
    {g : JFrame} (hg : g.method = m) (hsize : g.locals.size = c.maxLocals) {argsL rest : List Value} (has : (.ref b :: argsL).toArray = as') (hlen : ∀ sig, parseMethodDescriptor y.desc = some sig → argsL.length = sig.parameters.length)
    (hstack : g.stack = argsL.reverse ++ .ref b :: rest) (hW : 2 * g.monitorRoom + (rest.map fun v => v.category).sum ≤ W) (hdg : decode c.code g.pc = .ok (.invokevirtual index, 3))
    (hcells : cells + rm.cells ≤ R.cells) (hslots : slots + rm.slots ≤ R.slots) :
    ∃ v T' L', Stand p l e R s m args below meth c T' (locs ++ L') (cells + rm.cells) (slots + rm.slots) ∧ Q v T'.heap L' ∧ ∀ t, Steps p.tables e below (T'.setTop { g with pc := g.pc + 3, stack := v.toList ++ rest }) t → Steps p.tables e below (T.setTop g) t := by
  obtain ⟨cq, kq, qa, qb, qc⟩ := isOf hZ eT E
  obtain ⟨v, vm1, ⟨T', L', k', n'⟩, -, X', ⟨Lc, hQ, q1, q2, q3⟩, st⟩ := X.virtualBack hx hown (mvT hZ w1) (mvT hZ w2) (notFace_of_selects (args := #[]) (mvT hZ w5)) (mvT hZ w5) (mvT hZ w6) hy (backOf (W := W) hM hZ w4 w3 hf hl) qa qc hg hsize (Steps.refl _) hlen hstack hW hdg (fun _ _ => ⟨has, eT, hcells, hslots⟩)
  dsimp only [Pt.U, Pt.locs, Pt.cells, Pt.slots] at X' q1 q2 q3 st hQ
  subst q1 q2 q3
  exact ⟨v, T', Lc, X', hQ, fun t k => st.trans k⟩
end OwnG
theorem own_jlt {x y : Int64} (h : x < y) : ifCond.holds .lt (lcmpW x y) = true ∧ ifCond.holds .ge (lcmpW x y) = false := by
  have q := (lw_lt x y).mpr h
  exact ⟨(if0 _ _).trans (tlt q).1, (if0 _ _).trans (tlt q).2.1⟩
theorem own_jnlt {x y : Int64} (h : ¬ x < y) : ifCond.holds .lt (lcmpW x y) = false ∧ ifCond.holds .ge (lcmpW x y) = true := by
  have q := fun z => h ((lw_lt x y).mp z)
  exact ⟨(if0 _ _).trans (flt q).1, (if0 _ _).trans (flt q).2.1⟩
theorem own_jgt {x y : Int64} (h : y < x) : ifCond.holds .gt (lcmpW x y) = true ∧ ifCond.holds .le (lcmpW x y) = false := by
  have q := (lw_gt x y).mpr h
  exact ⟨(if0 _ _).trans (tlt q).2.2.1, (if0 _ _).trans (tlt q).2.2.2⟩
theorem own_jngt {x y : Int64} (h : ¬ y < x) : ifCond.holds .gt (lcmpW x y) = false ∧ ifCond.holds .le (lcmpW x y) = true := by
  have q := fun z => h ((lw_gt x y).mp z)
  exact ⟨(if0 _ _).trans (flt q).2.2.1, (if0 _ _).trans (flt q).2.2.2⟩
theorem own_jeq {x y : Int64} (h : x = y) : ifCond.holds .eq (lcmpW x y) = true ∧ ifCond.holds .ne (lcmpW x y) = false := by
  have q := (lw_eq x y).mpr h
  exact ⟨(if0 _ _).trans (teq q).1, (if0 _ _).trans (teq q).2⟩
theorem own_jne {x y : Int64} (h : ¬ x = y) : ifCond.holds .eq (lcmpW x y) = false ∧ ifCond.holds .ne (lcmpW x y) = true := by
  have q := fun z => h ((lw_eq x y).mp z)
  exact ⟨(if0 _ _).trans (feq q).1, (if0 _ _).trans (feq q).2⟩
theorem own_sta_keep {Z : State} {h h' : Heap} {C n d : String} {v : Value} {ws : List Addr} (F : Sta Z h C n d v) (K : Keep h h' ws) (q : ∀ x ∈ ws, ∃ cell : Cell, h[x]? = some cell ∧ cell.vm.isStatics = false) : Sta Z h' C n d v := by
  obtain ⟨cf, i, k, f, st, cell, h1, h2, h3, h4, h5, h6, h7⟩ := F
  refine ⟨cf, i, k, f, st, cell, h1, h2, h3, h4, K.2.1 st cell h5 (fun hm => ?_), h6, h7⟩
  obtain ⟨c', e1, e2⟩ := q st hm
  cases h5.symm.trans e1
  rw [e2] at h6; cases h6
theorem own_exa_ns {Z : State} {h : Heap} {a : Addr} {C : String} (E : Exa Z h a C) : ∃ cell : Cell, h[a]? = some cell ∧ cell.vm.isStatics = false := by
  obtain ⟨cell, k, h1, -, -, h4, -⟩ := E
  exact ⟨cell, h1, h4⟩
theorem own_arv_ns {Z : State} {h : Heap} {a : Addr} {k : ClassId} {ty : FieldType} {z : Int32} {vs : List Value} {dv : Value} (F : Arv Z h a k ty z vs dv) : ∃ cell : Cell, h[a]? = some cell ∧ cell.vm.isStatics = false := by
  obtain ⟨c, A, -⟩ := F
  exact ⟨c, A.1, A.plain⟩
theorem own_seg {tb : Tables} {e : Env} {below : List Frame} {U U' t : State} (a : Steps tb e below U' t → Steps tb e below U t) (b : Steps tb e below U' t) : Steps tb e below U t := a b
theorem own_NSroot {Z : State} {a0 : Array Value} {O K : String} {n : Nat} (w : (Jvm.Cond.noSuperclass O).before a0 Z = true) (wk : (Jvm.Cond.instantiable K n).before a0 Z = true) (hn : O ≠ K) : NS Z O K := by
  obtain ⟨c, k, h1, h2, h3, -, -⟩ := Cond.noSuperclass_spec w
  obtain ⟨t, kt, g1, -⟩ := Cond.instantiable_spec wk
  refine ⟨c, t, h1, g1, fun fuel => ?_⟩
  have ne := ids_ne h1 g1 hn
  cases fuel <;> simp [Vm.isSubclassAux, ne, h2, h3]
theorem own_NSno {Z : State} {a0 : Array Value} {C S K : String} {n : Nat} (w : (Jvm.Cond.superclass C S).before a0 Z = true) (wk : (Jvm.Cond.instantiable K n).before a0 Z = true) (nn : NS Z C K) (hn : C ≠ K) : ∃ c t, Z.vm.findClass C = some c ∧ Z.vm.findClass K = some t ∧ Z.vm.assignable c t = false := by
  obtain ⟨c, t, h0, g0, n3⟩ := nn
  obtain ⟨p, k, kp, h1, h2, h3, h4, h5, -, h7⟩ := Cond.superclass_spec h0 w
  obtain ⟨t', kt, g1, g2, g3, g4, -⟩ := Cond.instantiable_spec wk
  cases g0.symm.trans g1
  have g7 : kt.isInterface = false := by cases q : kt.isInterface <;> simp [q] at g4 ⊢
  have ne := ids_ne h0 g0 hn
  refine ⟨c, t, h0, g0, ?_⟩
  show Z.vm.assignableAux (255 + 1) c t = false
  simp [Vm.assignableAux, ne, h2, g2, h5, g3, g7, Vm.isSubclass, n3]
theorem own_and3 (x : Int32) : (x &&& (3 : Int32)) = (0 : Int32) ∨ (x &&& (3 : Int32)) = (1 : Int32) ∨ (x &&& (3 : Int32)) = (2 : Int32) ∨ (x &&& (3 : Int32)) = (3 : Int32) := by
  have h := c_mask x 3 2 (by decide) (by decide)
  have e0 : (0 : Int32).toInt = 0 := by decide
  have e1 : (1 : Int32).toInt = 1 := by decide
  have e2 : (2 : Int32).toInt = 2 := by decide
  have e3 : (3 : Int32).toInt = 3 := by decide
  simp only [← Int32.toInt_inj, e0, e1, e2, e3]
  omega
def Qla0 (Z : State) (ar : Addr) (kk : ClassId) (v1 v2 v3 : Int64) (h0 : Heap) (n0 : Nat) (v : Option Value) (h : Heap) (L : List Loc) : Prop := v = some (.long (0 : Int64)) ∧ Fr n0 L ∧ h = h0
theorem d_prog_26_method_8_0 : decode prog_26_method_8_code 0 = .ok (.aload_n 0, 1) := by decide +kernel
theorem d_prog_26_method_8_1 : decode prog_26_method_8_code 1 = .ok (.arraylength, 1) := by decide +kernel
theorem d_prog_26_method_8_2 : decode prog_26_method_8_code 2 = .ok (.ifCond .ne 7, 3) := by decide +kernel
theorem d_prog_26_method_8_5 : decode prog_26_method_8_code 5 = .ok (.lconst 0, 1) := by decide +kernel
theorem d_prog_26_method_8_6 : decode prog_26_method_8_code 6 = .ok (.goto 9, 3) := by decide +kernel
theorem d_prog_26_method_8_15 : decode prog_26_method_8_code 15 = .ok (.lreturn, 1) := by decide +kernel
theorem ef_rm_Qla0 (m : MethodId) (x0 : Addr) : entryFrame m #[(.ref x0)] 1 = mkF m 0 #[.val (.ref x0)] [] := by first | (simp [entryFrame, mkF, argsToLocals, Value.category]; done) | rfl
theorem pn_com_example_tenure_tenure_LayoutPath : plainName "com/example/tenure/tenure/LayoutPath" = true := by first | (simp [plainName, overriddenIn]; done) | decide +kernel
set_option maxRecDepth 65536 in
set_option maxHeartbeats 40000000 in
theorem rm_Qla0 (l : Launch) (Z : State) (a0 : Array Value) (hw : ∀ d ∈ tables_1, d.before a0 Z = true) (ws : List Jvm.Cond) (ar : Addr) (kk : ClassId) (v1 v2 v3 : Int64) (h0 : Heap) (n0 : Nat) (Z0 : n0 ≤ h0.size) (Va : Arv Z h0 ar kk .long (0 : Int32) [] (.long (0 : Int64))) :
    MetFree l (⟨"com/example/tenure/tenure/LayoutPath", "last", "([J)J"⟩ : MethodName) (head1 (Jvm.Cond.code (⟨"com/example/tenure/tenure/LayoutPath", "last", "([J)J"⟩ : MethodName) prog_26_method_8_code 1 (some .long) :: ws) ({ frames := 0, cells := 0, slots := 0, locals := 0 } : Room)) (fun aa_ UU_ => aa_ = #[(.ref ar)] ∧ Z.Warmed39 UU_.vm ∧ UU_.heap = h0) (fun _ _ _ _ _ => True) (fun _ UU_ oo_ VV_ => ∃ vv_ LL_, oo_ = .returned vv_ ∧ Qla0 Z ar kk v1 v2 v3 h0 n0 vv_ VV_.heap LL_ ∧ FrameEnd UU_ oo_ VV_ LL_ ({ frames := 0, cells := 0, slots := 0, locals := 0 } : Room).cells ({ frames := 0, cells := 0, slots := 0, locals := 0 } : Room).slots) := by
  refine MetFree.of_bodySF (plainFor_of_name pn_com_example_tenure_tenure_LayoutPath) hisR ?_
  intro p e s m args below meth c s₁ Bd hml0 hP hK
  obtain ⟨rfl, hZ, hh⟩ := hP
  have hx := Bd.exec
  have hby := Bd.bytes
  have hml : c.maxLocals = 1 := hml0
  have hown : s.vm.findClass "com/example/tenure/tenure/LayoutPath" = some m.cls := findClass_of_methodNamed Bd.named
  have hnm := (name_of_methodNamed Bd.named Bd.method).1
  have hlk : meth.locks = false := Bd.notSynchronized
  have X0 : Stand p l e ({ frames := 0, cells := 0, slots := 0, locals := 0 } : Room) s m #[(.ref ar)] below meth c s₁ [] 0 0 := Stand.of_body Bd
  have e0 : s₁.heap = h0 := by rw [← hh, Bd.state]; rfl
  have N0 := Fr.nil n0
  have K0 := Keep.refl h0 []
  show own_G p e below s (Qla0 Z ar kk v1 v2 v3 h0 n0) _ _ (s₁.setTop (entryFrame m #[(.ref ar)] 1))
  rw [ef_rm_Qla0 m ar]
  refine own_via (U' := s₁.setTop (mkF m 1 #[.val (.ref ar)] [(.ref ar)])) (fun t k => XS.aloadN X0.here hx rfl (hb hby d_prog_26_method_8_0) rfl rfl k) ?_
  obtain ⟨c1, Ar1, q1a, q1b, q1c, q1d, q1e⟩ := id Va
  refine own_via (U' := s₁.setTop (mkF m 2 #[.val (.ref ar)] [(.int (0 : Int32))])) (fun t k => (fun t k => X0.arraylength hx (by rw [e0]; exact Ar1.1) (State.isArrayOf_alike hZ.alike Ar1.2.1) (g := (mkF m 1 #[.val (.ref ar)] [(.ref ar)])) rfl rfl (hb hby d_prog_26_method_8_1) t (by rw [len_of q1b q1c]; exact k)) t k) ?_
  refine own_via (U' := s₁.setTop (mkF m 5 #[.val (.ref ar)] [])) (fun t k => XS.ifNo X0.here hx rfl (hb hby d_prog_26_method_8_2) rfl ((if0 _ _).trans (teq (by decide : ((0 : Int32) = (0 : Int32)))).2) k) ?_
  refine own_via (U' := s₁.setTop (mkF m 6 #[.val (.ref ar)] [(.long (0 : Int64))])) (fun t k => XS.lconst X0.here hx rfl (hb hby d_prog_26_method_8_5) k) ?_
  refine own_via (U' := s₁.setTop (mkF m 15 #[.val (.ref ar)] [(.long (0 : Int64))])) (fun t k => XS.goto X0.here hx rfl (pc0 := 6) (pc' := 15) rfl (hb hby d_prog_26_method_8_6) (by decide) (by decide) k) ?_
  exact own_ret X0 (v := some (.long (0 : Int64))) (fun h => by rw [Bd.returns] at h; cases h) hlk (fun fs hr => retOut X0 hx (t := .long) Bd.returns rfl (Or.inr (Or.inl ⟨rfl, rfl, _, rfl⟩)) (hb hby d_prog_26_method_8_15) hr) (by rw [e0]; exact ⟨rfl, N0, rfl⟩) (by decide) (by decide)
def Qla1 (Z : State) (ar : Addr) (kk : ClassId) (v1 v2 v3 : Int64) (h0 : Heap) (n0 : Nat) (v : Option Value) (h : Heap) (L : List Loc) : Prop := v = some (.long v1) ∧ Fr n0 L ∧ h = h0
theorem d_prog_26_method_8_9 : decode prog_26_method_8_code 9 = .ok (.aload_n 0, 1) := by decide +kernel
theorem d_prog_26_method_8_10 : decode prog_26_method_8_code 10 = .ok (.aload_n 0, 1) := by decide +kernel
theorem d_prog_26_method_8_11 : decode prog_26_method_8_code 11 = .ok (.arraylength, 1) := by decide +kernel
theorem d_prog_26_method_8_12 : decode prog_26_method_8_code 12 = .ok (.iconst 1, 1) := by decide +kernel
theorem d_prog_26_method_8_13 : decode prog_26_method_8_code 13 = .ok (.isub, 1) := by decide +kernel
theorem d_prog_26_method_8_14 : decode prog_26_method_8_code 14 = .ok (.laload, 1) := by decide +kernel
theorem ef_rm_Qla1 (m : MethodId) (x0 : Addr) : entryFrame m #[(.ref x0)] 1 = mkF m 0 #[.val (.ref x0)] [] := by first | (simp [entryFrame, mkF, argsToLocals, Value.category]; done) | rfl
set_option maxRecDepth 65536 in
set_option maxHeartbeats 40000000 in
theorem rm_Qla1 (l : Launch) (Z : State) (a0 : Array Value) (hw : ∀ d ∈ tables_1, d.before a0 Z = true) (ws : List Jvm.Cond) (ar : Addr) (kk : ClassId) (v1 v2 v3 : Int64) (h0 : Heap) (n0 : Nat) (Z0 : n0 ≤ h0.size) (Va : Arv Z h0 ar kk .long (1 : Int32) [(.long v1)] (.long (0 : Int64))) :
    MetFree l (⟨"com/example/tenure/tenure/LayoutPath", "last", "([J)J"⟩ : MethodName) (head1 (Jvm.Cond.code (⟨"com/example/tenure/tenure/LayoutPath", "last", "([J)J"⟩ : MethodName) prog_26_method_8_code 1 (some .long) :: ws) ({ frames := 0, cells := 0, slots := 0, locals := 0 } : Room)) (fun aa_ UU_ => aa_ = #[(.ref ar)] ∧ Z.Warmed39 UU_.vm ∧ UU_.heap = h0) (fun _ _ _ _ _ => True) (fun _ UU_ oo_ VV_ => ∃ vv_ LL_, oo_ = .returned vv_ ∧ Qla1 Z ar kk v1 v2 v3 h0 n0 vv_ VV_.heap LL_ ∧ FrameEnd UU_ oo_ VV_ LL_ ({ frames := 0, cells := 0, slots := 0, locals := 0 } : Room).cells ({ frames := 0, cells := 0, slots := 0, locals := 0 } : Room).slots) := by
  refine MetFree.of_bodySF (plainFor_of_name pn_com_example_tenure_tenure_LayoutPath) hisR ?_
  intro p e s m args below meth c s₁ Bd hml0 hP hK
  obtain ⟨rfl, hZ, hh⟩ := hP
  have hx := Bd.exec
  have hby := Bd.bytes
  have hml : c.maxLocals = 1 := hml0
  have hown : s.vm.findClass "com/example/tenure/tenure/LayoutPath" = some m.cls := findClass_of_methodNamed Bd.named
  have hnm := (name_of_methodNamed Bd.named Bd.method).1
  have hlk : meth.locks = false := Bd.notSynchronized
  have X0 : Stand p l e ({ frames := 0, cells := 0, slots := 0, locals := 0 } : Room) s m #[(.ref ar)] below meth c s₁ [] 0 0 := Stand.of_body Bd
  have e0 : s₁.heap = h0 := by rw [← hh, Bd.state]; rfl
  have N0 := Fr.nil n0
  have K0 := Keep.refl h0 []
  show own_G p e below s (Qla1 Z ar kk v1 v2 v3 h0 n0) _ _ (s₁.setTop (entryFrame m #[(.ref ar)] 1))
  rw [ef_rm_Qla1 m ar]
  refine own_via (U' := s₁.setTop (mkF m 1 #[.val (.ref ar)] [(.ref ar)])) (fun t k => XS.aloadN X0.here hx rfl (hb hby d_prog_26_method_8_0) rfl rfl k) ?_
  obtain ⟨c1, Ar1, q1a, q1b, q1c, q1d, q1e⟩ := id Va
  refine own_via (U' := s₁.setTop (mkF m 2 #[.val (.ref ar)] [(.int (1 : Int32))])) (fun t k => (fun t k => X0.arraylength hx (by rw [e0]; exact Ar1.1) (State.isArrayOf_alike hZ.alike Ar1.2.1) (g := (mkF m 1 #[.val (.ref ar)] [(.ref ar)])) rfl rfl (hb hby d_prog_26_method_8_1) t (by rw [len_of q1b q1c]; exact k)) t k) ?_
  refine own_via (U' := s₁.setTop (mkF m 9 #[.val (.ref ar)] [])) (fun t k => XS.ifYes X0.here hx rfl (pc0 := 2) (pc' := 9) rfl (hb hby d_prog_26_method_8_2) rfl ((if0 _ _).trans (feq (by decide : ¬ ((1 : Int32) = (0 : Int32)))).2) (by decide) (by decide) k) ?_
  refine own_via (U' := s₁.setTop (mkF m 10 #[.val (.ref ar)] [(.ref ar)])) (fun t k => XS.aloadN X0.here hx rfl (hb hby d_prog_26_method_8_9) rfl rfl k) ?_
  refine own_via (U' := s₁.setTop (mkF m 11 #[.val (.ref ar)] [(.ref ar), (.ref ar)])) (fun t k => XS.aloadN X0.here hx rfl (hb hby d_prog_26_method_8_10) rfl rfl k) ?_
  obtain ⟨c2, Ar2, q2a, q2b, q2c, q2d, q2e⟩ := id Va
  refine own_via (U' := s₁.setTop (mkF m 12 #[.val (.ref ar)] [(.int (1 : Int32)), (.ref ar)])) (fun t k => (fun t k => X0.arraylength hx (by rw [e0]; exact Ar2.1) (State.isArrayOf_alike hZ.alike Ar2.2.1) (g := (mkF m 11 #[.val (.ref ar)] [(.ref ar), (.ref ar)])) rfl rfl (hb hby d_prog_26_method_8_11) t (by rw [len_of q2b q2c]; exact k)) t k) ?_
  refine own_via (U' := s₁.setTop (mkF m 13 #[.val (.ref ar)] [(.int (1 : Int32)), (.int (1 : Int32)), (.ref ar)])) (fun t k => XS.iconst X0.here hx rfl (hb hby d_prog_26_method_8_12) k) ?_
  refine own_via (U' := s₁.setTop (mkF m 14 #[.val (.ref ar)] [(.int ((1 : Int32) - (1 : Int32))), (.ref ar)])) (fun t k => XS.isub X0.here hx rfl (hb hby d_prog_26_method_8_13) rfl k) ?_
  rw [show ((1 : Int32) - (1 : Int32)) = (0 : Int32) from by decide]
  obtain ⟨c3, Ar3, q3a, q3b, q3c, q3d, q3e⟩ := id Va
  refine own_via (U' := s₁.setTop (mkF m 15 #[.val (.ref ar)] [(.long v1)])) (fun t k => X0.laload hx (j := (0 : Int32)) (v := (.long v1)) (by rw [e0]; exact Ar3.1) (State.isArrayOf_alike hZ.alike Ar3.2.1) Ar3.2.2 (inb_of q3b (by decide)) (q3d.at (inb_of q3b (by decide)) rfl) (g := (mkF m 14 #[.val (.ref ar)] [(.int (0 : Int32)), (.ref ar)])) rfl rfl (hb hby d_prog_26_method_8_14) _ k) ?_
  exact own_ret X0 (v := some (.long v1)) (fun h => by rw [Bd.returns] at h; cases h) hlk (fun fs hr => retOut X0 hx (t := .long) Bd.returns rfl (Or.inr (Or.inl ⟨rfl, rfl, _, rfl⟩)) (hb hby d_prog_26_method_8_15) hr) (by rw [e0]; exact ⟨rfl, N0, rfl⟩) (by decide) (by decide)
def Qla2 (Z : State) (ar : Addr) (kk : ClassId) (v1 v2 v3 : Int64) (h0 : Heap) (n0 : Nat) (v : Option Value) (h : Heap) (L : List Loc) : Prop := v = some (.long v2) ∧ Fr n0 L ∧ h = h0
theorem ef_rm_Qla2 (m : MethodId) (x0 : Addr) : entryFrame m #[(.ref x0)] 1 = mkF m 0 #[.val (.ref x0)] [] := by first | (simp [entryFrame, mkF, argsToLocals, Value.category]; done) | rfl
set_option maxRecDepth 65536 in
set_option maxHeartbeats 40000000 in
theorem rm_Qla2 (l : Launch) (Z : State) (a0 : Array Value) (hw : ∀ d ∈ tables_1, d.before a0 Z = true) (ws : List Jvm.Cond) (ar : Addr) (kk : ClassId) (v1 v2 v3 : Int64) (h0 : Heap) (n0 : Nat) (Z0 : n0 ≤ h0.size) (Va : Arv Z h0 ar kk .long (2 : Int32) [(.long v1), (.long v2)] (.long (0 : Int64))) :
    MetFree l (⟨"com/example/tenure/tenure/LayoutPath", "last", "([J)J"⟩ : MethodName) (head1 (Jvm.Cond.code (⟨"com/example/tenure/tenure/LayoutPath", "last", "([J)J"⟩ : MethodName) prog_26_method_8_code 1 (some .long) :: ws) ({ frames := 0, cells := 0, slots := 0, locals := 0 } : Room)) (fun aa_ UU_ => aa_ = #[(.ref ar)] ∧ Z.Warmed39 UU_.vm ∧ UU_.heap = h0) (fun _ _ _ _ _ => True) (fun _ UU_ oo_ VV_ => ∃ vv_ LL_, oo_ = .returned vv_ ∧ Qla2 Z ar kk v1 v2 v3 h0 n0 vv_ VV_.heap LL_ ∧ FrameEnd UU_ oo_ VV_ LL_ ({ frames := 0, cells := 0, slots := 0, locals := 0 } : Room).cells ({ frames := 0, cells := 0, slots := 0, locals := 0 } : Room).slots) := by
  refine MetFree.of_bodySF (plainFor_of_name pn_com_example_tenure_tenure_LayoutPath) hisR ?_
  intro p e s m args below meth c s₁ Bd hml0 hP hK
  obtain ⟨rfl, hZ, hh⟩ := hP
  have hx := Bd.exec
  have hby := Bd.bytes
  have hml : c.maxLocals = 1 := hml0
  have hown : s.vm.findClass "com/example/tenure/tenure/LayoutPath" = some m.cls := findClass_of_methodNamed Bd.named
  have hnm := (name_of_methodNamed Bd.named Bd.method).1
  have hlk : meth.locks = false := Bd.notSynchronized
  have X0 : Stand p l e ({ frames := 0, cells := 0, slots := 0, locals := 0 } : Room) s m #[(.ref ar)] below meth c s₁ [] 0 0 := Stand.of_body Bd
  have e0 : s₁.heap = h0 := by rw [← hh, Bd.state]; rfl
  have N0 := Fr.nil n0
  have K0 := Keep.refl h0 []
  show own_G p e below s (Qla2 Z ar kk v1 v2 v3 h0 n0) _ _ (s₁.setTop (entryFrame m #[(.ref ar)] 1))
  rw [ef_rm_Qla2 m ar]
  refine own_via (U' := s₁.setTop (mkF m 1 #[.val (.ref ar)] [(.ref ar)])) (fun t k => XS.aloadN X0.here hx rfl (hb hby d_prog_26_method_8_0) rfl rfl k) ?_
  obtain ⟨c1, Ar1, q1a, q1b, q1c, q1d, q1e⟩ := id Va
  refine own_via (U' := s₁.setTop (mkF m 2 #[.val (.ref ar)] [(.int (2 : Int32))])) (fun t k => (fun t k => X0.arraylength hx (by rw [e0]; exact Ar1.1) (State.isArrayOf_alike hZ.alike Ar1.2.1) (g := (mkF m 1 #[.val (.ref ar)] [(.ref ar)])) rfl rfl (hb hby d_prog_26_method_8_1) t (by rw [len_of q1b q1c]; exact k)) t k) ?_
  refine own_via (U' := s₁.setTop (mkF m 9 #[.val (.ref ar)] [])) (fun t k => XS.ifYes X0.here hx rfl (pc0 := 2) (pc' := 9) rfl (hb hby d_prog_26_method_8_2) rfl ((if0 _ _).trans (feq (by decide : ¬ ((2 : Int32) = (0 : Int32)))).2) (by decide) (by decide) k) ?_
  refine own_via (U' := s₁.setTop (mkF m 10 #[.val (.ref ar)] [(.ref ar)])) (fun t k => XS.aloadN X0.here hx rfl (hb hby d_prog_26_method_8_9) rfl rfl k) ?_
  refine own_via (U' := s₁.setTop (mkF m 11 #[.val (.ref ar)] [(.ref ar), (.ref ar)])) (fun t k => XS.aloadN X0.here hx rfl (hb hby d_prog_26_method_8_10) rfl rfl k) ?_
  obtain ⟨c2, Ar2, q2a, q2b, q2c, q2d, q2e⟩ := id Va
  refine own_via (U' := s₁.setTop (mkF m 12 #[.val (.ref ar)] [(.int (2 : Int32)), (.ref ar)])) (fun t k => (fun t k => X0.arraylength hx (by rw [e0]; exact Ar2.1) (State.isArrayOf_alike hZ.alike Ar2.2.1) (g := (mkF m 11 #[.val (.ref ar)] [(.ref ar), (.ref ar)])) rfl rfl (hb hby d_prog_26_method_8_11) t (by rw [len_of q2b q2c]; exact k)) t k) ?_
  refine own_via (U' := s₁.setTop (mkF m 13 #[.val (.ref ar)] [(.int (1 : Int32)), (.int (2 : Int32)), (.ref ar)])) (fun t k => XS.iconst X0.here hx rfl (hb hby d_prog_26_method_8_12) k) ?_
  refine own_via (U' := s₁.setTop (mkF m 14 #[.val (.ref ar)] [(.int ((2 : Int32) - (1 : Int32))), (.ref ar)])) (fun t k => XS.isub X0.here hx rfl (hb hby d_prog_26_method_8_13) rfl k) ?_
  rw [show ((2 : Int32) - (1 : Int32)) = (1 : Int32) from by decide]
  obtain ⟨c3, Ar3, q3a, q3b, q3c, q3d, q3e⟩ := id Va
  refine own_via (U' := s₁.setTop (mkF m 15 #[.val (.ref ar)] [(.long v2)])) (fun t k => X0.laload hx (j := (1 : Int32)) (v := (.long v2)) (by rw [e0]; exact Ar3.1) (State.isArrayOf_alike hZ.alike Ar3.2.1) Ar3.2.2 (inb_of q3b (by decide)) (q3d.at (inb_of q3b (by decide)) rfl) (g := (mkF m 14 #[.val (.ref ar)] [(.int (1 : Int32)), (.ref ar)])) rfl rfl (hb hby d_prog_26_method_8_14) _ k) ?_
  exact own_ret X0 (v := some (.long v2)) (fun h => by rw [Bd.returns] at h; cases h) hlk (fun fs hr => retOut X0 hx (t := .long) Bd.returns rfl (Or.inr (Or.inl ⟨rfl, rfl, _, rfl⟩)) (hb hby d_prog_26_method_8_15) hr) (by rw [e0]; exact ⟨rfl, N0, rfl⟩) (by decide) (by decide)
def Qla3 (Z : State) (ar : Addr) (kk : ClassId) (v1 v2 v3 : Int64) (h0 : Heap) (n0 : Nat) (v : Option Value) (h : Heap) (L : List Loc) : Prop := v = some (.long v3) ∧ Fr n0 L ∧ h = h0
theorem ef_rm_Qla3 (m : MethodId) (x0 : Addr) : entryFrame m #[(.ref x0)] 1 = mkF m 0 #[.val (.ref x0)] [] := by first | (simp [entryFrame, mkF, argsToLocals, Value.category]; done) | rfl
set_option maxRecDepth 65536 in
set_option maxHeartbeats 40000000 in
theorem rm_Qla3 (l : Launch) (Z : State) (a0 : Array Value) (hw : ∀ d ∈ tables_1, d.before a0 Z = true) (ws : List Jvm.Cond) (ar : Addr) (kk : ClassId) (v1 v2 v3 : Int64) (h0 : Heap) (n0 : Nat) (Z0 : n0 ≤ h0.size) (Va : Arv Z h0 ar kk .long (3 : Int32) [(.long v1), (.long v2), (.long v3)] (.long (0 : Int64))) :
    MetFree l (⟨"com/example/tenure/tenure/LayoutPath", "last", "([J)J"⟩ : MethodName) (head1 (Jvm.Cond.code (⟨"com/example/tenure/tenure/LayoutPath", "last", "([J)J"⟩ : MethodName) prog_26_method_8_code 1 (some .long) :: ws) ({ frames := 0, cells := 0, slots := 0, locals := 0 } : Room)) (fun aa_ UU_ => aa_ = #[(.ref ar)] ∧ Z.Warmed39 UU_.vm ∧ UU_.heap = h0) (fun _ _ _ _ _ => True) (fun _ UU_ oo_ VV_ => ∃ vv_ LL_, oo_ = .returned vv_ ∧ Qla3 Z ar kk v1 v2 v3 h0 n0 vv_ VV_.heap LL_ ∧ FrameEnd UU_ oo_ VV_ LL_ ({ frames := 0, cells := 0, slots := 0, locals := 0 } : Room).cells ({ frames := 0, cells := 0, slots := 0, locals := 0 } : Room).slots) := by
  refine MetFree.of_bodySF (plainFor_of_name pn_com_example_tenure_tenure_LayoutPath) hisR ?_
  intro p e s m args below meth c s₁ Bd hml0 hP hK
  obtain ⟨rfl, hZ, hh⟩ := hP
  have hx := Bd.exec
  have hby := Bd.bytes
  have hml : c.maxLocals = 1 := hml0
  have hown : s.vm.findClass "com/example/tenure/tenure/LayoutPath" = some m.cls := findClass_of_methodNamed Bd.named
  have hnm := (name_of_methodNamed Bd.named Bd.method).1
  have hlk : meth.locks = false := Bd.notSynchronized
  have X0 : Stand p l e ({ frames := 0, cells := 0, slots := 0, locals := 0 } : Room) s m #[(.ref ar)] below meth c s₁ [] 0 0 := Stand.of_body Bd
  have e0 : s₁.heap = h0 := by rw [← hh, Bd.state]; rfl
  have N0 := Fr.nil n0
  have K0 := Keep.refl h0 []
  show own_G p e below s (Qla3 Z ar kk v1 v2 v3 h0 n0) _ _ (s₁.setTop (entryFrame m #[(.ref ar)] 1))
  rw [ef_rm_Qla3 m ar]
  refine own_via (U' := s₁.setTop (mkF m 1 #[.val (.ref ar)] [(.ref ar)])) (fun t k => XS.aloadN X0.here hx rfl (hb hby d_prog_26_method_8_0) rfl rfl k) ?_
  obtain ⟨c1, Ar1, q1a, q1b, q1c, q1d, q1e⟩ := id Va
  refine own_via (U' := s₁.setTop (mkF m 2 #[.val (.ref ar)] [(.int (3 : Int32))])) (fun t k => (fun t k => X0.arraylength hx (by rw [e0]; exact Ar1.1) (State.isArrayOf_alike hZ.alike Ar1.2.1) (g := (mkF m 1 #[.val (.ref ar)] [(.ref ar)])) rfl rfl (hb hby d_prog_26_method_8_1) t (by rw [len_of q1b q1c]; exact k)) t k) ?_
  refine own_via (U' := s₁.setTop (mkF m 9 #[.val (.ref ar)] [])) (fun t k => XS.ifYes X0.here hx rfl (pc0 := 2) (pc' := 9) rfl (hb hby d_prog_26_method_8_2) rfl ((if0 _ _).trans (feq (by decide : ¬ ((3 : Int32) = (0 : Int32)))).2) (by decide) (by decide) k) ?_
  refine own_via (U' := s₁.setTop (mkF m 10 #[.val (.ref ar)] [(.ref ar)])) (fun t k => XS.aloadN X0.here hx rfl (hb hby d_prog_26_method_8_9) rfl rfl k) ?_
  refine own_via (U' := s₁.setTop (mkF m 11 #[.val (.ref ar)] [(.ref ar), (.ref ar)])) (fun t k => XS.aloadN X0.here hx rfl (hb hby d_prog_26_method_8_10) rfl rfl k) ?_
  obtain ⟨c2, Ar2, q2a, q2b, q2c, q2d, q2e⟩ := id Va
  refine own_via (U' := s₁.setTop (mkF m 12 #[.val (.ref ar)] [(.int (3 : Int32)), (.ref ar)])) (fun t k => (fun t k => X0.arraylength hx (by rw [e0]; exact Ar2.1) (State.isArrayOf_alike hZ.alike Ar2.2.1) (g := (mkF m 11 #[.val (.ref ar)] [(.ref ar), (.ref ar)])) rfl rfl (hb hby d_prog_26_method_8_11) t (by rw [len_of q2b q2c]; exact k)) t k) ?_
  refine own_via (U' := s₁.setTop (mkF m 13 #[.val (.ref ar)] [(.int (1 : Int32)), (.int (3 : Int32)), (.ref ar)])) (fun t k => XS.iconst X0.here hx rfl (hb hby d_prog_26_method_8_12) k) ?_
  refine own_via (U' := s₁.setTop (mkF m 14 #[.val (.ref ar)] [(.int ((3 : Int32) - (1 : Int32))), (.ref ar)])) (fun t k => XS.isub X0.here hx rfl (hb hby d_prog_26_method_8_13) rfl k) ?_
  rw [show ((3 : Int32) - (1 : Int32)) = (2 : Int32) from by decide]
  obtain ⟨c3, Ar3, q3a, q3b, q3c, q3d, q3e⟩ := id Va
  refine own_via (U' := s₁.setTop (mkF m 15 #[.val (.ref ar)] [(.long v3)])) (fun t k => X0.laload hx (j := (2 : Int32)) (v := (.long v3)) (by rw [e0]; exact Ar3.1) (State.isArrayOf_alike hZ.alike Ar3.2.1) Ar3.2.2 (inb_of q3b (by decide)) (q3d.at (inb_of q3b (by decide)) rfl) (g := (mkF m 14 #[.val (.ref ar)] [(.int (2 : Int32)), (.ref ar)])) rfl rfl (hb hby d_prog_26_method_8_14) _ k) ?_
  exact own_ret X0 (v := some (.long v3)) (fun h => by rw [Bd.returns] at h; cases h) hlk (fun fs hr => retOut X0 hx (t := .long) Bd.returns rfl (Or.inr (Or.inl ⟨rfl, rfl, _, rfl⟩)) (hb hby d_prog_26_method_8_15) hr) (by rw [e0]; exact ⟨rfl, N0, rfl⟩) (by decide) (by decide)
def Q0 (Z : State) (x1 : Int32) (x2 x3 x4 : Int64) (h0 : Heap) (n0 : Nat) (v : Option Value) (h : Heap) (L : List Loc) : Prop := v = some (.int 1) ∧ Fr n0 L
theorem pd_AJ__J : parseMethodDescriptor "([J)J" = some ⟨[(.array .long)], some .long⟩ := by decide +kernel
theorem ef_rm_Q0 (m : MethodId) (x0 : Int32) (x1 : Int64) (x2 : Int64) (x3 : Int64) : entryFrame m #[(.int x0), (.long x1), (.long x2), (.long x3)] maxLocals = mkF m 0 #[.val (.int x0), .val (.long x1), .second, .val (.long x2), .second, .val (.long x3), .second, .unset, .unset, .unset, .unset, .unset, .unset, .unset] [] := by first | (simp [entryFrame, mkF, argsToLocals, Value.category, maxLocals]; done) | rfl
theorem pn_com_example_tenure_tenure_LayoutPathLastPinLaw : plainName "com/example/tenure/tenure/LayoutPathLastPinLaw" = true := by first | (simp [plainName, overriddenIn]; done) | decide +kernel
set_option maxRecDepth 65536 in
set_option maxHeartbeats 40000000 in
theorem rm_Q0 (l : Launch) (Z : State) (a0 : Array Value) (hw : ∀ d ∈ tables_1, d.before a0 Z = true) (ws : List Jvm.Cond) (x1 : Int32) (x2 x3 x4 : Int64) (h0 : Heap) (n0 : Nat) (Z0 : n0 ≤ h0.size) :
    MetFree l x (head1 (Jvm.Cond.code x code maxLocals ret :: ws) room_1) (fun aa_ UU_ => aa_ = #[(.int x1), (.long x2), (.long x3), (.long x4)] ∧ Z.Warmed39 UU_.vm ∧ UU_.heap = h0) (fun _ _ _ _ _ => True) (fun _ UU_ oo_ VV_ => ∃ vv_ LL_, oo_ = .returned vv_ ∧ Q0 Z x1 x2 x3 x4 h0 n0 vv_ VV_.heap LL_ ∧ FrameEnd UU_ oo_ VV_ LL_ room_1.cells room_1.slots) := by
  refine MetFree.of_bodySF (plainFor_of_name pn_com_example_tenure_tenure_LayoutPathLastPinLaw) hisR ?_
  intro p e s m args below meth c s₁ Bd hml0 hP hK
  obtain ⟨rfl, hZ, hh⟩ := hP
  have hx := Bd.exec
  have hby := Bd.bytes
  have hml : c.maxLocals = 14 := hml0
  have hown : s.vm.findClass "com/example/tenure/tenure/LayoutPathLastPinLaw" = some m.cls := findClass_of_methodNamed Bd.named
  have hnm := (name_of_methodNamed Bd.named Bd.method).1
  have hlk : meth.locks = false := Bd.notSynchronized
  have X0 : Stand p l e room_1 s m #[(.int x1), (.long x2), (.long x3), (.long x4)] below meth c s₁ [] 0 0 := Stand.of_body Bd
  have e0 : s₁.heap = h0 := by rw [← hh, Bd.state]; rfl
  have N0 := Fr.nil n0
  have K0 := Keep.refl h0 []
  show own_G p e below s (Q0 Z x1 x2 x3 x4 h0 n0) _ _ (s₁.setTop (entryFrame m #[(.int x1), (.long x2), (.long x3), (.long x4)] maxLocals))
  rw [ef_rm_Q0 m x1 x2 x3 x4]
  refine own_via (U' := s₁.setTop (mkF m 1 #[.val (.int x1), .val (.long x2), .second, .val (.long x3), .second, .val (.long x4), .second, .unset, .unset, .unset, .unset, .unset, .unset, .unset] [(.int x1)])) (fun t k => XS.iloadN X0.here hx rfl (hb hby at_0) rfl k) ?_
  refine own_via (U' := s₁.setTop (mkF m 2 #[.val (.int x1), .val (.long x2), .second, .val (.long x3), .second, .val (.long x4), .second, .unset, .unset, .unset, .unset, .unset, .unset, .unset] [(.int (3 : Int32)), (.int x1)])) (fun t k => XS.iconst X0.here hx rfl (hb hby at_1) k) ?_
  refine own_via (U' := s₁.setTop (mkF m 3 #[.val (.int x1), .val (.long x2), .second, .val (.long x3), .second, .val (.long x4), .second, .unset, .unset, .unset, .unset, .unset, .unset, .unset] [(.int (x1 &&& (3 : Int32)))])) (fun t k => XS.iand X0.here hx rfl (hb hby at_2) rfl k) ?_
  refine own_via (U' := s₁.setTop (mkF m 5 #[.val (.int x1), .val (.long x2), .second, .val (.long x3), .second, .val (.long x4), .second, .val (.int (x1 &&& (3 : Int32))), .unset, .unset, .unset, .unset, .unset, .unset] [])) (fun t k => XS.istore X0.here hx rfl (hb hby at_3) rfl (l' := #[.val (.int x1), .val (.long x2), .second, .val (.long x3), .second, .val (.long x4), .second, .val (.int (x1 &&& (3 : Int32))), .unset, .unset, .unset, .unset, .unset, .unset]) rfl k) ?_
  rcases own_and3 x1 with h4 | h4 | h4 | h4
  · rw [h4]
    refine own_via (U' := s₁.setTop (mkF m 7 #[.val (.int x1), .val (.long x2), .second, .val (.long x3), .second, .val (.long x4), .second, .val (.int (0 : Int32)), .unset, .unset, .unset, .unset, .unset, .unset] [(.int (0 : Int32))])) (fun t k => XS.iload X0.here hx rfl (hb hby at_5) rfl k) ?_
    obtain ⟨T1, h1, k1, X1, e1, E1, A1, st1⟩ := newP X0 hx hZ (hw _ (List.mem_of_getElem? (i := 0) rfl)) e0 (g := (mkF m 7 #[.val (.int x1), .val (.long x2), .second, .val (.long x3), .second, .val (.long x4), .second, .val (.int (0 : Int32)), .unset, .unset, .unset, .unset, .unset, .unset] [(.int (0 : Int32))])) rfl (hb hby at_7) rfl (by decide) (cap := 0) (by decide) (by decide) (by decide) (by decide)
    obtain ⟨b1, g1⟩ : ∃ z, z = h0.size := ⟨_, rfl⟩
    rw [← g1] at A1 st1
    have gn_b1 : n0 ≤ b1 := Nat.le_trans Z0 (Nat.le_of_eq g1.symm)
    have sz_b1 : h0.size ≤ b1 := Nat.le_trans K0.1 (Nat.le_of_eq g1.symm)
    have V1 : Arv Z h1 b1 k1 .long (0 : Int32) [] (.long (0 : Int64)) := (Arv.new A1 (by decide)).pad (pad_rep [] (.long (0 : Int64)) 0)
    have Z2 : n0 ≤ h1.size := Nat.le_trans Z0 E1.1
    have K2 := K0.ext E1
    refine own_via (U' := T1.setTop (mkF m 9 #[.val (.int x1), .val (.long x2), .second, .val (.long x3), .second, .val (.long x4), .second, .val (.int (0 : Int32)), .unset, .unset, .unset, .unset, .unset, .unset] [(.ref b1)])) (fun t k => st1 t k) ?_
    refine own_via (U' := T1.setTop (mkF m 11 #[.val (.int x1), .val (.long x2), .second, .val (.long x3), .second, .val (.long x4), .second, .val (.int (0 : Int32)), .val (.ref b1), .unset, .unset, .unset, .unset, .unset] [])) (fun t k => XS.astore X1.here hx rfl (hb hby at_9) rfl rfl (l' := #[.val (.int x1), .val (.long x2), .second, .val (.long x3), .second, .val (.long x4), .second, .val (.int (0 : Int32)), .val (.ref b1), .unset, .unset, .unset, .unset, .unset]) rfl k) ?_
    refine own_via (U' := T1.setTop (mkF m 13 #[.val (.int x1), .val (.long x2), .second, .val (.long x3), .second, .val (.long x4), .second, .val (.int (0 : Int32)), .val (.ref b1), .unset, .unset, .unset, .unset, .unset] [(.int (0 : Int32))])) (fun t k => XS.iload X1.here hx rfl (hb hby at_11) rfl k) ?_
    refine own_via (U' := T1.setTop (mkF m 21 #[.val (.int x1), .val (.long x2), .second, .val (.long x3), .second, .val (.long x4), .second, .val (.int (0 : Int32)), .val (.ref b1), .unset, .unset, .unset, .unset, .unset] [])) (fun t k => XS.ifYes X1.here hx rfl (pc0 := 13) (pc' := 21) rfl (hb hby at_13) rfl ((if0 _ _).trans (flt (by decide : ¬ ((0 : Int32) < (0 : Int32)))).2.2.2) (by decide) (by decide) k) ?_
    refine own_via (U' := T1.setTop (mkF m 23 #[.val (.int x1), .val (.long x2), .second, .val (.long x3), .second, .val (.long x4), .second, .val (.int (0 : Int32)), .val (.ref b1), .unset, .unset, .unset, .unset, .unset] [(.int (0 : Int32))])) (fun t k => XS.iload X1.here hx rfl (hb hby at_21) rfl k) ?_
    refine own_via (U' := T1.setTop (mkF m 24 #[.val (.int x1), .val (.long x2), .second, .val (.long x3), .second, .val (.long x4), .second, .val (.int (0 : Int32)), .val (.ref b1), .unset, .unset, .unset, .unset, .unset] [(.int (1 : Int32)), (.int (0 : Int32))])) (fun t k => XS.iconst X1.here hx rfl (hb hby at_23) k) ?_
    refine own_via (U' := T1.setTop (mkF m 32 #[.val (.int x1), .val (.long x2), .second, .val (.long x3), .second, .val (.long x4), .second, .val (.int (0 : Int32)), .val (.ref b1), .unset, .unset, .unset, .unset, .unset] [])) (fun t k => XS.icmpYes X1.here hx rfl (pc0 := 24) (pc' := 32) rfl (hb hby at_24) rfl (flt (by decide : ¬ ((1 : Int32) < (0 : Int32)))).2.2.2 (by decide) (by decide) k) ?_
    refine own_via (U' := T1.setTop (mkF m 34 #[.val (.int x1), .val (.long x2), .second, .val (.long x3), .second, .val (.long x4), .second, .val (.int (0 : Int32)), .val (.ref b1), .unset, .unset, .unset, .unset, .unset] [(.int (0 : Int32))])) (fun t k => XS.iload X1.here hx rfl (hb hby at_32) rfl k) ?_
    refine own_via (U' := T1.setTop (mkF m 35 #[.val (.int x1), .val (.long x2), .second, .val (.long x3), .second, .val (.long x4), .second, .val (.int (0 : Int32)), .val (.ref b1), .unset, .unset, .unset, .unset, .unset] [(.int (2 : Int32)), (.int (0 : Int32))])) (fun t k => XS.iconst X1.here hx rfl (hb hby at_34) k) ?_
    refine own_via (U' := T1.setTop (mkF m 44 #[.val (.int x1), .val (.long x2), .second, .val (.long x3), .second, .val (.long x4), .second, .val (.int (0 : Int32)), .val (.ref b1), .unset, .unset, .unset, .unset, .unset] [])) (fun t k => XS.icmpYes X1.here hx rfl (pc0 := 35) (pc' := 44) rfl (hb hby at_35) rfl (flt (by decide : ¬ ((2 : Int32) < (0 : Int32)))).2.2.2 (by decide) (by decide) k) ?_
    refine own_via (U' := T1.setTop (mkF m 46 #[.val (.int x1), .val (.long x2), .second, .val (.long x3), .second, .val (.long x4), .second, .val (.int (0 : Int32)), .val (.ref b1), .unset, .unset, .unset, .unset, .unset] [(.ref b1)])) (fun t k => XS.aload X1.here hx rfl (hb hby at_44) rfl rfl k) ?_
    obtain ⟨_, T3, L3, X3, hQ3, st3⟩ := own_callS X1 hx hZ (y := (⟨"com/example/tenure/tenure/LayoutPath", "last", "([J)J"⟩ : MethodName)) (W := 0) hown (hw _ (List.mem_of_getElem? (i := 1) rfl)) (hw _ (List.mem_of_getElem? (i := 2) rfl)) (hw _ (List.mem_of_getElem? (i := 3) rfl)) (hw _ (List.mem_of_getElem? (i := 4) rfl)) (by decide) (rm_Qla0 l Z a0 hw [] b1 k1 x2 x3 x4 h1 n0 Z2 V1) (by decide) (by decide) e1 (g := (mkF m 46 #[.val (.int x1), .val (.long x2), .second, .val (.long x3), .second, .val (.long x4), .second, .val (.int (0 : Int32)), .val (.ref b1), .unset, .unset, .unset, .unset, .unset] [(.ref b1)])) rfl (by rw [hml]; rfl) (argsL := [(.ref b1)]) (rest := []) rfl (lenOf pd_AJ__J rfl) rfl (by show 2 * 0 + _ ≤ _; exact Nat.le_of_eq rfl) (hb hby at_46) (by decide) (by decide)
    obtain ⟨rfl, N3q, e3⟩ := hQ3
    have N3 := Fr.app N0 N3q
    refine own_via (U' := T3.setTop (mkF m 49 #[.val (.int x1), .val (.long x2), .second, .val (.long x3), .second, .val (.long x4), .second, .val (.int (0 : Int32)), .val (.ref b1), .unset, .unset, .unset, .unset, .unset] [(.long (0 : Int64))])) (fun t k => st3 t k) ?_
    refine own_via (U' := T3.setTop (mkF m 51 #[.val (.int x1), .val (.long x2), .second, .val (.long x3), .second, .val (.long x4), .second, .val (.int (0 : Int32)), .val (.ref b1), .val (.long (0 : Int64)), .second, .unset, .unset, .unset] [])) (fun t k => XS.lstore X3.here hx rfl (hb hby at_49) rfl (l' := #[.val (.int x1), .val (.long x2), .second, .val (.long x3), .second, .val (.long x4), .second, .val (.int (0 : Int32)), .val (.ref b1), .val (.long (0 : Int64)), .second, .unset, .unset, .unset]) rfl k) ?_
    refine own_via (U' := T3.setTop (mkF m 53 #[.val (.int x1), .val (.long x2), .second, .val (.long x3), .second, .val (.long x4), .second, .val (.int (0 : Int32)), .val (.ref b1), .val (.long (0 : Int64)), .second, .unset, .unset, .unset] [(.int (0 : Int32))])) (fun t k => XS.iload X3.here hx rfl (hb hby at_51) rfl k) ?_
    refine own_via (U' := T3.setTop (mkF m 56 #[.val (.int x1), .val (.long x2), .second, .val (.long x3), .second, .val (.long x4), .second, .val (.int (0 : Int32)), .val (.ref b1), .val (.long (0 : Int64)), .second, .unset, .unset, .unset] [])) (fun t k => XS.ifNo X3.here hx rfl (hb hby at_53) rfl ((if0 _ _).trans (teq (by decide : ((0 : Int32) = (0 : Int32)))).2) k) ?_
    refine own_via (U' := T3.setTop (mkF m 57 #[.val (.int x1), .val (.long x2), .second, .val (.long x3), .second, .val (.long x4), .second, .val (.int (0 : Int32)), .val (.ref b1), .val (.long (0 : Int64)), .second, .unset, .unset, .unset] [(.long (0 : Int64))])) (fun t k => XS.lconst X3.here hx rfl (hb hby at_56) k) ?_
    refine own_via (U' := T3.setTop (mkF m 59 #[.val (.int x1), .val (.long x2), .second, .val (.long x3), .second, .val (.long x4), .second, .val (.int (0 : Int32)), .val (.ref b1), .val (.long (0 : Int64)), .second, .val (.long (0 : Int64)), .second, .unset] [])) (fun t k => XS.lstore X3.here hx rfl (hb hby at_57) rfl (l' := #[.val (.int x1), .val (.long x2), .second, .val (.long x3), .second, .val (.long x4), .second, .val (.int (0 : Int32)), .val (.ref b1), .val (.long (0 : Int64)), .second, .val (.long (0 : Int64)), .second, .unset]) rfl k) ?_
    refine own_via (U' := T3.setTop (mkF m 90 #[.val (.int x1), .val (.long x2), .second, .val (.long x3), .second, .val (.long x4), .second, .val (.int (0 : Int32)), .val (.ref b1), .val (.long (0 : Int64)), .second, .val (.long (0 : Int64)), .second, .unset] [])) (fun t k => XS.goto X3.here hx rfl (pc0 := 59) (pc' := 90) rfl (hb hby at_59) (by decide) (by decide) k) ?_
    refine own_via (U' := T3.setTop (mkF m 92 #[.val (.int x1), .val (.long x2), .second, .val (.long x3), .second, .val (.long x4), .second, .val (.int (0 : Int32)), .val (.ref b1), .val (.long (0 : Int64)), .second, .val (.long (0 : Int64)), .second, .unset] [(.int (0 : Int32))])) (fun t k => XS.iload X3.here hx rfl (hb hby at_90) rfl k) ?_
    refine own_via (U' := T3.setTop (mkF m 93 #[.val (.int x1), .val (.long x2), .second, .val (.long x3), .second, .val (.long x4), .second, .val (.int (0 : Int32)), .val (.ref b1), .val (.long (0 : Int64)), .second, .val (.long (0 : Int64)), .second, .unset] [(.int (1 : Int32)), (.int (0 : Int32))])) (fun t k => XS.iconst X3.here hx rfl (hb hby at_92) k) ?_
    refine own_via (U' := T3.setTop (mkF m 105 #[.val (.int x1), .val (.long x2), .second, .val (.long x3), .second, .val (.long x4), .second, .val (.int (0 : Int32)), .val (.ref b1), .val (.long (0 : Int64)), .second, .val (.long (0 : Int64)), .second, .unset] [])) (fun t k => XS.icmpYes X3.here hx rfl (pc0 := 93) (pc' := 105) rfl (hb hby at_93) rfl (tlt (by decide : ((0 : Int32) < (1 : Int32)))).1 (by decide) (by decide) k) ?_
    refine own_via (U' := T3.setTop (mkF m 107 #[.val (.int x1), .val (.long x2), .second, .val (.long x3), .second, .val (.long x4), .second, .val (.int (0 : Int32)), .val (.ref b1), .val (.long (0 : Int64)), .second, .val (.long (0 : Int64)), .second, .unset] [(.int (0 : Int32))])) (fun t k => XS.iload X3.here hx rfl (hb hby at_105) rfl k) ?_
    refine own_via (U' := T3.setTop (mkF m 108 #[.val (.int x1), .val (.long x2), .second, .val (.long x3), .second, .val (.long x4), .second, .val (.int (0 : Int32)), .val (.ref b1), .val (.long (0 : Int64)), .second, .val (.long (0 : Int64)), .second, .unset] [(.int (2 : Int32)), (.int (0 : Int32))])) (fun t k => XS.iconst X3.here hx rfl (hb hby at_107) k) ?_
    refine own_via (U' := T3.setTop (mkF m 120 #[.val (.int x1), .val (.long x2), .second, .val (.long x3), .second, .val (.long x4), .second, .val (.int (0 : Int32)), .val (.ref b1), .val (.long (0 : Int64)), .second, .val (.long (0 : Int64)), .second, .unset] [])) (fun t k => XS.icmpYes X3.here hx rfl (pc0 := 108) (pc' := 120) rfl (hb hby at_108) rfl (tlt (by decide : ((0 : Int32) < (2 : Int32)))).1 (by decide) (by decide) k) ?_
    refine own_via (U' := T3.setTop (mkF m 122 #[.val (.int x1), .val (.long x2), .second, .val (.long x3), .second, .val (.long x4), .second, .val (.int (0 : Int32)), .val (.ref b1), .val (.long (0 : Int64)), .second, .val (.long (0 : Int64)), .second, .unset] [(.int (0 : Int32))])) (fun t k => XS.iload X3.here hx rfl (hb hby at_120) rfl k) ?_
    refine own_via (U' := T3.setTop (mkF m 123 #[.val (.int x1), .val (.long x2), .second, .val (.long x3), .second, .val (.long x4), .second, .val (.int (0 : Int32)), .val (.ref b1), .val (.long (0 : Int64)), .second, .val (.long (0 : Int64)), .second, .unset] [(.int (3 : Int32)), (.int (0 : Int32))])) (fun t k => XS.iconst X3.here hx rfl (hb hby at_122) k) ?_
    refine own_via (U' := T3.setTop (mkF m 136 #[.val (.int x1), .val (.long x2), .second, .val (.long x3), .second, .val (.long x4), .second, .val (.int (0 : Int32)), .val (.ref b1), .val (.long (0 : Int64)), .second, .val (.long (0 : Int64)), .second, .unset] [])) (fun t k => XS.icmpYes X3.here hx rfl (pc0 := 123) (pc' := 136) rfl (hb hby at_123) rfl (tlt (by decide : ((0 : Int32) < (3 : Int32)))).1 (by decide) (by decide) k) ?_
    refine own_via (U' := T3.setTop (mkF m 137 #[.val (.int x1), .val (.long x2), .second, .val (.long x3), .second, .val (.long x4), .second, .val (.int (0 : Int32)), .val (.ref b1), .val (.long (0 : Int64)), .second, .val (.long (0 : Int64)), .second, .unset] [(.int (1 : Int32))])) (fun t k => XS.iconst X3.here hx rfl (hb hby at_136) k) ?_
    refine own_via (U' := T3.setTop (mkF m 141 #[.val (.int x1), .val (.long x2), .second, .val (.long x3), .second, .val (.long x4), .second, .val (.int (0 : Int32)), .val (.ref b1), .val (.long (0 : Int64)), .second, .val (.long (0 : Int64)), .second, .unset] [(.int (1 : Int32))])) (fun t k => XS.goto X3.here hx rfl (pc0 := 137) (pc' := 141) rfl (hb hby at_137) (by decide) (by decide) k) ?_
    refine own_via (U' := T3.setTop (mkF m 143 #[.val (.int x1), .val (.long x2), .second, .val (.long x3), .second, .val (.long x4), .second, .val (.int (0 : Int32)), .val (.ref b1), .val (.long (0 : Int64)), .second, .val (.long (0 : Int64)), .second, .val (.int (1 : Int32))] [])) (fun t k => XS.istore X3.here hx rfl (hb hby at_141) rfl (l' := #[.val (.int x1), .val (.long x2), .second, .val (.long x3), .second, .val (.long x4), .second, .val (.int (0 : Int32)), .val (.ref b1), .val (.long (0 : Int64)), .second, .val (.long (0 : Int64)), .second, .val (.int (1 : Int32))]) rfl k) ?_
    refine own_via (U' := T3.setTop (mkF m 145 #[.val (.int x1), .val (.long x2), .second, .val (.long x3), .second, .val (.long x4), .second, .val (.int (0 : Int32)), .val (.ref b1), .val (.long (0 : Int64)), .second, .val (.long (0 : Int64)), .second, .val (.int (1 : Int32))] [(.long (0 : Int64))])) (fun t k => XS.lload X3.here hx rfl (hb hby at_143) rfl k) ?_
    refine own_via (U' := T3.setTop (mkF m 147 #[.val (.int x1), .val (.long x2), .second, .val (.long x3), .second, .val (.long x4), .second, .val (.int (0 : Int32)), .val (.ref b1), .val (.long (0 : Int64)), .second, .val (.long (0 : Int64)), .second, .val (.int (1 : Int32))] [(.long (0 : Int64)), (.long (0 : Int64))])) (fun t k => XS.lload X3.here hx rfl (hb hby at_145) rfl k) ?_
    refine own_via (U' := T3.setTop (mkF m 148 #[.val (.int x1), .val (.long x2), .second, .val (.long x3), .second, .val (.long x4), .second, .val (.int (0 : Int32)), .val (.ref b1), .val (.long (0 : Int64)), .second, .val (.long (0 : Int64)), .second, .val (.int (1 : Int32))] [(.int (lcmpW (0 : Int64) (0 : Int64)))])) (fun t k => XS.lcmp X3.here hx rfl (hb hby at_147) rfl k) ?_
    refine own_via (U' := T3.setTop (mkF m 151 #[.val (.int x1), .val (.long x2), .second, .val (.long x3), .second, .val (.long x4), .second, .val (.int (0 : Int32)), .val (.ref b1), .val (.long (0 : Int64)), .second, .val (.long (0 : Int64)), .second, .val (.int (1 : Int32))] [])) (fun t k => XS.ifNo X3.here hx rfl (hb hby at_148) rfl (own_jeq (by decide : ((0 : Int64) = (0 : Int64)))).2 k) ?_
    refine own_via (U' := T3.setTop (mkF m 153 #[.val (.int x1), .val (.long x2), .second, .val (.long x3), .second, .val (.long x4), .second, .val (.int (0 : Int32)), .val (.ref b1), .val (.long (0 : Int64)), .second, .val (.long (0 : Int64)), .second, .val (.int (1 : Int32))] [(.int (1 : Int32))])) (fun t k => XS.iload X3.here hx rfl (hb hby at_151) rfl k) ?_
    refine own_via (U' := T3.setTop (mkF m 156 #[.val (.int x1), .val (.long x2), .second, .val (.long x3), .second, .val (.long x4), .second, .val (.int (0 : Int32)), .val (.ref b1), .val (.long (0 : Int64)), .second, .val (.long (0 : Int64)), .second, .val (.int (1 : Int32))] [])) (fun t k => XS.ifNo X3.here hx rfl (hb hby at_153) rfl ((if0 _ _).trans (feq (by decide : ¬ ((1 : Int32) = (0 : Int32)))).1) k) ?_
    refine own_via (U' := T3.setTop (mkF m 158 #[.val (.int x1), .val (.long x2), .second, .val (.long x3), .second, .val (.long x4), .second, .val (.int (0 : Int32)), .val (.ref b1), .val (.long (0 : Int64)), .second, .val (.long (0 : Int64)), .second, .val (.int (1 : Int32))] [(.ref b1)])) (fun t k => XS.aload X3.here hx rfl (hb hby at_156) rfl rfl k) ?_
    obtain ⟨c4, Ar4, q4a, q4b, q4c, q4d, q4e⟩ := id V1
    refine own_via (U' := T3.setTop (mkF m 159 #[.val (.int x1), .val (.long x2), .second, .val (.long x3), .second, .val (.long x4), .second, .val (.int (0 : Int32)), .val (.ref b1), .val (.long (0 : Int64)), .second, .val (.long (0 : Int64)), .second, .val (.int (1 : Int32))] [(.int (0 : Int32))])) (fun t k => (fun t k => X3.arraylength hx (by rw [e3]; exact Ar4.1) (State.isArrayOf_alike hZ.alike Ar4.2.1) (g := (mkF m 158 #[.val (.int x1), .val (.long x2), .second, .val (.long x3), .second, .val (.long x4), .second, .val (.int (0 : Int32)), .val (.ref b1), .val (.long (0 : Int64)), .second, .val (.long (0 : Int64)), .second, .val (.int (1 : Int32))] [(.ref b1)])) rfl rfl (hb hby at_158) t (by rw [len_of q4b q4c]; exact k)) t k) ?_
    refine own_via (U' := T3.setTop (mkF m 161 #[.val (.int x1), .val (.long x2), .second, .val (.long x3), .second, .val (.long x4), .second, .val (.int (0 : Int32)), .val (.ref b1), .val (.long (0 : Int64)), .second, .val (.long (0 : Int64)), .second, .val (.int (1 : Int32))] [(.int (0 : Int32)), (.int (0 : Int32))])) (fun t k => XS.iload X3.here hx rfl (hb hby at_159) rfl k) ?_
    refine own_via (U' := T3.setTop (mkF m 164 #[.val (.int x1), .val (.long x2), .second, .val (.long x3), .second, .val (.long x4), .second, .val (.int (0 : Int32)), .val (.ref b1), .val (.long (0 : Int64)), .second, .val (.long (0 : Int64)), .second, .val (.int (1 : Int32))] [])) (fun t k => XS.icmpNo X3.here hx rfl (hb hby at_161) rfl (teq (by decide : ((0 : Int32) = (0 : Int32)))).2 k) ?_
    refine own_via (U' := T3.setTop (mkF m 165 #[.val (.int x1), .val (.long x2), .second, .val (.long x3), .second, .val (.long x4), .second, .val (.int (0 : Int32)), .val (.ref b1), .val (.long (0 : Int64)), .second, .val (.long (0 : Int64)), .second, .val (.int (1 : Int32))] [(.int (1 : Int32))])) (fun t k => XS.iconst X3.here hx rfl (hb hby at_164) k) ?_
    refine own_via (U' := T3.setTop (mkF m 169 #[.val (.int x1), .val (.long x2), .second, .val (.long x3), .second, .val (.long x4), .second, .val (.int (0 : Int32)), .val (.ref b1), .val (.long (0 : Int64)), .second, .val (.long (0 : Int64)), .second, .val (.int (1 : Int32))] [(.int (1 : Int32))])) (fun t k => XS.goto X3.here hx rfl (pc0 := 165) (pc' := 169) rfl (hb hby at_165) (by decide) (by decide) k) ?_
    exact own_ret X3 (v := some (.int (1 : Int32))) (fun h => by rw [Bd.returns] at h; cases h) hlk (fun fs hr => retN X3 hx (t := .boolean) Bd.returns (by simp) (hb hby at_169) hr) (by rw [e3]; exact ⟨rfl, N3⟩) (by decide) (by decide)
  · rw [h4]
    refine own_via (U' := s₁.setTop (mkF m 7 #[.val (.int x1), .val (.long x2), .second, .val (.long x3), .second, .val (.long x4), .second, .val (.int (1 : Int32)), .unset, .unset, .unset, .unset, .unset, .unset] [(.int (1 : Int32))])) (fun t k => XS.iload X0.here hx rfl (hb hby at_5) rfl k) ?_
    obtain ⟨T5, h5, k5, X5, e5, E5, A5, st5⟩ := newP X0 hx hZ (hw _ (List.mem_of_getElem? (i := 0) rfl)) e0 (g := (mkF m 7 #[.val (.int x1), .val (.long x2), .second, .val (.long x3), .second, .val (.long x4), .second, .val (.int (1 : Int32)), .unset, .unset, .unset, .unset, .unset, .unset] [(.int (1 : Int32))])) rfl (hb hby at_7) rfl (by decide) (cap := 1) (by decide) (by decide) (by decide) (by decide)
    obtain ⟨b5, g5⟩ : ∃ z, z = h0.size := ⟨_, rfl⟩
    rw [← g5] at A5 st5
    have gn_b5 : n0 ≤ b5 := Nat.le_trans Z0 (Nat.le_of_eq g5.symm)
    have sz_b5 : h0.size ≤ b5 := Nat.le_trans K0.1 (Nat.le_of_eq g5.symm)
    have V5 : Arv Z h5 b5 k5 .long (1 : Int32) [(.long (0 : Int64))] (.long (0 : Int64)) := (Arv.new A5 (by decide)).pad (pad_rep [] (.long (0 : Int64)) 1)
    have Z6 : n0 ≤ h5.size := Nat.le_trans Z0 E5.1
    have K6 := K0.ext E5
    refine own_via (U' := T5.setTop (mkF m 9 #[.val (.int x1), .val (.long x2), .second, .val (.long x3), .second, .val (.long x4), .second, .val (.int (1 : Int32)), .unset, .unset, .unset, .unset, .unset, .unset] [(.ref b5)])) (fun t k => st5 t k) ?_
    refine own_via (U' := T5.setTop (mkF m 11 #[.val (.int x1), .val (.long x2), .second, .val (.long x3), .second, .val (.long x4), .second, .val (.int (1 : Int32)), .val (.ref b5), .unset, .unset, .unset, .unset, .unset] [])) (fun t k => XS.astore X5.here hx rfl (hb hby at_9) rfl rfl (l' := #[.val (.int x1), .val (.long x2), .second, .val (.long x3), .second, .val (.long x4), .second, .val (.int (1 : Int32)), .val (.ref b5), .unset, .unset, .unset, .unset, .unset]) rfl k) ?_
    refine own_via (U' := T5.setTop (mkF m 13 #[.val (.int x1), .val (.long x2), .second, .val (.long x3), .second, .val (.long x4), .second, .val (.int (1 : Int32)), .val (.ref b5), .unset, .unset, .unset, .unset, .unset] [(.int (1 : Int32))])) (fun t k => XS.iload X5.here hx rfl (hb hby at_11) rfl k) ?_
    refine own_via (U' := T5.setTop (mkF m 16 #[.val (.int x1), .val (.long x2), .second, .val (.long x3), .second, .val (.long x4), .second, .val (.int (1 : Int32)), .val (.ref b5), .unset, .unset, .unset, .unset, .unset] [])) (fun t k => XS.ifNo X5.here hx rfl (hb hby at_13) rfl ((if0 _ _).trans (tlt (by decide : ((0 : Int32) < (1 : Int32)))).2.2.2) k) ?_
    refine own_via (U' := T5.setTop (mkF m 18 #[.val (.int x1), .val (.long x2), .second, .val (.long x3), .second, .val (.long x4), .second, .val (.int (1 : Int32)), .val (.ref b5), .unset, .unset, .unset, .unset, .unset] [(.ref b5)])) (fun t k => XS.aload X5.here hx rfl (hb hby at_16) rfl rfl k) ?_
    refine own_via (U' := T5.setTop (mkF m 19 #[.val (.int x1), .val (.long x2), .second, .val (.long x3), .second, .val (.long x4), .second, .val (.int (1 : Int32)), .val (.ref b5), .unset, .unset, .unset, .unset, .unset] [(.int (0 : Int32)), (.ref b5)])) (fun t k => XS.iconst X5.here hx rfl (hb hby at_18) k) ?_
    refine own_via (U' := T5.setTop (mkF m 20 #[.val (.int x1), .val (.long x2), .second, .val (.long x3), .second, .val (.long x4), .second, .val (.int (1 : Int32)), .val (.ref b5), .unset, .unset, .unset, .unset, .unset] [(.long x2), (.int (0 : Int32)), (.ref b5)])) (fun t k => XS.lloadN X5.here hx rfl (hb hby at_19) rfl k) ?_
    obtain ⟨c7, Ar7, q7a, q7b, q7c, q7d, q7e⟩ := id V5
    obtain ⟨T7, h7, X7, e7, W7, st7⟩ := stJ X5 hx hZ e5 Ar7 (inb_of q7b (by decide)) (g := (mkF m 20 #[.val (.int x1), .val (.long x2), .second, .val (.long x3), .second, .val (.long x4), .second, .val (.int (1 : Int32)), .val (.ref b5), .unset, .unset, .unset, .unset, .unset] [(.long x2), (.int (0 : Int32)), (.ref b5)])) rfl rfl (hb hby at_20)
    have V7 : Arv Z h7 b5 k5 .long (1 : Int32) [(.long x2)] (.long (0 : Int64)) := Arv.set Ar7 q7a q7b q7c q7d q7e rfl W7 0 rfl (Nat.le_of_ble_eq_true rfl)
    have Z8 : n0 ≤ h7.size := Nat.le_trans Z6 (Keep.of_wr W7).1
    have K8 := K6.wr W7 (Or.inr sz_b5)
    have N7 := Fr.snoc X7 N0 gn_b5
    refine own_via (U' := T7.setTop (mkF m 21 #[.val (.int x1), .val (.long x2), .second, .val (.long x3), .second, .val (.long x4), .second, .val (.int (1 : Int32)), .val (.ref b5), .unset, .unset, .unset, .unset, .unset] [])) (fun t k => st7 t k) ?_
    refine own_via (U' := T7.setTop (mkF m 23 #[.val (.int x1), .val (.long x2), .second, .val (.long x3), .second, .val (.long x4), .second, .val (.int (1 : Int32)), .val (.ref b5), .unset, .unset, .unset, .unset, .unset] [(.int (1 : Int32))])) (fun t k => XS.iload X7.here hx rfl (hb hby at_21) rfl k) ?_
    refine own_via (U' := T7.setTop (mkF m 24 #[.val (.int x1), .val (.long x2), .second, .val (.long x3), .second, .val (.long x4), .second, .val (.int (1 : Int32)), .val (.ref b5), .unset, .unset, .unset, .unset, .unset] [(.int (1 : Int32)), (.int (1 : Int32))])) (fun t k => XS.iconst X7.here hx rfl (hb hby at_23) k) ?_
    refine own_via (U' := T7.setTop (mkF m 32 #[.val (.int x1), .val (.long x2), .second, .val (.long x3), .second, .val (.long x4), .second, .val (.int (1 : Int32)), .val (.ref b5), .unset, .unset, .unset, .unset, .unset] [])) (fun t k => XS.icmpYes X7.here hx rfl (pc0 := 24) (pc' := 32) rfl (hb hby at_24) rfl (flt (by decide : ¬ ((1 : Int32) < (1 : Int32)))).2.2.2 (by decide) (by decide) k) ?_
    refine own_via (U' := T7.setTop (mkF m 34 #[.val (.int x1), .val (.long x2), .second, .val (.long x3), .second, .val (.long x4), .second, .val (.int (1 : Int32)), .val (.ref b5), .unset, .unset, .unset, .unset, .unset] [(.int (1 : Int32))])) (fun t k => XS.iload X7.here hx rfl (hb hby at_32) rfl k) ?_
    refine own_via (U' := T7.setTop (mkF m 35 #[.val (.int x1), .val (.long x2), .second, .val (.long x3), .second, .val (.long x4), .second, .val (.int (1 : Int32)), .val (.ref b5), .unset, .unset, .unset, .unset, .unset] [(.int (2 : Int32)), (.int (1 : Int32))])) (fun t k => XS.iconst X7.here hx rfl (hb hby at_34) k) ?_
    refine own_via (U' := T7.setTop (mkF m 44 #[.val (.int x1), .val (.long x2), .second, .val (.long x3), .second, .val (.long x4), .second, .val (.int (1 : Int32)), .val (.ref b5), .unset, .unset, .unset, .unset, .unset] [])) (fun t k => XS.icmpYes X7.here hx rfl (pc0 := 35) (pc' := 44) rfl (hb hby at_35) rfl (flt (by decide : ¬ ((2 : Int32) < (1 : Int32)))).2.2.2 (by decide) (by decide) k) ?_
    refine own_via (U' := T7.setTop (mkF m 46 #[.val (.int x1), .val (.long x2), .second, .val (.long x3), .second, .val (.long x4), .second, .val (.int (1 : Int32)), .val (.ref b5), .unset, .unset, .unset, .unset, .unset] [(.ref b5)])) (fun t k => XS.aload X7.here hx rfl (hb hby at_44) rfl rfl k) ?_
    obtain ⟨_, T9, L9, X9, hQ9, st9⟩ := own_callS X7 hx hZ (y := (⟨"com/example/tenure/tenure/LayoutPath", "last", "([J)J"⟩ : MethodName)) (W := 0) hown (hw _ (List.mem_of_getElem? (i := 1) rfl)) (hw _ (List.mem_of_getElem? (i := 2) rfl)) (hw _ (List.mem_of_getElem? (i := 3) rfl)) (hw _ (List.mem_of_getElem? (i := 4) rfl)) (by decide) (rm_Qla1 l Z a0 hw [] b5 k5 x2 x3 x4 h7 n0 Z8 V7) (by decide) (by decide) e7 (g := (mkF m 46 #[.val (.int x1), .val (.long x2), .second, .val (.long x3), .second, .val (.long x4), .second, .val (.int (1 : Int32)), .val (.ref b5), .unset, .unset, .unset, .unset, .unset] [(.ref b5)])) rfl (by rw [hml]; rfl) (argsL := [(.ref b5)]) (rest := []) rfl (lenOf pd_AJ__J rfl) rfl (by show 2 * 0 + _ ≤ _; exact Nat.le_of_eq rfl) (hb hby at_46) (by decide) (by decide)
    obtain ⟨rfl, N9q, e9⟩ := hQ9
    have N9 := Fr.app N7 N9q
    refine own_via (U' := T9.setTop (mkF m 49 #[.val (.int x1), .val (.long x2), .second, .val (.long x3), .second, .val (.long x4), .second, .val (.int (1 : Int32)), .val (.ref b5), .unset, .unset, .unset, .unset, .unset] [(.long x2)])) (fun t k => st9 t k) ?_
    refine own_via (U' := T9.setTop (mkF m 51 #[.val (.int x1), .val (.long x2), .second, .val (.long x3), .second, .val (.long x4), .second, .val (.int (1 : Int32)), .val (.ref b5), .val (.long x2), .second, .unset, .unset, .unset] [])) (fun t k => XS.lstore X9.here hx rfl (hb hby at_49) rfl (l' := #[.val (.int x1), .val (.long x2), .second, .val (.long x3), .second, .val (.long x4), .second, .val (.int (1 : Int32)), .val (.ref b5), .val (.long x2), .second, .unset, .unset, .unset]) rfl k) ?_
    refine own_via (U' := T9.setTop (mkF m 53 #[.val (.int x1), .val (.long x2), .second, .val (.long x3), .second, .val (.long x4), .second, .val (.int (1 : Int32)), .val (.ref b5), .val (.long x2), .second, .unset, .unset, .unset] [(.int (1 : Int32))])) (fun t k => XS.iload X9.here hx rfl (hb hby at_51) rfl k) ?_
    refine own_via (U' := T9.setTop (mkF m 62 #[.val (.int x1), .val (.long x2), .second, .val (.long x3), .second, .val (.long x4), .second, .val (.int (1 : Int32)), .val (.ref b5), .val (.long x2), .second, .unset, .unset, .unset] [])) (fun t k => XS.ifYes X9.here hx rfl (pc0 := 53) (pc' := 62) rfl (hb hby at_53) rfl ((if0 _ _).trans (feq (by decide : ¬ ((1 : Int32) = (0 : Int32)))).2) (by decide) (by decide) k) ?_
    refine own_via (U' := T9.setTop (mkF m 64 #[.val (.int x1), .val (.long x2), .second, .val (.long x3), .second, .val (.long x4), .second, .val (.int (1 : Int32)), .val (.ref b5), .val (.long x2), .second, .unset, .unset, .unset] [(.int (1 : Int32))])) (fun t k => XS.iload X9.here hx rfl (hb hby at_62) rfl k) ?_
    refine own_via (U' := T9.setTop (mkF m 65 #[.val (.int x1), .val (.long x2), .second, .val (.long x3), .second, .val (.long x4), .second, .val (.int (1 : Int32)), .val (.ref b5), .val (.long x2), .second, .unset, .unset, .unset] [(.int (1 : Int32)), (.int (1 : Int32))])) (fun t k => XS.iconst X9.here hx rfl (hb hby at_64) k) ?_
    refine own_via (U' := T9.setTop (mkF m 68 #[.val (.int x1), .val (.long x2), .second, .val (.long x3), .second, .val (.long x4), .second, .val (.int (1 : Int32)), .val (.ref b5), .val (.long x2), .second, .unset, .unset, .unset] [])) (fun t k => XS.icmpNo X9.here hx rfl (hb hby at_65) rfl (teq (by decide : ((1 : Int32) = (1 : Int32)))).2 k) ?_
    refine own_via (U' := T9.setTop (mkF m 69 #[.val (.int x1), .val (.long x2), .second, .val (.long x3), .second, .val (.long x4), .second, .val (.int (1 : Int32)), .val (.ref b5), .val (.long x2), .second, .unset, .unset, .unset] [(.long x2)])) (fun t k => XS.lloadN X9.here hx rfl (hb hby at_68) rfl k) ?_
    refine own_via (U' := T9.setTop (mkF m 71 #[.val (.int x1), .val (.long x2), .second, .val (.long x3), .second, .val (.long x4), .second, .val (.int (1 : Int32)), .val (.ref b5), .val (.long x2), .second, .val (.long x2), .second, .unset] [])) (fun t k => XS.lstore X9.here hx rfl (hb hby at_69) rfl (l' := #[.val (.int x1), .val (.long x2), .second, .val (.long x3), .second, .val (.long x4), .second, .val (.int (1 : Int32)), .val (.ref b5), .val (.long x2), .second, .val (.long x2), .second, .unset]) rfl k) ?_
    refine own_via (U' := T9.setTop (mkF m 90 #[.val (.int x1), .val (.long x2), .second, .val (.long x3), .second, .val (.long x4), .second, .val (.int (1 : Int32)), .val (.ref b5), .val (.long x2), .second, .val (.long x2), .second, .unset] [])) (fun t k => XS.goto X9.here hx rfl (pc0 := 71) (pc' := 90) rfl (hb hby at_71) (by decide) (by decide) k) ?_
    refine own_via (U' := T9.setTop (mkF m 92 #[.val (.int x1), .val (.long x2), .second, .val (.long x3), .second, .val (.long x4), .second, .val (.int (1 : Int32)), .val (.ref b5), .val (.long x2), .second, .val (.long x2), .second, .unset] [(.int (1 : Int32))])) (fun t k => XS.iload X9.here hx rfl (hb hby at_90) rfl k) ?_
    refine own_via (U' := T9.setTop (mkF m 93 #[.val (.int x1), .val (.long x2), .second, .val (.long x3), .second, .val (.long x4), .second, .val (.int (1 : Int32)), .val (.ref b5), .val (.long x2), .second, .val (.long x2), .second, .unset] [(.int (1 : Int32)), (.int (1 : Int32))])) (fun t k => XS.iconst X9.here hx rfl (hb hby at_92) k) ?_
    refine own_via (U' := T9.setTop (mkF m 96 #[.val (.int x1), .val (.long x2), .second, .val (.long x3), .second, .val (.long x4), .second, .val (.int (1 : Int32)), .val (.ref b5), .val (.long x2), .second, .val (.long x2), .second, .unset] [])) (fun t k => XS.icmpNo X9.here hx rfl (hb hby at_93) rfl (flt (by decide : ¬ ((1 : Int32) < (1 : Int32)))).1 k) ?_
    refine own_via (U' := T9.setTop (mkF m 98 #[.val (.int x1), .val (.long x2), .second, .val (.long x3), .second, .val (.long x4), .second, .val (.int (1 : Int32)), .val (.ref b5), .val (.long x2), .second, .val (.long x2), .second, .unset] [(.ref b5)])) (fun t k => XS.aload X9.here hx rfl (hb hby at_96) rfl rfl k) ?_
    refine own_via (U' := T9.setTop (mkF m 99 #[.val (.int x1), .val (.long x2), .second, .val (.long x3), .second, .val (.long x4), .second, .val (.int (1 : Int32)), .val (.ref b5), .val (.long x2), .second, .val (.long x2), .second, .unset] [(.int (0 : Int32)), (.ref b5)])) (fun t k => XS.iconst X9.here hx rfl (hb hby at_98) k) ?_
    obtain ⟨c10, Ar10, q10a, q10b, q10c, q10d, q10e⟩ := id V7
    refine own_via (U' := T9.setTop (mkF m 100 #[.val (.int x1), .val (.long x2), .second, .val (.long x3), .second, .val (.long x4), .second, .val (.int (1 : Int32)), .val (.ref b5), .val (.long x2), .second, .val (.long x2), .second, .unset] [(.long x2)])) (fun t k => X9.laload hx (j := (0 : Int32)) (v := (.long x2)) (by rw [e9]; exact Ar10.1) (State.isArrayOf_alike hZ.alike Ar10.2.1) Ar10.2.2 (inb_of q10b (by decide)) (q10d.at (inb_of q10b (by decide)) rfl) (g := (mkF m 99 #[.val (.int x1), .val (.long x2), .second, .val (.long x3), .second, .val (.long x4), .second, .val (.int (1 : Int32)), .val (.ref b5), .val (.long x2), .second, .val (.long x2), .second, .unset] [(.int (0 : Int32)), (.ref b5)])) rfl rfl (hb hby at_99) _ k) ?_
    refine own_via (U' := T9.setTop (mkF m 101 #[.val (.int x1), .val (.long x2), .second, .val (.long x3), .second, .val (.long x4), .second, .val (.int (1 : Int32)), .val (.ref b5), .val (.long x2), .second, .val (.long x2), .second, .unset] [(.long x2), (.long x2)])) (fun t k => XS.lloadN X9.here hx rfl (hb hby at_100) rfl k) ?_
    refine own_via (U' := T9.setTop (mkF m 102 #[.val (.int x1), .val (.long x2), .second, .val (.long x3), .second, .val (.long x4), .second, .val (.int (1 : Int32)), .val (.ref b5), .val (.long x2), .second, .val (.long x2), .second, .unset] [(.int (lcmpW x2 x2))])) (fun t k => XS.lcmp X9.here hx rfl (hb hby at_101) rfl k) ?_
    refine own_via (U' := T9.setTop (mkF m 105 #[.val (.int x1), .val (.long x2), .second, .val (.long x3), .second, .val (.long x4), .second, .val (.int (1 : Int32)), .val (.ref b5), .val (.long x2), .second, .val (.long x2), .second, .unset] [])) (fun t k => XS.ifNo X9.here hx rfl (hb hby at_102) rfl (own_jeq (rfl : x2 = x2)).2 k) ?_
    refine own_via (U' := T9.setTop (mkF m 107 #[.val (.int x1), .val (.long x2), .second, .val (.long x3), .second, .val (.long x4), .second, .val (.int (1 : Int32)), .val (.ref b5), .val (.long x2), .second, .val (.long x2), .second, .unset] [(.int (1 : Int32))])) (fun t k => XS.iload X9.here hx rfl (hb hby at_105) rfl k) ?_
    refine own_via (U' := T9.setTop (mkF m 108 #[.val (.int x1), .val (.long x2), .second, .val (.long x3), .second, .val (.long x4), .second, .val (.int (1 : Int32)), .val (.ref b5), .val (.long x2), .second, .val (.long x2), .second, .unset] [(.int (2 : Int32)), (.int (1 : Int32))])) (fun t k => XS.iconst X9.here hx rfl (hb hby at_107) k) ?_
    refine own_via (U' := T9.setTop (mkF m 120 #[.val (.int x1), .val (.long x2), .second, .val (.long x3), .second, .val (.long x4), .second, .val (.int (1 : Int32)), .val (.ref b5), .val (.long x2), .second, .val (.long x2), .second, .unset] [])) (fun t k => XS.icmpYes X9.here hx rfl (pc0 := 108) (pc' := 120) rfl (hb hby at_108) rfl (tlt (by decide : ((1 : Int32) < (2 : Int32)))).1 (by decide) (by decide) k) ?_
    refine own_via (U' := T9.setTop (mkF m 122 #[.val (.int x1), .val (.long x2), .second, .val (.long x3), .second, .val (.long x4), .second, .val (.int (1 : Int32)), .val (.ref b5), .val (.long x2), .second, .val (.long x2), .second, .unset] [(.int (1 : Int32))])) (fun t k => XS.iload X9.here hx rfl (hb hby at_120) rfl k) ?_
    refine own_via (U' := T9.setTop (mkF m 123 #[.val (.int x1), .val (.long x2), .second, .val (.long x3), .second, .val (.long x4), .second, .val (.int (1 : Int32)), .val (.ref b5), .val (.long x2), .second, .val (.long x2), .second, .unset] [(.int (3 : Int32)), (.int (1 : Int32))])) (fun t k => XS.iconst X9.here hx rfl (hb hby at_122) k) ?_
    refine own_via (U' := T9.setTop (mkF m 136 #[.val (.int x1), .val (.long x2), .second, .val (.long x3), .second, .val (.long x4), .second, .val (.int (1 : Int32)), .val (.ref b5), .val (.long x2), .second, .val (.long x2), .second, .unset] [])) (fun t k => XS.icmpYes X9.here hx rfl (pc0 := 123) (pc' := 136) rfl (hb hby at_123) rfl (tlt (by decide : ((1 : Int32) < (3 : Int32)))).1 (by decide) (by decide) k) ?_
    refine own_via (U' := T9.setTop (mkF m 137 #[.val (.int x1), .val (.long x2), .second, .val (.long x3), .second, .val (.long x4), .second, .val (.int (1 : Int32)), .val (.ref b5), .val (.long x2), .second, .val (.long x2), .second, .unset] [(.int (1 : Int32))])) (fun t k => XS.iconst X9.here hx rfl (hb hby at_136) k) ?_
    refine own_via (U' := T9.setTop (mkF m 141 #[.val (.int x1), .val (.long x2), .second, .val (.long x3), .second, .val (.long x4), .second, .val (.int (1 : Int32)), .val (.ref b5), .val (.long x2), .second, .val (.long x2), .second, .unset] [(.int (1 : Int32))])) (fun t k => XS.goto X9.here hx rfl (pc0 := 137) (pc' := 141) rfl (hb hby at_137) (by decide) (by decide) k) ?_
    refine own_via (U' := T9.setTop (mkF m 143 #[.val (.int x1), .val (.long x2), .second, .val (.long x3), .second, .val (.long x4), .second, .val (.int (1 : Int32)), .val (.ref b5), .val (.long x2), .second, .val (.long x2), .second, .val (.int (1 : Int32))] [])) (fun t k => XS.istore X9.here hx rfl (hb hby at_141) rfl (l' := #[.val (.int x1), .val (.long x2), .second, .val (.long x3), .second, .val (.long x4), .second, .val (.int (1 : Int32)), .val (.ref b5), .val (.long x2), .second, .val (.long x2), .second, .val (.int (1 : Int32))]) rfl k) ?_
    refine own_via (U' := T9.setTop (mkF m 145 #[.val (.int x1), .val (.long x2), .second, .val (.long x3), .second, .val (.long x4), .second, .val (.int (1 : Int32)), .val (.ref b5), .val (.long x2), .second, .val (.long x2), .second, .val (.int (1 : Int32))] [(.long x2)])) (fun t k => XS.lload X9.here hx rfl (hb hby at_143) rfl k) ?_
    refine own_via (U' := T9.setTop (mkF m 147 #[.val (.int x1), .val (.long x2), .second, .val (.long x3), .second, .val (.long x4), .second, .val (.int (1 : Int32)), .val (.ref b5), .val (.long x2), .second, .val (.long x2), .second, .val (.int (1 : Int32))] [(.long x2), (.long x2)])) (fun t k => XS.lload X9.here hx rfl (hb hby at_145) rfl k) ?_
    refine own_via (U' := T9.setTop (mkF m 148 #[.val (.int x1), .val (.long x2), .second, .val (.long x3), .second, .val (.long x4), .second, .val (.int (1 : Int32)), .val (.ref b5), .val (.long x2), .second, .val (.long x2), .second, .val (.int (1 : Int32))] [(.int (lcmpW x2 x2))])) (fun t k => XS.lcmp X9.here hx rfl (hb hby at_147) rfl k) ?_
    refine own_via (U' := T9.setTop (mkF m 151 #[.val (.int x1), .val (.long x2), .second, .val (.long x3), .second, .val (.long x4), .second, .val (.int (1 : Int32)), .val (.ref b5), .val (.long x2), .second, .val (.long x2), .second, .val (.int (1 : Int32))] [])) (fun t k => XS.ifNo X9.here hx rfl (hb hby at_148) rfl (own_jeq (rfl : x2 = x2)).2 k) ?_
    refine own_via (U' := T9.setTop (mkF m 153 #[.val (.int x1), .val (.long x2), .second, .val (.long x3), .second, .val (.long x4), .second, .val (.int (1 : Int32)), .val (.ref b5), .val (.long x2), .second, .val (.long x2), .second, .val (.int (1 : Int32))] [(.int (1 : Int32))])) (fun t k => XS.iload X9.here hx rfl (hb hby at_151) rfl k) ?_
    refine own_via (U' := T9.setTop (mkF m 156 #[.val (.int x1), .val (.long x2), .second, .val (.long x3), .second, .val (.long x4), .second, .val (.int (1 : Int32)), .val (.ref b5), .val (.long x2), .second, .val (.long x2), .second, .val (.int (1 : Int32))] [])) (fun t k => XS.ifNo X9.here hx rfl (hb hby at_153) rfl ((if0 _ _).trans (feq (by decide : ¬ ((1 : Int32) = (0 : Int32)))).1) k) ?_
    refine own_via (U' := T9.setTop (mkF m 158 #[.val (.int x1), .val (.long x2), .second, .val (.long x3), .second, .val (.long x4), .second, .val (.int (1 : Int32)), .val (.ref b5), .val (.long x2), .second, .val (.long x2), .second, .val (.int (1 : Int32))] [(.ref b5)])) (fun t k => XS.aload X9.here hx rfl (hb hby at_156) rfl rfl k) ?_
    obtain ⟨c11, Ar11, q11a, q11b, q11c, q11d, q11e⟩ := id V7
    refine own_via (U' := T9.setTop (mkF m 159 #[.val (.int x1), .val (.long x2), .second, .val (.long x3), .second, .val (.long x4), .second, .val (.int (1 : Int32)), .val (.ref b5), .val (.long x2), .second, .val (.long x2), .second, .val (.int (1 : Int32))] [(.int (1 : Int32))])) (fun t k => (fun t k => X9.arraylength hx (by rw [e9]; exact Ar11.1) (State.isArrayOf_alike hZ.alike Ar11.2.1) (g := (mkF m 158 #[.val (.int x1), .val (.long x2), .second, .val (.long x3), .second, .val (.long x4), .second, .val (.int (1 : Int32)), .val (.ref b5), .val (.long x2), .second, .val (.long x2), .second, .val (.int (1 : Int32))] [(.ref b5)])) rfl rfl (hb hby at_158) t (by rw [len_of q11b q11c]; exact k)) t k) ?_
    refine own_via (U' := T9.setTop (mkF m 161 #[.val (.int x1), .val (.long x2), .second, .val (.long x3), .second, .val (.long x4), .second, .val (.int (1 : Int32)), .val (.ref b5), .val (.long x2), .second, .val (.long x2), .second, .val (.int (1 : Int32))] [(.int (1 : Int32)), (.int (1 : Int32))])) (fun t k => XS.iload X9.here hx rfl (hb hby at_159) rfl k) ?_
    refine own_via (U' := T9.setTop (mkF m 164 #[.val (.int x1), .val (.long x2), .second, .val (.long x3), .second, .val (.long x4), .second, .val (.int (1 : Int32)), .val (.ref b5), .val (.long x2), .second, .val (.long x2), .second, .val (.int (1 : Int32))] [])) (fun t k => XS.icmpNo X9.here hx rfl (hb hby at_161) rfl (teq (by decide : ((1 : Int32) = (1 : Int32)))).2 k) ?_
    refine own_via (U' := T9.setTop (mkF m 165 #[.val (.int x1), .val (.long x2), .second, .val (.long x3), .second, .val (.long x4), .second, .val (.int (1 : Int32)), .val (.ref b5), .val (.long x2), .second, .val (.long x2), .second, .val (.int (1 : Int32))] [(.int (1 : Int32))])) (fun t k => XS.iconst X9.here hx rfl (hb hby at_164) k) ?_
    refine own_via (U' := T9.setTop (mkF m 169 #[.val (.int x1), .val (.long x2), .second, .val (.long x3), .second, .val (.long x4), .second, .val (.int (1 : Int32)), .val (.ref b5), .val (.long x2), .second, .val (.long x2), .second, .val (.int (1 : Int32))] [(.int (1 : Int32))])) (fun t k => XS.goto X9.here hx rfl (pc0 := 165) (pc' := 169) rfl (hb hby at_165) (by decide) (by decide) k) ?_
    exact own_ret X9 (v := some (.int (1 : Int32))) (fun h => by rw [Bd.returns] at h; cases h) hlk (fun fs hr => retN X9 hx (t := .boolean) Bd.returns (by simp) (hb hby at_169) hr) (by rw [e9]; exact ⟨rfl, N9⟩) (by decide) (by decide)
  · rw [h4]
    refine own_via (U' := s₁.setTop (mkF m 7 #[.val (.int x1), .val (.long x2), .second, .val (.long x3), .second, .val (.long x4), .second, .val (.int (2 : Int32)), .unset, .unset, .unset, .unset, .unset, .unset] [(.int (2 : Int32))])) (fun t k => XS.iload X0.here hx rfl (hb hby at_5) rfl k) ?_
    obtain ⟨T12, h12, k12, X12, e12, E12, A12, st12⟩ := newP X0 hx hZ (hw _ (List.mem_of_getElem? (i := 0) rfl)) e0 (g := (mkF m 7 #[.val (.int x1), .val (.long x2), .second, .val (.long x3), .second, .val (.long x4), .second, .val (.int (2 : Int32)), .unset, .unset, .unset, .unset, .unset, .unset] [(.int (2 : Int32))])) rfl (hb hby at_7) rfl (by decide) (cap := 2) (by decide) (by decide) (by decide) (by decide)
    obtain ⟨b12, g12⟩ : ∃ z, z = h0.size := ⟨_, rfl⟩
    rw [← g12] at A12 st12
    have gn_b12 : n0 ≤ b12 := Nat.le_trans Z0 (Nat.le_of_eq g12.symm)
    have sz_b12 : h0.size ≤ b12 := Nat.le_trans K0.1 (Nat.le_of_eq g12.symm)
    have V12 : Arv Z h12 b12 k12 .long (2 : Int32) [(.long (0 : Int64)), (.long (0 : Int64))] (.long (0 : Int64)) := (Arv.new A12 (by decide)).pad (pad_rep [] (.long (0 : Int64)) 2)
    have Z13 : n0 ≤ h12.size := Nat.le_trans Z0 E12.1
    have K13 := K0.ext E12
    refine own_via (U' := T12.setTop (mkF m 9 #[.val (.int x1), .val (.long x2), .second, .val (.long x3), .second, .val (.long x4), .second, .val (.int (2 : Int32)), .unset, .unset, .unset, .unset, .unset, .unset] [(.ref b12)])) (fun t k => st12 t k) ?_
    refine own_via (U' := T12.setTop (mkF m 11 #[.val (.int x1), .val (.long x2), .second, .val (.long x3), .second, .val (.long x4), .second, .val (.int (2 : Int32)), .val (.ref b12), .unset, .unset, .unset, .unset, .unset] [])) (fun t k => XS.astore X12.here hx rfl (hb hby at_9) rfl rfl (l' := #[.val (.int x1), .val (.long x2), .second, .val (.long x3), .second, .val (.long x4), .second, .val (.int (2 : Int32)), .val (.ref b12), .unset, .unset, .unset, .unset, .unset]) rfl k) ?_
    refine own_via (U' := T12.setTop (mkF m 13 #[.val (.int x1), .val (.long x2), .second, .val (.long x3), .second, .val (.long x4), .second, .val (.int (2 : Int32)), .val (.ref b12), .unset, .unset, .unset, .unset, .unset] [(.int (2 : Int32))])) (fun t k => XS.iload X12.here hx rfl (hb hby at_11) rfl k) ?_
    refine own_via (U' := T12.setTop (mkF m 16 #[.val (.int x1), .val (.long x2), .second, .val (.long x3), .second, .val (.long x4), .second, .val (.int (2 : Int32)), .val (.ref b12), .unset, .unset, .unset, .unset, .unset] [])) (fun t k => XS.ifNo X12.here hx rfl (hb hby at_13) rfl ((if0 _ _).trans (tlt (by decide : ((0 : Int32) < (2 : Int32)))).2.2.2) k) ?_
    refine own_via (U' := T12.setTop (mkF m 18 #[.val (.int x1), .val (.long x2), .second, .val (.long x3), .second, .val (.long x4), .second, .val (.int (2 : Int32)), .val (.ref b12), .unset, .unset, .unset, .unset, .unset] [(.ref b12)])) (fun t k => XS.aload X12.here hx rfl (hb hby at_16) rfl rfl k) ?_
    refine own_via (U' := T12.setTop (mkF m 19 #[.val (.int x1), .val (.long x2), .second, .val (.long x3), .second, .val (.long x4), .second, .val (.int (2 : Int32)), .val (.ref b12), .unset, .unset, .unset, .unset, .unset] [(.int (0 : Int32)), (.ref b12)])) (fun t k => XS.iconst X12.here hx rfl (hb hby at_18) k) ?_
    refine own_via (U' := T12.setTop (mkF m 20 #[.val (.int x1), .val (.long x2), .second, .val (.long x3), .second, .val (.long x4), .second, .val (.int (2 : Int32)), .val (.ref b12), .unset, .unset, .unset, .unset, .unset] [(.long x2), (.int (0 : Int32)), (.ref b12)])) (fun t k => XS.lloadN X12.here hx rfl (hb hby at_19) rfl k) ?_
    obtain ⟨c14, Ar14, q14a, q14b, q14c, q14d, q14e⟩ := id V12
    obtain ⟨T14, h14, X14, e14, W14, st14⟩ := stJ X12 hx hZ e12 Ar14 (inb_of q14b (by decide)) (g := (mkF m 20 #[.val (.int x1), .val (.long x2), .second, .val (.long x3), .second, .val (.long x4), .second, .val (.int (2 : Int32)), .val (.ref b12), .unset, .unset, .unset, .unset, .unset] [(.long x2), (.int (0 : Int32)), (.ref b12)])) rfl rfl (hb hby at_20)
    have V14 : Arv Z h14 b12 k12 .long (2 : Int32) [(.long x2), (.long (0 : Int64))] (.long (0 : Int64)) := Arv.set Ar14 q14a q14b q14c q14d q14e rfl W14 0 rfl (Nat.le_of_ble_eq_true rfl)
    have Z15 : n0 ≤ h14.size := Nat.le_trans Z13 (Keep.of_wr W14).1
    have K15 := K13.wr W14 (Or.inr sz_b12)
    have N14 := Fr.snoc X14 N0 gn_b12
    refine own_via (U' := T14.setTop (mkF m 21 #[.val (.int x1), .val (.long x2), .second, .val (.long x3), .second, .val (.long x4), .second, .val (.int (2 : Int32)), .val (.ref b12), .unset, .unset, .unset, .unset, .unset] [])) (fun t k => st14 t k) ?_
    refine own_via (U' := T14.setTop (mkF m 23 #[.val (.int x1), .val (.long x2), .second, .val (.long x3), .second, .val (.long x4), .second, .val (.int (2 : Int32)), .val (.ref b12), .unset, .unset, .unset, .unset, .unset] [(.int (2 : Int32))])) (fun t k => XS.iload X14.here hx rfl (hb hby at_21) rfl k) ?_
    refine own_via (U' := T14.setTop (mkF m 24 #[.val (.int x1), .val (.long x2), .second, .val (.long x3), .second, .val (.long x4), .second, .val (.int (2 : Int32)), .val (.ref b12), .unset, .unset, .unset, .unset, .unset] [(.int (1 : Int32)), (.int (2 : Int32))])) (fun t k => XS.iconst X14.here hx rfl (hb hby at_23) k) ?_
    refine own_via (U' := T14.setTop (mkF m 27 #[.val (.int x1), .val (.long x2), .second, .val (.long x3), .second, .val (.long x4), .second, .val (.int (2 : Int32)), .val (.ref b12), .unset, .unset, .unset, .unset, .unset] [])) (fun t k => XS.icmpNo X14.here hx rfl (hb hby at_24) rfl (tlt (by decide : ((1 : Int32) < (2 : Int32)))).2.2.2 k) ?_
    refine own_via (U' := T14.setTop (mkF m 29 #[.val (.int x1), .val (.long x2), .second, .val (.long x3), .second, .val (.long x4), .second, .val (.int (2 : Int32)), .val (.ref b12), .unset, .unset, .unset, .unset, .unset] [(.ref b12)])) (fun t k => XS.aload X14.here hx rfl (hb hby at_27) rfl rfl k) ?_
    refine own_via (U' := T14.setTop (mkF m 30 #[.val (.int x1), .val (.long x2), .second, .val (.long x3), .second, .val (.long x4), .second, .val (.int (2 : Int32)), .val (.ref b12), .unset, .unset, .unset, .unset, .unset] [(.int (1 : Int32)), (.ref b12)])) (fun t k => XS.iconst X14.here hx rfl (hb hby at_29) k) ?_
    refine own_via (U' := T14.setTop (mkF m 31 #[.val (.int x1), .val (.long x2), .second, .val (.long x3), .second, .val (.long x4), .second, .val (.int (2 : Int32)), .val (.ref b12), .unset, .unset, .unset, .unset, .unset] [(.long x3), (.int (1 : Int32)), (.ref b12)])) (fun t k => XS.lloadN X14.here hx rfl (hb hby at_30) rfl k) ?_
    obtain ⟨c16, Ar16, q16a, q16b, q16c, q16d, q16e⟩ := id V14
    obtain ⟨T16, h16, X16, e16, W16, st16⟩ := stJ X14 hx hZ e14 Ar16 (inb_of q16b (by decide)) (g := (mkF m 31 #[.val (.int x1), .val (.long x2), .second, .val (.long x3), .second, .val (.long x4), .second, .val (.int (2 : Int32)), .val (.ref b12), .unset, .unset, .unset, .unset, .unset] [(.long x3), (.int (1 : Int32)), (.ref b12)])) rfl rfl (hb hby at_31)
    have V16 : Arv Z h16 b12 k12 .long (2 : Int32) [(.long x2), (.long x3)] (.long (0 : Int64)) := Arv.set Ar16 q16a q16b q16c q16d q16e rfl W16 1 rfl (Nat.le_of_ble_eq_true rfl)
    have Z17 : n0 ≤ h16.size := Nat.le_trans Z15 (Keep.of_wr W16).1
    have K17 := K15.wr W16 (Or.inr sz_b12)
    have N16 := Fr.snoc X16 N14 gn_b12
    refine own_via (U' := T16.setTop (mkF m 32 #[.val (.int x1), .val (.long x2), .second, .val (.long x3), .second, .val (.long x4), .second, .val (.int (2 : Int32)), .val (.ref b12), .unset, .unset, .unset, .unset, .unset] [])) (fun t k => st16 t k) ?_
    refine own_via (U' := T16.setTop (mkF m 34 #[.val (.int x1), .val (.long x2), .second, .val (.long x3), .second, .val (.long x4), .second, .val (.int (2 : Int32)), .val (.ref b12), .unset, .unset, .unset, .unset, .unset] [(.int (2 : Int32))])) (fun t k => XS.iload X16.here hx rfl (hb hby at_32) rfl k) ?_
    refine own_via (U' := T16.setTop (mkF m 35 #[.val (.int x1), .val (.long x2), .second, .val (.long x3), .second, .val (.long x4), .second, .val (.int (2 : Int32)), .val (.ref b12), .unset, .unset, .unset, .unset, .unset] [(.int (2 : Int32)), (.int (2 : Int32))])) (fun t k => XS.iconst X16.here hx rfl (hb hby at_34) k) ?_
    refine own_via (U' := T16.setTop (mkF m 44 #[.val (.int x1), .val (.long x2), .second, .val (.long x3), .second, .val (.long x4), .second, .val (.int (2 : Int32)), .val (.ref b12), .unset, .unset, .unset, .unset, .unset] [])) (fun t k => XS.icmpYes X16.here hx rfl (pc0 := 35) (pc' := 44) rfl (hb hby at_35) rfl (flt (by decide : ¬ ((2 : Int32) < (2 : Int32)))).2.2.2 (by decide) (by decide) k) ?_
    refine own_via (U' := T16.setTop (mkF m 46 #[.val (.int x1), .val (.long x2), .second, .val (.long x3), .second, .val (.long x4), .second, .val (.int (2 : Int32)), .val (.ref b12), .unset, .unset, .unset, .unset, .unset] [(.ref b12)])) (fun t k => XS.aload X16.here hx rfl (hb hby at_44) rfl rfl k) ?_
    obtain ⟨_, T18, L18, X18, hQ18, st18⟩ := own_callS X16 hx hZ (y := (⟨"com/example/tenure/tenure/LayoutPath", "last", "([J)J"⟩ : MethodName)) (W := 0) hown (hw _ (List.mem_of_getElem? (i := 1) rfl)) (hw _ (List.mem_of_getElem? (i := 2) rfl)) (hw _ (List.mem_of_getElem? (i := 3) rfl)) (hw _ (List.mem_of_getElem? (i := 4) rfl)) (by decide) (rm_Qla2 l Z a0 hw [] b12 k12 x2 x3 x4 h16 n0 Z17 V16) (by decide) (by decide) e16 (g := (mkF m 46 #[.val (.int x1), .val (.long x2), .second, .val (.long x3), .second, .val (.long x4), .second, .val (.int (2 : Int32)), .val (.ref b12), .unset, .unset, .unset, .unset, .unset] [(.ref b12)])) rfl (by rw [hml]; rfl) (argsL := [(.ref b12)]) (rest := []) rfl (lenOf pd_AJ__J rfl) rfl (by show 2 * 0 + _ ≤ _; exact Nat.le_of_eq rfl) (hb hby at_46) (by decide) (by decide)
    obtain ⟨rfl, N18q, e18⟩ := hQ18
    have N18 := Fr.app N16 N18q
    refine own_via (U' := T18.setTop (mkF m 49 #[.val (.int x1), .val (.long x2), .second, .val (.long x3), .second, .val (.long x4), .second, .val (.int (2 : Int32)), .val (.ref b12), .unset, .unset, .unset, .unset, .unset] [(.long x3)])) (fun t k => st18 t k) ?_
    refine own_via (U' := T18.setTop (mkF m 51 #[.val (.int x1), .val (.long x2), .second, .val (.long x3), .second, .val (.long x4), .second, .val (.int (2 : Int32)), .val (.ref b12), .val (.long x3), .second, .unset, .unset, .unset] [])) (fun t k => XS.lstore X18.here hx rfl (hb hby at_49) rfl (l' := #[.val (.int x1), .val (.long x2), .second, .val (.long x3), .second, .val (.long x4), .second, .val (.int (2 : Int32)), .val (.ref b12), .val (.long x3), .second, .unset, .unset, .unset]) rfl k) ?_
    refine own_via (U' := T18.setTop (mkF m 53 #[.val (.int x1), .val (.long x2), .second, .val (.long x3), .second, .val (.long x4), .second, .val (.int (2 : Int32)), .val (.ref b12), .val (.long x3), .second, .unset, .unset, .unset] [(.int (2 : Int32))])) (fun t k => XS.iload X18.here hx rfl (hb hby at_51) rfl k) ?_
    refine own_via (U' := T18.setTop (mkF m 62 #[.val (.int x1), .val (.long x2), .second, .val (.long x3), .second, .val (.long x4), .second, .val (.int (2 : Int32)), .val (.ref b12), .val (.long x3), .second, .unset, .unset, .unset] [])) (fun t k => XS.ifYes X18.here hx rfl (pc0 := 53) (pc' := 62) rfl (hb hby at_53) rfl ((if0 _ _).trans (feq (by decide : ¬ ((2 : Int32) = (0 : Int32)))).2) (by decide) (by decide) k) ?_
    refine own_via (U' := T18.setTop (mkF m 64 #[.val (.int x1), .val (.long x2), .second, .val (.long x3), .second, .val (.long x4), .second, .val (.int (2 : Int32)), .val (.ref b12), .val (.long x3), .second, .unset, .unset, .unset] [(.int (2 : Int32))])) (fun t k => XS.iload X18.here hx rfl (hb hby at_62) rfl k) ?_
    refine own_via (U' := T18.setTop (mkF m 65 #[.val (.int x1), .val (.long x2), .second, .val (.long x3), .second, .val (.long x4), .second, .val (.int (2 : Int32)), .val (.ref b12), .val (.long x3), .second, .unset, .unset, .unset] [(.int (1 : Int32)), (.int (2 : Int32))])) (fun t k => XS.iconst X18.here hx rfl (hb hby at_64) k) ?_
    refine own_via (U' := T18.setTop (mkF m 74 #[.val (.int x1), .val (.long x2), .second, .val (.long x3), .second, .val (.long x4), .second, .val (.int (2 : Int32)), .val (.ref b12), .val (.long x3), .second, .unset, .unset, .unset] [])) (fun t k => XS.icmpYes X18.here hx rfl (pc0 := 65) (pc' := 74) rfl (hb hby at_65) rfl (feq (by decide : ¬ ((2 : Int32) = (1 : Int32)))).2 (by decide) (by decide) k) ?_
    refine own_via (U' := T18.setTop (mkF m 76 #[.val (.int x1), .val (.long x2), .second, .val (.long x3), .second, .val (.long x4), .second, .val (.int (2 : Int32)), .val (.ref b12), .val (.long x3), .second, .unset, .unset, .unset] [(.int (2 : Int32))])) (fun t k => XS.iload X18.here hx rfl (hb hby at_74) rfl k) ?_
    refine own_via (U' := T18.setTop (mkF m 77 #[.val (.int x1), .val (.long x2), .second, .val (.long x3), .second, .val (.long x4), .second, .val (.int (2 : Int32)), .val (.ref b12), .val (.long x3), .second, .unset, .unset, .unset] [(.int (2 : Int32)), (.int (2 : Int32))])) (fun t k => XS.iconst X18.here hx rfl (hb hby at_76) k) ?_
    refine own_via (U' := T18.setTop (mkF m 80 #[.val (.int x1), .val (.long x2), .second, .val (.long x3), .second, .val (.long x4), .second, .val (.int (2 : Int32)), .val (.ref b12), .val (.long x3), .second, .unset, .unset, .unset] [])) (fun t k => XS.icmpNo X18.here hx rfl (hb hby at_77) rfl (teq (by decide : ((2 : Int32) = (2 : Int32)))).2 k) ?_
    refine own_via (U' := T18.setTop (mkF m 81 #[.val (.int x1), .val (.long x2), .second, .val (.long x3), .second, .val (.long x4), .second, .val (.int (2 : Int32)), .val (.ref b12), .val (.long x3), .second, .unset, .unset, .unset] [(.long x3)])) (fun t k => XS.lloadN X18.here hx rfl (hb hby at_80) rfl k) ?_
    refine own_via (U' := T18.setTop (mkF m 83 #[.val (.int x1), .val (.long x2), .second, .val (.long x3), .second, .val (.long x4), .second, .val (.int (2 : Int32)), .val (.ref b12), .val (.long x3), .second, .val (.long x3), .second, .unset] [])) (fun t k => XS.lstore X18.here hx rfl (hb hby at_81) rfl (l' := #[.val (.int x1), .val (.long x2), .second, .val (.long x3), .second, .val (.long x4), .second, .val (.int (2 : Int32)), .val (.ref b12), .val (.long x3), .second, .val (.long x3), .second, .unset]) rfl k) ?_
    refine own_via (U' := T18.setTop (mkF m 90 #[.val (.int x1), .val (.long x2), .second, .val (.long x3), .second, .val (.long x4), .second, .val (.int (2 : Int32)), .val (.ref b12), .val (.long x3), .second, .val (.long x3), .second, .unset] [])) (fun t k => XS.goto X18.here hx rfl (pc0 := 83) (pc' := 90) rfl (hb hby at_83) (by decide) (by decide) k) ?_
    refine own_via (U' := T18.setTop (mkF m 92 #[.val (.int x1), .val (.long x2), .second, .val (.long x3), .second, .val (.long x4), .second, .val (.int (2 : Int32)), .val (.ref b12), .val (.long x3), .second, .val (.long x3), .second, .unset] [(.int (2 : Int32))])) (fun t k => XS.iload X18.here hx rfl (hb hby at_90) rfl k) ?_
    refine own_via (U' := T18.setTop (mkF m 93 #[.val (.int x1), .val (.long x2), .second, .val (.long x3), .second, .val (.long x4), .second, .val (.int (2 : Int32)), .val (.ref b12), .val (.long x3), .second, .val (.long x3), .second, .unset] [(.int (1 : Int32)), (.int (2 : Int32))])) (fun t k => XS.iconst X18.here hx rfl (hb hby at_92) k) ?_
    refine own_via (U' := T18.setTop (mkF m 96 #[.val (.int x1), .val (.long x2), .second, .val (.long x3), .second, .val (.long x4), .second, .val (.int (2 : Int32)), .val (.ref b12), .val (.long x3), .second, .val (.long x3), .second, .unset] [])) (fun t k => XS.icmpNo X18.here hx rfl (hb hby at_93) rfl (flt (by decide : ¬ ((2 : Int32) < (1 : Int32)))).1 k) ?_
    refine own_via (U' := T18.setTop (mkF m 98 #[.val (.int x1), .val (.long x2), .second, .val (.long x3), .second, .val (.long x4), .second, .val (.int (2 : Int32)), .val (.ref b12), .val (.long x3), .second, .val (.long x3), .second, .unset] [(.ref b12)])) (fun t k => XS.aload X18.here hx rfl (hb hby at_96) rfl rfl k) ?_
    refine own_via (U' := T18.setTop (mkF m 99 #[.val (.int x1), .val (.long x2), .second, .val (.long x3), .second, .val (.long x4), .second, .val (.int (2 : Int32)), .val (.ref b12), .val (.long x3), .second, .val (.long x3), .second, .unset] [(.int (0 : Int32)), (.ref b12)])) (fun t k => XS.iconst X18.here hx rfl (hb hby at_98) k) ?_
    obtain ⟨c19, Ar19, q19a, q19b, q19c, q19d, q19e⟩ := id V16
    refine own_via (U' := T18.setTop (mkF m 100 #[.val (.int x1), .val (.long x2), .second, .val (.long x3), .second, .val (.long x4), .second, .val (.int (2 : Int32)), .val (.ref b12), .val (.long x3), .second, .val (.long x3), .second, .unset] [(.long x2)])) (fun t k => X18.laload hx (j := (0 : Int32)) (v := (.long x2)) (by rw [e18]; exact Ar19.1) (State.isArrayOf_alike hZ.alike Ar19.2.1) Ar19.2.2 (inb_of q19b (by decide)) (q19d.at (inb_of q19b (by decide)) rfl) (g := (mkF m 99 #[.val (.int x1), .val (.long x2), .second, .val (.long x3), .second, .val (.long x4), .second, .val (.int (2 : Int32)), .val (.ref b12), .val (.long x3), .second, .val (.long x3), .second, .unset] [(.int (0 : Int32)), (.ref b12)])) rfl rfl (hb hby at_99) _ k) ?_
    refine own_via (U' := T18.setTop (mkF m 101 #[.val (.int x1), .val (.long x2), .second, .val (.long x3), .second, .val (.long x4), .second, .val (.int (2 : Int32)), .val (.ref b12), .val (.long x3), .second, .val (.long x3), .second, .unset] [(.long x2), (.long x2)])) (fun t k => XS.lloadN X18.here hx rfl (hb hby at_100) rfl k) ?_
    refine own_via (U' := T18.setTop (mkF m 102 #[.val (.int x1), .val (.long x2), .second, .val (.long x3), .second, .val (.long x4), .second, .val (.int (2 : Int32)), .val (.ref b12), .val (.long x3), .second, .val (.long x3), .second, .unset] [(.int (lcmpW x2 x2))])) (fun t k => XS.lcmp X18.here hx rfl (hb hby at_101) rfl k) ?_
    refine own_via (U' := T18.setTop (mkF m 105 #[.val (.int x1), .val (.long x2), .second, .val (.long x3), .second, .val (.long x4), .second, .val (.int (2 : Int32)), .val (.ref b12), .val (.long x3), .second, .val (.long x3), .second, .unset] [])) (fun t k => XS.ifNo X18.here hx rfl (hb hby at_102) rfl (own_jeq (rfl : x2 = x2)).2 k) ?_
    refine own_via (U' := T18.setTop (mkF m 107 #[.val (.int x1), .val (.long x2), .second, .val (.long x3), .second, .val (.long x4), .second, .val (.int (2 : Int32)), .val (.ref b12), .val (.long x3), .second, .val (.long x3), .second, .unset] [(.int (2 : Int32))])) (fun t k => XS.iload X18.here hx rfl (hb hby at_105) rfl k) ?_
    refine own_via (U' := T18.setTop (mkF m 108 #[.val (.int x1), .val (.long x2), .second, .val (.long x3), .second, .val (.long x4), .second, .val (.int (2 : Int32)), .val (.ref b12), .val (.long x3), .second, .val (.long x3), .second, .unset] [(.int (2 : Int32)), (.int (2 : Int32))])) (fun t k => XS.iconst X18.here hx rfl (hb hby at_107) k) ?_
    refine own_via (U' := T18.setTop (mkF m 111 #[.val (.int x1), .val (.long x2), .second, .val (.long x3), .second, .val (.long x4), .second, .val (.int (2 : Int32)), .val (.ref b12), .val (.long x3), .second, .val (.long x3), .second, .unset] [])) (fun t k => XS.icmpNo X18.here hx rfl (hb hby at_108) rfl (flt (by decide : ¬ ((2 : Int32) < (2 : Int32)))).1 k) ?_
    refine own_via (U' := T18.setTop (mkF m 113 #[.val (.int x1), .val (.long x2), .second, .val (.long x3), .second, .val (.long x4), .second, .val (.int (2 : Int32)), .val (.ref b12), .val (.long x3), .second, .val (.long x3), .second, .unset] [(.ref b12)])) (fun t k => XS.aload X18.here hx rfl (hb hby at_111) rfl rfl k) ?_
    refine own_via (U' := T18.setTop (mkF m 114 #[.val (.int x1), .val (.long x2), .second, .val (.long x3), .second, .val (.long x4), .second, .val (.int (2 : Int32)), .val (.ref b12), .val (.long x3), .second, .val (.long x3), .second, .unset] [(.int (1 : Int32)), (.ref b12)])) (fun t k => XS.iconst X18.here hx rfl (hb hby at_113) k) ?_
    obtain ⟨c20, Ar20, q20a, q20b, q20c, q20d, q20e⟩ := id V16
    refine own_via (U' := T18.setTop (mkF m 115 #[.val (.int x1), .val (.long x2), .second, .val (.long x3), .second, .val (.long x4), .second, .val (.int (2 : Int32)), .val (.ref b12), .val (.long x3), .second, .val (.long x3), .second, .unset] [(.long x3)])) (fun t k => X18.laload hx (j := (1 : Int32)) (v := (.long x3)) (by rw [e18]; exact Ar20.1) (State.isArrayOf_alike hZ.alike Ar20.2.1) Ar20.2.2 (inb_of q20b (by decide)) (q20d.at (inb_of q20b (by decide)) rfl) (g := (mkF m 114 #[.val (.int x1), .val (.long x2), .second, .val (.long x3), .second, .val (.long x4), .second, .val (.int (2 : Int32)), .val (.ref b12), .val (.long x3), .second, .val (.long x3), .second, .unset] [(.int (1 : Int32)), (.ref b12)])) rfl rfl (hb hby at_114) _ k) ?_
    refine own_via (U' := T18.setTop (mkF m 116 #[.val (.int x1), .val (.long x2), .second, .val (.long x3), .second, .val (.long x4), .second, .val (.int (2 : Int32)), .val (.ref b12), .val (.long x3), .second, .val (.long x3), .second, .unset] [(.long x3), (.long x3)])) (fun t k => XS.lloadN X18.here hx rfl (hb hby at_115) rfl k) ?_
    refine own_via (U' := T18.setTop (mkF m 117 #[.val (.int x1), .val (.long x2), .second, .val (.long x3), .second, .val (.long x4), .second, .val (.int (2 : Int32)), .val (.ref b12), .val (.long x3), .second, .val (.long x3), .second, .unset] [(.int (lcmpW x3 x3))])) (fun t k => XS.lcmp X18.here hx rfl (hb hby at_116) rfl k) ?_
    refine own_via (U' := T18.setTop (mkF m 120 #[.val (.int x1), .val (.long x2), .second, .val (.long x3), .second, .val (.long x4), .second, .val (.int (2 : Int32)), .val (.ref b12), .val (.long x3), .second, .val (.long x3), .second, .unset] [])) (fun t k => XS.ifNo X18.here hx rfl (hb hby at_117) rfl (own_jeq (rfl : x3 = x3)).2 k) ?_
    refine own_via (U' := T18.setTop (mkF m 122 #[.val (.int x1), .val (.long x2), .second, .val (.long x3), .second, .val (.long x4), .second, .val (.int (2 : Int32)), .val (.ref b12), .val (.long x3), .second, .val (.long x3), .second, .unset] [(.int (2 : Int32))])) (fun t k => XS.iload X18.here hx rfl (hb hby at_120) rfl k) ?_
    refine own_via (U' := T18.setTop (mkF m 123 #[.val (.int x1), .val (.long x2), .second, .val (.long x3), .second, .val (.long x4), .second, .val (.int (2 : Int32)), .val (.ref b12), .val (.long x3), .second, .val (.long x3), .second, .unset] [(.int (3 : Int32)), (.int (2 : Int32))])) (fun t k => XS.iconst X18.here hx rfl (hb hby at_122) k) ?_
    refine own_via (U' := T18.setTop (mkF m 136 #[.val (.int x1), .val (.long x2), .second, .val (.long x3), .second, .val (.long x4), .second, .val (.int (2 : Int32)), .val (.ref b12), .val (.long x3), .second, .val (.long x3), .second, .unset] [])) (fun t k => XS.icmpYes X18.here hx rfl (pc0 := 123) (pc' := 136) rfl (hb hby at_123) rfl (tlt (by decide : ((2 : Int32) < (3 : Int32)))).1 (by decide) (by decide) k) ?_
    refine own_via (U' := T18.setTop (mkF m 137 #[.val (.int x1), .val (.long x2), .second, .val (.long x3), .second, .val (.long x4), .second, .val (.int (2 : Int32)), .val (.ref b12), .val (.long x3), .second, .val (.long x3), .second, .unset] [(.int (1 : Int32))])) (fun t k => XS.iconst X18.here hx rfl (hb hby at_136) k) ?_
    refine own_via (U' := T18.setTop (mkF m 141 #[.val (.int x1), .val (.long x2), .second, .val (.long x3), .second, .val (.long x4), .second, .val (.int (2 : Int32)), .val (.ref b12), .val (.long x3), .second, .val (.long x3), .second, .unset] [(.int (1 : Int32))])) (fun t k => XS.goto X18.here hx rfl (pc0 := 137) (pc' := 141) rfl (hb hby at_137) (by decide) (by decide) k) ?_
    refine own_via (U' := T18.setTop (mkF m 143 #[.val (.int x1), .val (.long x2), .second, .val (.long x3), .second, .val (.long x4), .second, .val (.int (2 : Int32)), .val (.ref b12), .val (.long x3), .second, .val (.long x3), .second, .val (.int (1 : Int32))] [])) (fun t k => XS.istore X18.here hx rfl (hb hby at_141) rfl (l' := #[.val (.int x1), .val (.long x2), .second, .val (.long x3), .second, .val (.long x4), .second, .val (.int (2 : Int32)), .val (.ref b12), .val (.long x3), .second, .val (.long x3), .second, .val (.int (1 : Int32))]) rfl k) ?_
    refine own_via (U' := T18.setTop (mkF m 145 #[.val (.int x1), .val (.long x2), .second, .val (.long x3), .second, .val (.long x4), .second, .val (.int (2 : Int32)), .val (.ref b12), .val (.long x3), .second, .val (.long x3), .second, .val (.int (1 : Int32))] [(.long x3)])) (fun t k => XS.lload X18.here hx rfl (hb hby at_143) rfl k) ?_
    refine own_via (U' := T18.setTop (mkF m 147 #[.val (.int x1), .val (.long x2), .second, .val (.long x3), .second, .val (.long x4), .second, .val (.int (2 : Int32)), .val (.ref b12), .val (.long x3), .second, .val (.long x3), .second, .val (.int (1 : Int32))] [(.long x3), (.long x3)])) (fun t k => XS.lload X18.here hx rfl (hb hby at_145) rfl k) ?_
    refine own_via (U' := T18.setTop (mkF m 148 #[.val (.int x1), .val (.long x2), .second, .val (.long x3), .second, .val (.long x4), .second, .val (.int (2 : Int32)), .val (.ref b12), .val (.long x3), .second, .val (.long x3), .second, .val (.int (1 : Int32))] [(.int (lcmpW x3 x3))])) (fun t k => XS.lcmp X18.here hx rfl (hb hby at_147) rfl k) ?_
    refine own_via (U' := T18.setTop (mkF m 151 #[.val (.int x1), .val (.long x2), .second, .val (.long x3), .second, .val (.long x4), .second, .val (.int (2 : Int32)), .val (.ref b12), .val (.long x3), .second, .val (.long x3), .second, .val (.int (1 : Int32))] [])) (fun t k => XS.ifNo X18.here hx rfl (hb hby at_148) rfl (own_jeq (rfl : x3 = x3)).2 k) ?_
    refine own_via (U' := T18.setTop (mkF m 153 #[.val (.int x1), .val (.long x2), .second, .val (.long x3), .second, .val (.long x4), .second, .val (.int (2 : Int32)), .val (.ref b12), .val (.long x3), .second, .val (.long x3), .second, .val (.int (1 : Int32))] [(.int (1 : Int32))])) (fun t k => XS.iload X18.here hx rfl (hb hby at_151) rfl k) ?_
    refine own_via (U' := T18.setTop (mkF m 156 #[.val (.int x1), .val (.long x2), .second, .val (.long x3), .second, .val (.long x4), .second, .val (.int (2 : Int32)), .val (.ref b12), .val (.long x3), .second, .val (.long x3), .second, .val (.int (1 : Int32))] [])) (fun t k => XS.ifNo X18.here hx rfl (hb hby at_153) rfl ((if0 _ _).trans (feq (by decide : ¬ ((1 : Int32) = (0 : Int32)))).1) k) ?_
    refine own_via (U' := T18.setTop (mkF m 158 #[.val (.int x1), .val (.long x2), .second, .val (.long x3), .second, .val (.long x4), .second, .val (.int (2 : Int32)), .val (.ref b12), .val (.long x3), .second, .val (.long x3), .second, .val (.int (1 : Int32))] [(.ref b12)])) (fun t k => XS.aload X18.here hx rfl (hb hby at_156) rfl rfl k) ?_
    obtain ⟨c21, Ar21, q21a, q21b, q21c, q21d, q21e⟩ := id V16
    refine own_via (U' := T18.setTop (mkF m 159 #[.val (.int x1), .val (.long x2), .second, .val (.long x3), .second, .val (.long x4), .second, .val (.int (2 : Int32)), .val (.ref b12), .val (.long x3), .second, .val (.long x3), .second, .val (.int (1 : Int32))] [(.int (2 : Int32))])) (fun t k => (fun t k => X18.arraylength hx (by rw [e18]; exact Ar21.1) (State.isArrayOf_alike hZ.alike Ar21.2.1) (g := (mkF m 158 #[.val (.int x1), .val (.long x2), .second, .val (.long x3), .second, .val (.long x4), .second, .val (.int (2 : Int32)), .val (.ref b12), .val (.long x3), .second, .val (.long x3), .second, .val (.int (1 : Int32))] [(.ref b12)])) rfl rfl (hb hby at_158) t (by rw [len_of q21b q21c]; exact k)) t k) ?_
    refine own_via (U' := T18.setTop (mkF m 161 #[.val (.int x1), .val (.long x2), .second, .val (.long x3), .second, .val (.long x4), .second, .val (.int (2 : Int32)), .val (.ref b12), .val (.long x3), .second, .val (.long x3), .second, .val (.int (1 : Int32))] [(.int (2 : Int32)), (.int (2 : Int32))])) (fun t k => XS.iload X18.here hx rfl (hb hby at_159) rfl k) ?_
    refine own_via (U' := T18.setTop (mkF m 164 #[.val (.int x1), .val (.long x2), .second, .val (.long x3), .second, .val (.long x4), .second, .val (.int (2 : Int32)), .val (.ref b12), .val (.long x3), .second, .val (.long x3), .second, .val (.int (1 : Int32))] [])) (fun t k => XS.icmpNo X18.here hx rfl (hb hby at_161) rfl (teq (by decide : ((2 : Int32) = (2 : Int32)))).2 k) ?_
    refine own_via (U' := T18.setTop (mkF m 165 #[.val (.int x1), .val (.long x2), .second, .val (.long x3), .second, .val (.long x4), .second, .val (.int (2 : Int32)), .val (.ref b12), .val (.long x3), .second, .val (.long x3), .second, .val (.int (1 : Int32))] [(.int (1 : Int32))])) (fun t k => XS.iconst X18.here hx rfl (hb hby at_164) k) ?_
    refine own_via (U' := T18.setTop (mkF m 169 #[.val (.int x1), .val (.long x2), .second, .val (.long x3), .second, .val (.long x4), .second, .val (.int (2 : Int32)), .val (.ref b12), .val (.long x3), .second, .val (.long x3), .second, .val (.int (1 : Int32))] [(.int (1 : Int32))])) (fun t k => XS.goto X18.here hx rfl (pc0 := 165) (pc' := 169) rfl (hb hby at_165) (by decide) (by decide) k) ?_
    exact own_ret X18 (v := some (.int (1 : Int32))) (fun h => by rw [Bd.returns] at h; cases h) hlk (fun fs hr => retN X18 hx (t := .boolean) Bd.returns (by simp) (hb hby at_169) hr) (by rw [e18]; exact ⟨rfl, N18⟩) (by decide) (by decide)
  · rw [h4]
    refine own_via (U' := s₁.setTop (mkF m 7 #[.val (.int x1), .val (.long x2), .second, .val (.long x3), .second, .val (.long x4), .second, .val (.int (3 : Int32)), .unset, .unset, .unset, .unset, .unset, .unset] [(.int (3 : Int32))])) (fun t k => XS.iload X0.here hx rfl (hb hby at_5) rfl k) ?_
    obtain ⟨T22, h22, k22, X22, e22, E22, A22, st22⟩ := newP X0 hx hZ (hw _ (List.mem_of_getElem? (i := 0) rfl)) e0 (g := (mkF m 7 #[.val (.int x1), .val (.long x2), .second, .val (.long x3), .second, .val (.long x4), .second, .val (.int (3 : Int32)), .unset, .unset, .unset, .unset, .unset, .unset] [(.int (3 : Int32))])) rfl (hb hby at_7) rfl (by decide) (cap := 3) (by decide) (by decide) (by decide) (by decide)
    obtain ⟨b22, g22⟩ : ∃ z, z = h0.size := ⟨_, rfl⟩
    rw [← g22] at A22 st22
    have gn_b22 : n0 ≤ b22 := Nat.le_trans Z0 (Nat.le_of_eq g22.symm)
    have sz_b22 : h0.size ≤ b22 := Nat.le_trans K0.1 (Nat.le_of_eq g22.symm)
    have V22 : Arv Z h22 b22 k22 .long (3 : Int32) [(.long (0 : Int64)), (.long (0 : Int64)), (.long (0 : Int64))] (.long (0 : Int64)) := (Arv.new A22 (by decide)).pad (pad_rep [] (.long (0 : Int64)) 3)
    have Z23 : n0 ≤ h22.size := Nat.le_trans Z0 E22.1
    have K23 := K0.ext E22
    refine own_via (U' := T22.setTop (mkF m 9 #[.val (.int x1), .val (.long x2), .second, .val (.long x3), .second, .val (.long x4), .second, .val (.int (3 : Int32)), .unset, .unset, .unset, .unset, .unset, .unset] [(.ref b22)])) (fun t k => st22 t k) ?_
    refine own_via (U' := T22.setTop (mkF m 11 #[.val (.int x1), .val (.long x2), .second, .val (.long x3), .second, .val (.long x4), .second, .val (.int (3 : Int32)), .val (.ref b22), .unset, .unset, .unset, .unset, .unset] [])) (fun t k => XS.astore X22.here hx rfl (hb hby at_9) rfl rfl (l' := #[.val (.int x1), .val (.long x2), .second, .val (.long x3), .second, .val (.long x4), .second, .val (.int (3 : Int32)), .val (.ref b22), .unset, .unset, .unset, .unset, .unset]) rfl k) ?_
    refine own_via (U' := T22.setTop (mkF m 13 #[.val (.int x1), .val (.long x2), .second, .val (.long x3), .second, .val (.long x4), .second, .val (.int (3 : Int32)), .val (.ref b22), .unset, .unset, .unset, .unset, .unset] [(.int (3 : Int32))])) (fun t k => XS.iload X22.here hx rfl (hb hby at_11) rfl k) ?_
    refine own_via (U' := T22.setTop (mkF m 16 #[.val (.int x1), .val (.long x2), .second, .val (.long x3), .second, .val (.long x4), .second, .val (.int (3 : Int32)), .val (.ref b22), .unset, .unset, .unset, .unset, .unset] [])) (fun t k => XS.ifNo X22.here hx rfl (hb hby at_13) rfl ((if0 _ _).trans (tlt (by decide : ((0 : Int32) < (3 : Int32)))).2.2.2) k) ?_
    refine own_via (U' := T22.setTop (mkF m 18 #[.val (.int x1), .val (.long x2), .second, .val (.long x3), .second, .val (.long x4), .second, .val (.int (3 : Int32)), .val (.ref b22), .unset, .unset, .unset, .unset, .unset] [(.ref b22)])) (fun t k => XS.aload X22.here hx rfl (hb hby at_16) rfl rfl k) ?_
    refine own_via (U' := T22.setTop (mkF m 19 #[.val (.int x1), .val (.long x2), .second, .val (.long x3), .second, .val (.long x4), .second, .val (.int (3 : Int32)), .val (.ref b22), .unset, .unset, .unset, .unset, .unset] [(.int (0 : Int32)), (.ref b22)])) (fun t k => XS.iconst X22.here hx rfl (hb hby at_18) k) ?_
    refine own_via (U' := T22.setTop (mkF m 20 #[.val (.int x1), .val (.long x2), .second, .val (.long x3), .second, .val (.long x4), .second, .val (.int (3 : Int32)), .val (.ref b22), .unset, .unset, .unset, .unset, .unset] [(.long x2), (.int (0 : Int32)), (.ref b22)])) (fun t k => XS.lloadN X22.here hx rfl (hb hby at_19) rfl k) ?_
    obtain ⟨c24, Ar24, q24a, q24b, q24c, q24d, q24e⟩ := id V22
    obtain ⟨T24, h24, X24, e24, W24, st24⟩ := stJ X22 hx hZ e22 Ar24 (inb_of q24b (by decide)) (g := (mkF m 20 #[.val (.int x1), .val (.long x2), .second, .val (.long x3), .second, .val (.long x4), .second, .val (.int (3 : Int32)), .val (.ref b22), .unset, .unset, .unset, .unset, .unset] [(.long x2), (.int (0 : Int32)), (.ref b22)])) rfl rfl (hb hby at_20)
    have V24 : Arv Z h24 b22 k22 .long (3 : Int32) [(.long x2), (.long (0 : Int64)), (.long (0 : Int64))] (.long (0 : Int64)) := Arv.set Ar24 q24a q24b q24c q24d q24e rfl W24 0 rfl (Nat.le_of_ble_eq_true rfl)
    have Z25 : n0 ≤ h24.size := Nat.le_trans Z23 (Keep.of_wr W24).1
    have K25 := K23.wr W24 (Or.inr sz_b22)
    have N24 := Fr.snoc X24 N0 gn_b22
    refine own_via (U' := T24.setTop (mkF m 21 #[.val (.int x1), .val (.long x2), .second, .val (.long x3), .second, .val (.long x4), .second, .val (.int (3 : Int32)), .val (.ref b22), .unset, .unset, .unset, .unset, .unset] [])) (fun t k => st24 t k) ?_
    refine own_via (U' := T24.setTop (mkF m 23 #[.val (.int x1), .val (.long x2), .second, .val (.long x3), .second, .val (.long x4), .second, .val (.int (3 : Int32)), .val (.ref b22), .unset, .unset, .unset, .unset, .unset] [(.int (3 : Int32))])) (fun t k => XS.iload X24.here hx rfl (hb hby at_21) rfl k) ?_
    refine own_via (U' := T24.setTop (mkF m 24 #[.val (.int x1), .val (.long x2), .second, .val (.long x3), .second, .val (.long x4), .second, .val (.int (3 : Int32)), .val (.ref b22), .unset, .unset, .unset, .unset, .unset] [(.int (1 : Int32)), (.int (3 : Int32))])) (fun t k => XS.iconst X24.here hx rfl (hb hby at_23) k) ?_
    refine own_via (U' := T24.setTop (mkF m 27 #[.val (.int x1), .val (.long x2), .second, .val (.long x3), .second, .val (.long x4), .second, .val (.int (3 : Int32)), .val (.ref b22), .unset, .unset, .unset, .unset, .unset] [])) (fun t k => XS.icmpNo X24.here hx rfl (hb hby at_24) rfl (tlt (by decide : ((1 : Int32) < (3 : Int32)))).2.2.2 k) ?_
    refine own_via (U' := T24.setTop (mkF m 29 #[.val (.int x1), .val (.long x2), .second, .val (.long x3), .second, .val (.long x4), .second, .val (.int (3 : Int32)), .val (.ref b22), .unset, .unset, .unset, .unset, .unset] [(.ref b22)])) (fun t k => XS.aload X24.here hx rfl (hb hby at_27) rfl rfl k) ?_
    refine own_via (U' := T24.setTop (mkF m 30 #[.val (.int x1), .val (.long x2), .second, .val (.long x3), .second, .val (.long x4), .second, .val (.int (3 : Int32)), .val (.ref b22), .unset, .unset, .unset, .unset, .unset] [(.int (1 : Int32)), (.ref b22)])) (fun t k => XS.iconst X24.here hx rfl (hb hby at_29) k) ?_
    refine own_via (U' := T24.setTop (mkF m 31 #[.val (.int x1), .val (.long x2), .second, .val (.long x3), .second, .val (.long x4), .second, .val (.int (3 : Int32)), .val (.ref b22), .unset, .unset, .unset, .unset, .unset] [(.long x3), (.int (1 : Int32)), (.ref b22)])) (fun t k => XS.lloadN X24.here hx rfl (hb hby at_30) rfl k) ?_
    obtain ⟨c26, Ar26, q26a, q26b, q26c, q26d, q26e⟩ := id V24
    obtain ⟨T26, h26, X26, e26, W26, st26⟩ := stJ X24 hx hZ e24 Ar26 (inb_of q26b (by decide)) (g := (mkF m 31 #[.val (.int x1), .val (.long x2), .second, .val (.long x3), .second, .val (.long x4), .second, .val (.int (3 : Int32)), .val (.ref b22), .unset, .unset, .unset, .unset, .unset] [(.long x3), (.int (1 : Int32)), (.ref b22)])) rfl rfl (hb hby at_31)
    have V26 : Arv Z h26 b22 k22 .long (3 : Int32) [(.long x2), (.long x3), (.long (0 : Int64))] (.long (0 : Int64)) := Arv.set Ar26 q26a q26b q26c q26d q26e rfl W26 1 rfl (Nat.le_of_ble_eq_true rfl)
    have Z27 : n0 ≤ h26.size := Nat.le_trans Z25 (Keep.of_wr W26).1
    have K27 := K25.wr W26 (Or.inr sz_b22)
    have N26 := Fr.snoc X26 N24 gn_b22
    refine own_via (U' := T26.setTop (mkF m 32 #[.val (.int x1), .val (.long x2), .second, .val (.long x3), .second, .val (.long x4), .second, .val (.int (3 : Int32)), .val (.ref b22), .unset, .unset, .unset, .unset, .unset] [])) (fun t k => st26 t k) ?_
    refine own_via (U' := T26.setTop (mkF m 34 #[.val (.int x1), .val (.long x2), .second, .val (.long x3), .second, .val (.long x4), .second, .val (.int (3 : Int32)), .val (.ref b22), .unset, .unset, .unset, .unset, .unset] [(.int (3 : Int32))])) (fun t k => XS.iload X26.here hx rfl (hb hby at_32) rfl k) ?_
    refine own_via (U' := T26.setTop (mkF m 35 #[.val (.int x1), .val (.long x2), .second, .val (.long x3), .second, .val (.long x4), .second, .val (.int (3 : Int32)), .val (.ref b22), .unset, .unset, .unset, .unset, .unset] [(.int (2 : Int32)), (.int (3 : Int32))])) (fun t k => XS.iconst X26.here hx rfl (hb hby at_34) k) ?_
    refine own_via (U' := T26.setTop (mkF m 38 #[.val (.int x1), .val (.long x2), .second, .val (.long x3), .second, .val (.long x4), .second, .val (.int (3 : Int32)), .val (.ref b22), .unset, .unset, .unset, .unset, .unset] [])) (fun t k => XS.icmpNo X26.here hx rfl (hb hby at_35) rfl (tlt (by decide : ((2 : Int32) < (3 : Int32)))).2.2.2 k) ?_
    refine own_via (U' := T26.setTop (mkF m 40 #[.val (.int x1), .val (.long x2), .second, .val (.long x3), .second, .val (.long x4), .second, .val (.int (3 : Int32)), .val (.ref b22), .unset, .unset, .unset, .unset, .unset] [(.ref b22)])) (fun t k => XS.aload X26.here hx rfl (hb hby at_38) rfl rfl k) ?_
    refine own_via (U' := T26.setTop (mkF m 41 #[.val (.int x1), .val (.long x2), .second, .val (.long x3), .second, .val (.long x4), .second, .val (.int (3 : Int32)), .val (.ref b22), .unset, .unset, .unset, .unset, .unset] [(.int (2 : Int32)), (.ref b22)])) (fun t k => XS.iconst X26.here hx rfl (hb hby at_40) k) ?_
    refine own_via (U' := T26.setTop (mkF m 43 #[.val (.int x1), .val (.long x2), .second, .val (.long x3), .second, .val (.long x4), .second, .val (.int (3 : Int32)), .val (.ref b22), .unset, .unset, .unset, .unset, .unset] [(.long x4), (.int (2 : Int32)), (.ref b22)])) (fun t k => XS.lload X26.here hx rfl (hb hby at_41) rfl k) ?_
    obtain ⟨c28, Ar28, q28a, q28b, q28c, q28d, q28e⟩ := id V26
    obtain ⟨T28, h28, X28, e28, W28, st28⟩ := stJ X26 hx hZ e26 Ar28 (inb_of q28b (by decide)) (g := (mkF m 43 #[.val (.int x1), .val (.long x2), .second, .val (.long x3), .second, .val (.long x4), .second, .val (.int (3 : Int32)), .val (.ref b22), .unset, .unset, .unset, .unset, .unset] [(.long x4), (.int (2 : Int32)), (.ref b22)])) rfl rfl (hb hby at_43)
    have V28 : Arv Z h28 b22 k22 .long (3 : Int32) [(.long x2), (.long x3), (.long x4)] (.long (0 : Int64)) := Arv.set Ar28 q28a q28b q28c q28d q28e rfl W28 2 rfl (Nat.le_of_ble_eq_true rfl)
    have Z29 : n0 ≤ h28.size := Nat.le_trans Z27 (Keep.of_wr W28).1
    have K29 := K27.wr W28 (Or.inr sz_b22)
    have N28 := Fr.snoc X28 N26 gn_b22
    refine own_via (U' := T28.setTop (mkF m 44 #[.val (.int x1), .val (.long x2), .second, .val (.long x3), .second, .val (.long x4), .second, .val (.int (3 : Int32)), .val (.ref b22), .unset, .unset, .unset, .unset, .unset] [])) (fun t k => st28 t k) ?_
    refine own_via (U' := T28.setTop (mkF m 46 #[.val (.int x1), .val (.long x2), .second, .val (.long x3), .second, .val (.long x4), .second, .val (.int (3 : Int32)), .val (.ref b22), .unset, .unset, .unset, .unset, .unset] [(.ref b22)])) (fun t k => XS.aload X28.here hx rfl (hb hby at_44) rfl rfl k) ?_
    obtain ⟨_, T30, L30, X30, hQ30, st30⟩ := own_callS X28 hx hZ (y := (⟨"com/example/tenure/tenure/LayoutPath", "last", "([J)J"⟩ : MethodName)) (W := 0) hown (hw _ (List.mem_of_getElem? (i := 1) rfl)) (hw _ (List.mem_of_getElem? (i := 2) rfl)) (hw _ (List.mem_of_getElem? (i := 3) rfl)) (hw _ (List.mem_of_getElem? (i := 4) rfl)) (by decide) (rm_Qla3 l Z a0 hw [] b22 k22 x2 x3 x4 h28 n0 Z29 V28) (by decide) (by decide) e28 (g := (mkF m 46 #[.val (.int x1), .val (.long x2), .second, .val (.long x3), .second, .val (.long x4), .second, .val (.int (3 : Int32)), .val (.ref b22), .unset, .unset, .unset, .unset, .unset] [(.ref b22)])) rfl (by rw [hml]; rfl) (argsL := [(.ref b22)]) (rest := []) rfl (lenOf pd_AJ__J rfl) rfl (by show 2 * 0 + _ ≤ _; exact Nat.le_of_eq rfl) (hb hby at_46) (by decide) (by decide)
    obtain ⟨rfl, N30q, e30⟩ := hQ30
    have N30 := Fr.app N28 N30q
    refine own_via (U' := T30.setTop (mkF m 49 #[.val (.int x1), .val (.long x2), .second, .val (.long x3), .second, .val (.long x4), .second, .val (.int (3 : Int32)), .val (.ref b22), .unset, .unset, .unset, .unset, .unset] [(.long x4)])) (fun t k => st30 t k) ?_
    refine own_via (U' := T30.setTop (mkF m 51 #[.val (.int x1), .val (.long x2), .second, .val (.long x3), .second, .val (.long x4), .second, .val (.int (3 : Int32)), .val (.ref b22), .val (.long x4), .second, .unset, .unset, .unset] [])) (fun t k => XS.lstore X30.here hx rfl (hb hby at_49) rfl (l' := #[.val (.int x1), .val (.long x2), .second, .val (.long x3), .second, .val (.long x4), .second, .val (.int (3 : Int32)), .val (.ref b22), .val (.long x4), .second, .unset, .unset, .unset]) rfl k) ?_
    refine own_via (U' := T30.setTop (mkF m 53 #[.val (.int x1), .val (.long x2), .second, .val (.long x3), .second, .val (.long x4), .second, .val (.int (3 : Int32)), .val (.ref b22), .val (.long x4), .second, .unset, .unset, .unset] [(.int (3 : Int32))])) (fun t k => XS.iload X30.here hx rfl (hb hby at_51) rfl k) ?_
    refine own_via (U' := T30.setTop (mkF m 62 #[.val (.int x1), .val (.long x2), .second, .val (.long x3), .second, .val (.long x4), .second, .val (.int (3 : Int32)), .val (.ref b22), .val (.long x4), .second, .unset, .unset, .unset] [])) (fun t k => XS.ifYes X30.here hx rfl (pc0 := 53) (pc' := 62) rfl (hb hby at_53) rfl ((if0 _ _).trans (feq (by decide : ¬ ((3 : Int32) = (0 : Int32)))).2) (by decide) (by decide) k) ?_
    refine own_via (U' := T30.setTop (mkF m 64 #[.val (.int x1), .val (.long x2), .second, .val (.long x3), .second, .val (.long x4), .second, .val (.int (3 : Int32)), .val (.ref b22), .val (.long x4), .second, .unset, .unset, .unset] [(.int (3 : Int32))])) (fun t k => XS.iload X30.here hx rfl (hb hby at_62) rfl k) ?_
    refine own_via (U' := T30.setTop (mkF m 65 #[.val (.int x1), .val (.long x2), .second, .val (.long x3), .second, .val (.long x4), .second, .val (.int (3 : Int32)), .val (.ref b22), .val (.long x4), .second, .unset, .unset, .unset] [(.int (1 : Int32)), (.int (3 : Int32))])) (fun t k => XS.iconst X30.here hx rfl (hb hby at_64) k) ?_
    refine own_via (U' := T30.setTop (mkF m 74 #[.val (.int x1), .val (.long x2), .second, .val (.long x3), .second, .val (.long x4), .second, .val (.int (3 : Int32)), .val (.ref b22), .val (.long x4), .second, .unset, .unset, .unset] [])) (fun t k => XS.icmpYes X30.here hx rfl (pc0 := 65) (pc' := 74) rfl (hb hby at_65) rfl (feq (by decide : ¬ ((3 : Int32) = (1 : Int32)))).2 (by decide) (by decide) k) ?_
    refine own_via (U' := T30.setTop (mkF m 76 #[.val (.int x1), .val (.long x2), .second, .val (.long x3), .second, .val (.long x4), .second, .val (.int (3 : Int32)), .val (.ref b22), .val (.long x4), .second, .unset, .unset, .unset] [(.int (3 : Int32))])) (fun t k => XS.iload X30.here hx rfl (hb hby at_74) rfl k) ?_
    refine own_via (U' := T30.setTop (mkF m 77 #[.val (.int x1), .val (.long x2), .second, .val (.long x3), .second, .val (.long x4), .second, .val (.int (3 : Int32)), .val (.ref b22), .val (.long x4), .second, .unset, .unset, .unset] [(.int (2 : Int32)), (.int (3 : Int32))])) (fun t k => XS.iconst X30.here hx rfl (hb hby at_76) k) ?_
    refine own_via (U' := T30.setTop (mkF m 86 #[.val (.int x1), .val (.long x2), .second, .val (.long x3), .second, .val (.long x4), .second, .val (.int (3 : Int32)), .val (.ref b22), .val (.long x4), .second, .unset, .unset, .unset] [])) (fun t k => XS.icmpYes X30.here hx rfl (pc0 := 77) (pc' := 86) rfl (hb hby at_77) rfl (feq (by decide : ¬ ((3 : Int32) = (2 : Int32)))).2 (by decide) (by decide) k) ?_
    refine own_via (U' := T30.setTop (mkF m 88 #[.val (.int x1), .val (.long x2), .second, .val (.long x3), .second, .val (.long x4), .second, .val (.int (3 : Int32)), .val (.ref b22), .val (.long x4), .second, .unset, .unset, .unset] [(.long x4)])) (fun t k => XS.lload X30.here hx rfl (hb hby at_86) rfl k) ?_
    refine own_via (U' := T30.setTop (mkF m 90 #[.val (.int x1), .val (.long x2), .second, .val (.long x3), .second, .val (.long x4), .second, .val (.int (3 : Int32)), .val (.ref b22), .val (.long x4), .second, .val (.long x4), .second, .unset] [])) (fun t k => XS.lstore X30.here hx rfl (hb hby at_88) rfl (l' := #[.val (.int x1), .val (.long x2), .second, .val (.long x3), .second, .val (.long x4), .second, .val (.int (3 : Int32)), .val (.ref b22), .val (.long x4), .second, .val (.long x4), .second, .unset]) rfl k) ?_
    refine own_via (U' := T30.setTop (mkF m 92 #[.val (.int x1), .val (.long x2), .second, .val (.long x3), .second, .val (.long x4), .second, .val (.int (3 : Int32)), .val (.ref b22), .val (.long x4), .second, .val (.long x4), .second, .unset] [(.int (3 : Int32))])) (fun t k => XS.iload X30.here hx rfl (hb hby at_90) rfl k) ?_
    refine own_via (U' := T30.setTop (mkF m 93 #[.val (.int x1), .val (.long x2), .second, .val (.long x3), .second, .val (.long x4), .second, .val (.int (3 : Int32)), .val (.ref b22), .val (.long x4), .second, .val (.long x4), .second, .unset] [(.int (1 : Int32)), (.int (3 : Int32))])) (fun t k => XS.iconst X30.here hx rfl (hb hby at_92) k) ?_
    refine own_via (U' := T30.setTop (mkF m 96 #[.val (.int x1), .val (.long x2), .second, .val (.long x3), .second, .val (.long x4), .second, .val (.int (3 : Int32)), .val (.ref b22), .val (.long x4), .second, .val (.long x4), .second, .unset] [])) (fun t k => XS.icmpNo X30.here hx rfl (hb hby at_93) rfl (flt (by decide : ¬ ((3 : Int32) < (1 : Int32)))).1 k) ?_
    refine own_via (U' := T30.setTop (mkF m 98 #[.val (.int x1), .val (.long x2), .second, .val (.long x3), .second, .val (.long x4), .second, .val (.int (3 : Int32)), .val (.ref b22), .val (.long x4), .second, .val (.long x4), .second, .unset] [(.ref b22)])) (fun t k => XS.aload X30.here hx rfl (hb hby at_96) rfl rfl k) ?_
    refine own_via (U' := T30.setTop (mkF m 99 #[.val (.int x1), .val (.long x2), .second, .val (.long x3), .second, .val (.long x4), .second, .val (.int (3 : Int32)), .val (.ref b22), .val (.long x4), .second, .val (.long x4), .second, .unset] [(.int (0 : Int32)), (.ref b22)])) (fun t k => XS.iconst X30.here hx rfl (hb hby at_98) k) ?_
    obtain ⟨c31, Ar31, q31a, q31b, q31c, q31d, q31e⟩ := id V28
    refine own_via (U' := T30.setTop (mkF m 100 #[.val (.int x1), .val (.long x2), .second, .val (.long x3), .second, .val (.long x4), .second, .val (.int (3 : Int32)), .val (.ref b22), .val (.long x4), .second, .val (.long x4), .second, .unset] [(.long x2)])) (fun t k => X30.laload hx (j := (0 : Int32)) (v := (.long x2)) (by rw [e30]; exact Ar31.1) (State.isArrayOf_alike hZ.alike Ar31.2.1) Ar31.2.2 (inb_of q31b (by decide)) (q31d.at (inb_of q31b (by decide)) rfl) (g := (mkF m 99 #[.val (.int x1), .val (.long x2), .second, .val (.long x3), .second, .val (.long x4), .second, .val (.int (3 : Int32)), .val (.ref b22), .val (.long x4), .second, .val (.long x4), .second, .unset] [(.int (0 : Int32)), (.ref b22)])) rfl rfl (hb hby at_99) _ k) ?_
    refine own_via (U' := T30.setTop (mkF m 101 #[.val (.int x1), .val (.long x2), .second, .val (.long x3), .second, .val (.long x4), .second, .val (.int (3 : Int32)), .val (.ref b22), .val (.long x4), .second, .val (.long x4), .second, .unset] [(.long x2), (.long x2)])) (fun t k => XS.lloadN X30.here hx rfl (hb hby at_100) rfl k) ?_
    refine own_via (U' := T30.setTop (mkF m 102 #[.val (.int x1), .val (.long x2), .second, .val (.long x3), .second, .val (.long x4), .second, .val (.int (3 : Int32)), .val (.ref b22), .val (.long x4), .second, .val (.long x4), .second, .unset] [(.int (lcmpW x2 x2))])) (fun t k => XS.lcmp X30.here hx rfl (hb hby at_101) rfl k) ?_
    refine own_via (U' := T30.setTop (mkF m 105 #[.val (.int x1), .val (.long x2), .second, .val (.long x3), .second, .val (.long x4), .second, .val (.int (3 : Int32)), .val (.ref b22), .val (.long x4), .second, .val (.long x4), .second, .unset] [])) (fun t k => XS.ifNo X30.here hx rfl (hb hby at_102) rfl (own_jeq (rfl : x2 = x2)).2 k) ?_
    refine own_via (U' := T30.setTop (mkF m 107 #[.val (.int x1), .val (.long x2), .second, .val (.long x3), .second, .val (.long x4), .second, .val (.int (3 : Int32)), .val (.ref b22), .val (.long x4), .second, .val (.long x4), .second, .unset] [(.int (3 : Int32))])) (fun t k => XS.iload X30.here hx rfl (hb hby at_105) rfl k) ?_
    refine own_via (U' := T30.setTop (mkF m 108 #[.val (.int x1), .val (.long x2), .second, .val (.long x3), .second, .val (.long x4), .second, .val (.int (3 : Int32)), .val (.ref b22), .val (.long x4), .second, .val (.long x4), .second, .unset] [(.int (2 : Int32)), (.int (3 : Int32))])) (fun t k => XS.iconst X30.here hx rfl (hb hby at_107) k) ?_
    refine own_via (U' := T30.setTop (mkF m 111 #[.val (.int x1), .val (.long x2), .second, .val (.long x3), .second, .val (.long x4), .second, .val (.int (3 : Int32)), .val (.ref b22), .val (.long x4), .second, .val (.long x4), .second, .unset] [])) (fun t k => XS.icmpNo X30.here hx rfl (hb hby at_108) rfl (flt (by decide : ¬ ((3 : Int32) < (2 : Int32)))).1 k) ?_
    refine own_via (U' := T30.setTop (mkF m 113 #[.val (.int x1), .val (.long x2), .second, .val (.long x3), .second, .val (.long x4), .second, .val (.int (3 : Int32)), .val (.ref b22), .val (.long x4), .second, .val (.long x4), .second, .unset] [(.ref b22)])) (fun t k => XS.aload X30.here hx rfl (hb hby at_111) rfl rfl k) ?_
    refine own_via (U' := T30.setTop (mkF m 114 #[.val (.int x1), .val (.long x2), .second, .val (.long x3), .second, .val (.long x4), .second, .val (.int (3 : Int32)), .val (.ref b22), .val (.long x4), .second, .val (.long x4), .second, .unset] [(.int (1 : Int32)), (.ref b22)])) (fun t k => XS.iconst X30.here hx rfl (hb hby at_113) k) ?_
    obtain ⟨c32, Ar32, q32a, q32b, q32c, q32d, q32e⟩ := id V28
    refine own_via (U' := T30.setTop (mkF m 115 #[.val (.int x1), .val (.long x2), .second, .val (.long x3), .second, .val (.long x4), .second, .val (.int (3 : Int32)), .val (.ref b22), .val (.long x4), .second, .val (.long x4), .second, .unset] [(.long x3)])) (fun t k => X30.laload hx (j := (1 : Int32)) (v := (.long x3)) (by rw [e30]; exact Ar32.1) (State.isArrayOf_alike hZ.alike Ar32.2.1) Ar32.2.2 (inb_of q32b (by decide)) (q32d.at (inb_of q32b (by decide)) rfl) (g := (mkF m 114 #[.val (.int x1), .val (.long x2), .second, .val (.long x3), .second, .val (.long x4), .second, .val (.int (3 : Int32)), .val (.ref b22), .val (.long x4), .second, .val (.long x4), .second, .unset] [(.int (1 : Int32)), (.ref b22)])) rfl rfl (hb hby at_114) _ k) ?_
    refine own_via (U' := T30.setTop (mkF m 116 #[.val (.int x1), .val (.long x2), .second, .val (.long x3), .second, .val (.long x4), .second, .val (.int (3 : Int32)), .val (.ref b22), .val (.long x4), .second, .val (.long x4), .second, .unset] [(.long x3), (.long x3)])) (fun t k => XS.lloadN X30.here hx rfl (hb hby at_115) rfl k) ?_
    refine own_via (U' := T30.setTop (mkF m 117 #[.val (.int x1), .val (.long x2), .second, .val (.long x3), .second, .val (.long x4), .second, .val (.int (3 : Int32)), .val (.ref b22), .val (.long x4), .second, .val (.long x4), .second, .unset] [(.int (lcmpW x3 x3))])) (fun t k => XS.lcmp X30.here hx rfl (hb hby at_116) rfl k) ?_
    refine own_via (U' := T30.setTop (mkF m 120 #[.val (.int x1), .val (.long x2), .second, .val (.long x3), .second, .val (.long x4), .second, .val (.int (3 : Int32)), .val (.ref b22), .val (.long x4), .second, .val (.long x4), .second, .unset] [])) (fun t k => XS.ifNo X30.here hx rfl (hb hby at_117) rfl (own_jeq (rfl : x3 = x3)).2 k) ?_
    refine own_via (U' := T30.setTop (mkF m 122 #[.val (.int x1), .val (.long x2), .second, .val (.long x3), .second, .val (.long x4), .second, .val (.int (3 : Int32)), .val (.ref b22), .val (.long x4), .second, .val (.long x4), .second, .unset] [(.int (3 : Int32))])) (fun t k => XS.iload X30.here hx rfl (hb hby at_120) rfl k) ?_
    refine own_via (U' := T30.setTop (mkF m 123 #[.val (.int x1), .val (.long x2), .second, .val (.long x3), .second, .val (.long x4), .second, .val (.int (3 : Int32)), .val (.ref b22), .val (.long x4), .second, .val (.long x4), .second, .unset] [(.int (3 : Int32)), (.int (3 : Int32))])) (fun t k => XS.iconst X30.here hx rfl (hb hby at_122) k) ?_
    refine own_via (U' := T30.setTop (mkF m 126 #[.val (.int x1), .val (.long x2), .second, .val (.long x3), .second, .val (.long x4), .second, .val (.int (3 : Int32)), .val (.ref b22), .val (.long x4), .second, .val (.long x4), .second, .unset] [])) (fun t k => XS.icmpNo X30.here hx rfl (hb hby at_123) rfl (flt (by decide : ¬ ((3 : Int32) < (3 : Int32)))).1 k) ?_
    refine own_via (U' := T30.setTop (mkF m 128 #[.val (.int x1), .val (.long x2), .second, .val (.long x3), .second, .val (.long x4), .second, .val (.int (3 : Int32)), .val (.ref b22), .val (.long x4), .second, .val (.long x4), .second, .unset] [(.ref b22)])) (fun t k => XS.aload X30.here hx rfl (hb hby at_126) rfl rfl k) ?_
    refine own_via (U' := T30.setTop (mkF m 129 #[.val (.int x1), .val (.long x2), .second, .val (.long x3), .second, .val (.long x4), .second, .val (.int (3 : Int32)), .val (.ref b22), .val (.long x4), .second, .val (.long x4), .second, .unset] [(.int (2 : Int32)), (.ref b22)])) (fun t k => XS.iconst X30.here hx rfl (hb hby at_128) k) ?_
    obtain ⟨c33, Ar33, q33a, q33b, q33c, q33d, q33e⟩ := id V28
    refine own_via (U' := T30.setTop (mkF m 130 #[.val (.int x1), .val (.long x2), .second, .val (.long x3), .second, .val (.long x4), .second, .val (.int (3 : Int32)), .val (.ref b22), .val (.long x4), .second, .val (.long x4), .second, .unset] [(.long x4)])) (fun t k => X30.laload hx (j := (2 : Int32)) (v := (.long x4)) (by rw [e30]; exact Ar33.1) (State.isArrayOf_alike hZ.alike Ar33.2.1) Ar33.2.2 (inb_of q33b (by decide)) (q33d.at (inb_of q33b (by decide)) rfl) (g := (mkF m 129 #[.val (.int x1), .val (.long x2), .second, .val (.long x3), .second, .val (.long x4), .second, .val (.int (3 : Int32)), .val (.ref b22), .val (.long x4), .second, .val (.long x4), .second, .unset] [(.int (2 : Int32)), (.ref b22)])) rfl rfl (hb hby at_129) _ k) ?_
    refine own_via (U' := T30.setTop (mkF m 132 #[.val (.int x1), .val (.long x2), .second, .val (.long x3), .second, .val (.long x4), .second, .val (.int (3 : Int32)), .val (.ref b22), .val (.long x4), .second, .val (.long x4), .second, .unset] [(.long x4), (.long x4)])) (fun t k => XS.lload X30.here hx rfl (hb hby at_130) rfl k) ?_
    refine own_via (U' := T30.setTop (mkF m 133 #[.val (.int x1), .val (.long x2), .second, .val (.long x3), .second, .val (.long x4), .second, .val (.int (3 : Int32)), .val (.ref b22), .val (.long x4), .second, .val (.long x4), .second, .unset] [(.int (lcmpW x4 x4))])) (fun t k => XS.lcmp X30.here hx rfl (hb hby at_132) rfl k) ?_
    refine own_via (U' := T30.setTop (mkF m 136 #[.val (.int x1), .val (.long x2), .second, .val (.long x3), .second, .val (.long x4), .second, .val (.int (3 : Int32)), .val (.ref b22), .val (.long x4), .second, .val (.long x4), .second, .unset] [])) (fun t k => XS.ifNo X30.here hx rfl (hb hby at_133) rfl (own_jeq (rfl : x4 = x4)).2 k) ?_
    refine own_via (U' := T30.setTop (mkF m 137 #[.val (.int x1), .val (.long x2), .second, .val (.long x3), .second, .val (.long x4), .second, .val (.int (3 : Int32)), .val (.ref b22), .val (.long x4), .second, .val (.long x4), .second, .unset] [(.int (1 : Int32))])) (fun t k => XS.iconst X30.here hx rfl (hb hby at_136) k) ?_
    refine own_via (U' := T30.setTop (mkF m 141 #[.val (.int x1), .val (.long x2), .second, .val (.long x3), .second, .val (.long x4), .second, .val (.int (3 : Int32)), .val (.ref b22), .val (.long x4), .second, .val (.long x4), .second, .unset] [(.int (1 : Int32))])) (fun t k => XS.goto X30.here hx rfl (pc0 := 137) (pc' := 141) rfl (hb hby at_137) (by decide) (by decide) k) ?_
    refine own_via (U' := T30.setTop (mkF m 143 #[.val (.int x1), .val (.long x2), .second, .val (.long x3), .second, .val (.long x4), .second, .val (.int (3 : Int32)), .val (.ref b22), .val (.long x4), .second, .val (.long x4), .second, .val (.int (1 : Int32))] [])) (fun t k => XS.istore X30.here hx rfl (hb hby at_141) rfl (l' := #[.val (.int x1), .val (.long x2), .second, .val (.long x3), .second, .val (.long x4), .second, .val (.int (3 : Int32)), .val (.ref b22), .val (.long x4), .second, .val (.long x4), .second, .val (.int (1 : Int32))]) rfl k) ?_
    refine own_via (U' := T30.setTop (mkF m 145 #[.val (.int x1), .val (.long x2), .second, .val (.long x3), .second, .val (.long x4), .second, .val (.int (3 : Int32)), .val (.ref b22), .val (.long x4), .second, .val (.long x4), .second, .val (.int (1 : Int32))] [(.long x4)])) (fun t k => XS.lload X30.here hx rfl (hb hby at_143) rfl k) ?_
    refine own_via (U' := T30.setTop (mkF m 147 #[.val (.int x1), .val (.long x2), .second, .val (.long x3), .second, .val (.long x4), .second, .val (.int (3 : Int32)), .val (.ref b22), .val (.long x4), .second, .val (.long x4), .second, .val (.int (1 : Int32))] [(.long x4), (.long x4)])) (fun t k => XS.lload X30.here hx rfl (hb hby at_145) rfl k) ?_
    refine own_via (U' := T30.setTop (mkF m 148 #[.val (.int x1), .val (.long x2), .second, .val (.long x3), .second, .val (.long x4), .second, .val (.int (3 : Int32)), .val (.ref b22), .val (.long x4), .second, .val (.long x4), .second, .val (.int (1 : Int32))] [(.int (lcmpW x4 x4))])) (fun t k => XS.lcmp X30.here hx rfl (hb hby at_147) rfl k) ?_
    refine own_via (U' := T30.setTop (mkF m 151 #[.val (.int x1), .val (.long x2), .second, .val (.long x3), .second, .val (.long x4), .second, .val (.int (3 : Int32)), .val (.ref b22), .val (.long x4), .second, .val (.long x4), .second, .val (.int (1 : Int32))] [])) (fun t k => XS.ifNo X30.here hx rfl (hb hby at_148) rfl (own_jeq (rfl : x4 = x4)).2 k) ?_
    refine own_via (U' := T30.setTop (mkF m 153 #[.val (.int x1), .val (.long x2), .second, .val (.long x3), .second, .val (.long x4), .second, .val (.int (3 : Int32)), .val (.ref b22), .val (.long x4), .second, .val (.long x4), .second, .val (.int (1 : Int32))] [(.int (1 : Int32))])) (fun t k => XS.iload X30.here hx rfl (hb hby at_151) rfl k) ?_
    refine own_via (U' := T30.setTop (mkF m 156 #[.val (.int x1), .val (.long x2), .second, .val (.long x3), .second, .val (.long x4), .second, .val (.int (3 : Int32)), .val (.ref b22), .val (.long x4), .second, .val (.long x4), .second, .val (.int (1 : Int32))] [])) (fun t k => XS.ifNo X30.here hx rfl (hb hby at_153) rfl ((if0 _ _).trans (feq (by decide : ¬ ((1 : Int32) = (0 : Int32)))).1) k) ?_
    refine own_via (U' := T30.setTop (mkF m 158 #[.val (.int x1), .val (.long x2), .second, .val (.long x3), .second, .val (.long x4), .second, .val (.int (3 : Int32)), .val (.ref b22), .val (.long x4), .second, .val (.long x4), .second, .val (.int (1 : Int32))] [(.ref b22)])) (fun t k => XS.aload X30.here hx rfl (hb hby at_156) rfl rfl k) ?_
    obtain ⟨c34, Ar34, q34a, q34b, q34c, q34d, q34e⟩ := id V28
    refine own_via (U' := T30.setTop (mkF m 159 #[.val (.int x1), .val (.long x2), .second, .val (.long x3), .second, .val (.long x4), .second, .val (.int (3 : Int32)), .val (.ref b22), .val (.long x4), .second, .val (.long x4), .second, .val (.int (1 : Int32))] [(.int (3 : Int32))])) (fun t k => (fun t k => X30.arraylength hx (by rw [e30]; exact Ar34.1) (State.isArrayOf_alike hZ.alike Ar34.2.1) (g := (mkF m 158 #[.val (.int x1), .val (.long x2), .second, .val (.long x3), .second, .val (.long x4), .second, .val (.int (3 : Int32)), .val (.ref b22), .val (.long x4), .second, .val (.long x4), .second, .val (.int (1 : Int32))] [(.ref b22)])) rfl rfl (hb hby at_158) t (by rw [len_of q34b q34c]; exact k)) t k) ?_
    refine own_via (U' := T30.setTop (mkF m 161 #[.val (.int x1), .val (.long x2), .second, .val (.long x3), .second, .val (.long x4), .second, .val (.int (3 : Int32)), .val (.ref b22), .val (.long x4), .second, .val (.long x4), .second, .val (.int (1 : Int32))] [(.int (3 : Int32)), (.int (3 : Int32))])) (fun t k => XS.iload X30.here hx rfl (hb hby at_159) rfl k) ?_
    refine own_via (U' := T30.setTop (mkF m 164 #[.val (.int x1), .val (.long x2), .second, .val (.long x3), .second, .val (.long x4), .second, .val (.int (3 : Int32)), .val (.ref b22), .val (.long x4), .second, .val (.long x4), .second, .val (.int (1 : Int32))] [])) (fun t k => XS.icmpNo X30.here hx rfl (hb hby at_161) rfl (teq (by decide : ((3 : Int32) = (3 : Int32)))).2 k) ?_
    refine own_via (U' := T30.setTop (mkF m 165 #[.val (.int x1), .val (.long x2), .second, .val (.long x3), .second, .val (.long x4), .second, .val (.int (3 : Int32)), .val (.ref b22), .val (.long x4), .second, .val (.long x4), .second, .val (.int (1 : Int32))] [(.int (1 : Int32))])) (fun t k => XS.iconst X30.here hx rfl (hb hby at_164) k) ?_
    refine own_via (U' := T30.setTop (mkF m 169 #[.val (.int x1), .val (.long x2), .second, .val (.long x3), .second, .val (.long x4), .second, .val (.int (3 : Int32)), .val (.ref b22), .val (.long x4), .second, .val (.long x4), .second, .val (.int (1 : Int32))] [(.int (1 : Int32))])) (fun t k => XS.goto X30.here hx rfl (pc0 := 165) (pc' := 169) rfl (hb hby at_165) (by decide) (by decide) k) ?_
    exact own_ret X30 (v := some (.int (1 : Int32))) (fun h => by rw [Bd.returns] at h; cases h) hlk (fun fs hr => retN X30 hx (t := .boolean) Bd.returns (by simp) (hb hby at_169) hr) (by rw [e30]; exact ⟨rfl, N30⟩) (by decide) (by decide)
set_option maxRecDepth 65536 in
set_option maxHeartbeats 40000000 in
theorem comes_1 {Post : Tables → Env → Array Value → State → Outcome → State → Prop} (hpost : ∀ tb e args s v u, (limb_1_1.after args s (.returned v) u = true ∧ limb_1_2.after args s (.returned v) u = true ∧ True) → FrameEnd s (.returned v) u (Jvm.fieldLocs frame_1_writes args s ++ Jvm.arrayLocs frame_1_arrays args s ++ Jvm.staticLocs frame_1_statics s) 16 128 → Post tb e args s (.returned v) u) :
    ArmFor flags0 classFile x code maxLocals ret World_1 tables_1 room_1 Calls_1 rest_1 Pre_1 Post := by
  intro l hfl _ _ p e ha hc hk s m args below hf hA hF happ hP
  obtain ⟨hcalls, hrest, hpre⟩ := hP
  obtain ⟨-, -, -, hnamed, -, -, -, hat⟩ := (Spec.applies_iff hf).mp happ
  obtain ⟨hg, hn⟩ := and_e (Cond.before_iff.mp (show (Jvm.Cond.and given_1 narrow_1).before args s = true from hpre))
  obtain ⟨hcount, r0⟩ := and_e hg
  obtain ⟨k0, r1⟩ := and_e r0
  obtain ⟨k1, r2⟩ := and_e r1
  obtain ⟨k2, r3⟩ := and_e r2
  obtain ⟨w0, w1, w2, w3, rfl⟩ : ∃ w0 w1 w2 w3 : Value, args = #[w0, w1, w2, w3] := by
    have hs : args.size = 4 := by simpa [Cond.value, given_1] using hcount
    obtain ⟨L⟩ := args
    match L, hs with
    | [w0, w1, w2, w3], _ => exact ⟨w0, w1, w2, w3, rfl⟩
  have hw := fun d (hd : d ∈ tables_1) => atoms_spec (ws := Jvm.Cond.code x code maxLocals ret :: tables_1) hat d (List.mem_cons_of_mem _ hd)
  have hfit : Fit s := fun {y c} hc i hi => by
    obtain ⟨ha, rfl⟩ := Array.getElem?_eq_some_iff.mp hc
    have q := List.all_eq_true.mp ((Array.all_eq_true_iff_forall_mem.mp hF) _ (Array.getElem_mem ha)) i (List.mem_range.mpr hi)
    simpa [Array.getElem?_eq_getElem hi] using q
  obtain ⟨i0, ei0⟩ := is_v k0
  obtain rfl : w0 = (.int i0) := Option.some.inj ei0
  obtain ⟨i1, ei1⟩ := isL_v k1
  obtain rfl : w1 = (.long i1) := Option.some.inj ei1
  obtain ⟨i2, ei2⟩ := isL_v k2
  obtain rfl : w2 = (.long i2) := Option.some.inj ei2
  obtain ⟨i3, ei3⟩ := isL_v r3
  obtain rfl : w3 = (.long i3) := Option.some.inj ei3
  obtain ⟨n, o, h1, h2, h3, _, L, rfl, ⟨rfl, N⟩, hq⟩ := rm_Q0 l s _ hw tables_1 i0 i1 i2 i3 s.heap s.heap.size (Nat.le_refl _) p e ha hc hk s m _ below hf ((Spec.applies_iff_loose hf).mp happ).1 ⟨rfl, State.Warmed39.refl s, rfl⟩ trivial
  refine ⟨n, _, h1, h2, h3, hpost _ _ _ _ _ _ ⟨Cond.after_iff.mpr rfl, Cond.after_iff.mpr (eq_i res_at (Term.int_eval (1)) rfl), trivial⟩ ⟨hq.1, hq.2.1, (hq.2.2.sift fun y hy => Or.inr (N y hy)).mono (by decide) (by decide)⟩⟩
theorem main_1_1 : Claimed_1_1 := comes_1 fun _ _ _ _ _ _ h hF => ⟨h.1, hF⟩
theorem main_1_2 : Claimed_1_2 := comes_1 fun _ _ _ _ _ _ h hF => ⟨h.2.1, hF⟩
end Jvm.Pilot.@@N@@
namespace Jvm.Pilot.@@N@@
open Jvm Jvm.ClassFile Sem Op Lib Jvm.Free Jvm.Stand Jvm.Pilot.@@N@@.Jvm.D
/-! MADE BY PROGRAM (witnessworld.py) out of the Statement's table words and the real class files: 12 classes; the members and pool entries that the words name. The judged class is class 1, her method 1. -/
namespace start1
open Jvm.ClassFile
def u (s : String) : CpInfo := .utf8 (stringToUtf16 s)
/-- a pool by its gaps: so many unusable entries, then the entry; so many at the end -/
def gap : Nat → List CpInfo → List CpInfo
  | 0, r => r
  | n + 1, r => .unusable :: gap n r
def poolList (es : List (Nat × CpInfo)) (last : Nat) : List CpInfo := es.foldr (fun e r => gap e.1 (e.2 :: r)) (gap last [])
def pool (es : List (Nat × CpInfo)) (last : Nat) : Array CpInfo := ⟨poolList es last⟩
def fileOf (pool : Array CpInfo) (this : Nat) (attrs : Array Attribute := #[]) (ms : Array MethodInfo := #[]) (fl : Nat := 33) (sup : Nat := 0) (ifs : Array Nat := #[]) (fds : Array FieldInfo := #[]) : ClassFile where
  minorVersion := 0
  majorVersion := 65
  constantPool := pool
  accessFlags := fl
  thisClass := this
  superClass := sup
  interfaces := ifs
  fields := fds
  methods := ms
  attributes := attrs
def plain (name : String) (sup : Option ClassId) : Class where
  name := name
  kind := .ordinary
  loader := none
  accessFlags := 33
  super := sup
  interfaces := #[]
  cf := none
  fields := #[]
  methods := #[]
  instanceTypes := #[]
  staticTypes := #[]
  resolved := #[]
  callSites := []
  init := .initialized
  statics := none
  mirror := none

def pool0 : Array CpInfo := pool [(5, u "<init>"), (0, u "()V"), (1, .class_ 10), (1, u "java/lang/Object")] 113

def k0m0 : Method := { name := "<init>", desc := "()V", sig := { parameters := [], returnType := none }, accessFlags := 1, code := none }
/-- java/lang/Object -/
def k0 : Class := { plain "java/lang/Object" none with
  accessFlags := 33
  interfaces := #[]
  cf := some (fileOf pool0 8 #[] #[{ accessFlags := 1, nameIndex := 5, descriptorIndex := 6, attributes := #[] }] 33 0 #[] #[])
  fields := #[]
  methods := #[k0m0]
  instanceTypes := #[]
  staticTypes := #[]
  resolved := Array.replicate 124 none
  statics := none }

def pool1 : Array CpInfo := pool [(2, .class_ 4), (1, u "java/lang/Object"), (0, u "<init>"), (0, u "()V"), (0, .methodref 8 9), (0, .class_ 10), (0, .nameAndType 11 12), (0, u "com/example/tenure/tenure/LayoutPath"), (0, u "last"), (0, u "([J)J"), (0, .class_ 14), (0, u "com/example/tenure/tenure/LayoutPathLastPinLaw"), (2, u "law"), (0, u "(IJJJ)Z")] 5

def k1m0 : Method := { name := "<init>", desc := "()V", sig := { parameters := [], returnType := none }, accessFlags := 1, code := none }
def k1c1 : Code := { maxStack := 4, maxLocals := 14, code := code, exceptionTable := #[], attributes := #[] }
def k1m1 : Method := { name := "law", desc := "(IJJJ)Z", sig := { parameters := [.int, .long, .long, .long], returnType := some .boolean }, accessFlags := 9, code := some k1c1 }
/-- com/example/tenure/tenure/LayoutPathLastPinLaw -/
def k1 : Class := { plain "com/example/tenure/tenure/LayoutPathLastPinLaw" (some 0) with
  accessFlags := 49
  interfaces := #[]
  cf := some (fileOf pool1 13 #[] #[{ accessFlags := 1, nameIndex := 5, descriptorIndex := 6, attributes := #[] }, { accessFlags := 9, nameIndex := 17, descriptorIndex := 18, attributes := #[] }] 49 2 #[] #[])
  fields := #[]
  methods := #[k1m0, k1m1]
  instanceTypes := #[]
  staticTypes := #[]
  resolved := Array.replicate 24 none
  statics := none }

def pool2 : Array CpInfo := pool [(2, .class_ 4), (1, u "java/lang/Object"), (0, u "<init>"), (0, u "()V"), (0, .class_ 8), (0, u "java/lang/Record")] 13

def k2m0 : Method := { name := "<init>", desc := "()V", sig := { parameters := [], returnType := none }, accessFlags := 4, code := none }
/-- java/lang/Record -/
def k2 : Class := { plain "java/lang/Record" (some 0) with
  accessFlags := 1057
  interfaces := #[]
  cf := some (fileOf pool2 7 #[] #[{ accessFlags := 4, nameIndex := 5, descriptorIndex := 6, attributes := #[] }] 1057 2 #[] #[])
  fields := #[]
  methods := #[k2m0]
  instanceTypes := #[]
  staticTypes := #[]
  resolved := Array.replicate 22 none
  statics := none }

def pool3 : Array CpInfo := pool [(2, .class_ 4), (1, u "java/lang/Record"), (3, .class_ 10), (1, u "com/example/tenure/tenure/LayoutPath"), (0, u "target"), (0, u "Lcom/example/tenure/tenure/Layout;"), (2, u "offset"), (0, u "J"), (2, u "strides"), (0, u "[J"), (2, u "counts"), (2, u "text"), (0, u "Ljava/lang/String;"), (2, u "lastStride"), (2, u "lastCount"), (2, u "lastIntCount"), (0, u "I"), (2, u "lastSpan"), (187, u "last"), (0, u "([J)J")] 55

def k3c0 : Code := { maxStack := 3, maxLocals := 1, code := prog_26_method_8_code, exceptionTable := #[], attributes := #[] }
def k3m0 : Method := { name := "last", desc := "([J)J", sig := { parameters := [(.array .long)], returnType := some .long }, accessFlags := 8, code := some k3c0 }
/-- com/example/tenure/tenure/LayoutPath -/
def k3 : Class := { plain "com/example/tenure/tenure/LayoutPath" (some 2) with
  accessFlags := 48
  interfaces := #[]
  cf := some (fileOf pool3 8 #[] #[{ accessFlags := 8, nameIndex := 228, descriptorIndex := 229, attributes := #[] }] 48 2 #[] #[{ accessFlags := 18, nameIndex := 11, descriptorIndex := 12, attributes := #[] }, { accessFlags := 18, nameIndex := 15, descriptorIndex := 16, attributes := #[] }, { accessFlags := 18, nameIndex := 19, descriptorIndex := 20, attributes := #[] }, { accessFlags := 18, nameIndex := 23, descriptorIndex := 20, attributes := #[] }, { accessFlags := 18, nameIndex := 26, descriptorIndex := 27, attributes := #[] }, { accessFlags := 18, nameIndex := 30, descriptorIndex := 16, attributes := #[] }, { accessFlags := 18, nameIndex := 33, descriptorIndex := 16, attributes := #[] }, { accessFlags := 18, nameIndex := 36, descriptorIndex := 37, attributes := #[] }, { accessFlags := 18, nameIndex := 40, descriptorIndex := 16, attributes := #[] }])
  fields := #[{ name := "target", type := (.object "com/example/tenure/tenure/Layout"), accessFlags := 18, slot := 0, constantValue := 0 }, { name := "offset", type := .long, accessFlags := 18, slot := 1, constantValue := 0 }, { name := "strides", type := (.array .long), accessFlags := 18, slot := 2, constantValue := 0 }, { name := "counts", type := (.array .long), accessFlags := 18, slot := 3, constantValue := 0 }, { name := "text", type := (.object "java/lang/String"), accessFlags := 18, slot := 4, constantValue := 0 }, { name := "lastStride", type := .long, accessFlags := 18, slot := 5, constantValue := 0 }, { name := "lastCount", type := .long, accessFlags := 18, slot := 6, constantValue := 0 }, { name := "lastIntCount", type := .int, accessFlags := 18, slot := 7, constantValue := 0 }, { name := "lastSpan", type := .long, accessFlags := 18, slot := 8, constantValue := 0 }]
  methods := #[k3m0]
  instanceTypes := #[(.object "com/example/tenure/tenure/Layout"), .long, (.array .long), (.array .long), (.object "java/lang/String"), .long, .long, .int, .long]
  staticTypes := #[]
  resolved := Array.replicate 285 none
  statics := none }

def pool4 : Array CpInfo := pool [(1, u "java/lang/Cloneable"), (0, .class_ 1), (0, u "java/lang/Object"), (0, .class_ 3)] 3

/-- java/lang/Cloneable -/
def k4 : Class := { plain "java/lang/Cloneable" (some 0) with
  accessFlags := 1537
  interfaces := #[]
  cf := some (fileOf pool4 2 #[] #[] 1537 4 #[] #[])
  fields := #[]
  methods := #[]
  instanceTypes := #[]
  staticTypes := #[]
  resolved := Array.replicate 8 none
  statics := none }

def pool5 : Array CpInfo := pool [(1, u "java/io/Serializable"), (0, .class_ 1), (0, u "java/lang/Object"), (0, .class_ 3)] 3

/-- java/io/Serializable -/
def k5 : Class := { plain "java/io/Serializable" (some 0) with
  accessFlags := 1537
  interfaces := #[]
  cf := some (fileOf pool5 2 #[] #[] 1537 4 #[] #[])
  fields := #[]
  methods := #[]
  instanceTypes := #[]
  staticTypes := #[]
  resolved := Array.replicate 8 none
  statics := none }

/-- the primitive byte -/
def k6 : Class := { plain "byte" none with kind := .primitive 'B', accessFlags := 0x411 }
/-- [B -/
def k7 : Class := { plain "[B" (some 0) with kind := .array 6 .byte, interfaces := #[4, 5], accessFlags := 1041 }

/-- the primitive int -/
def k8 : Class := { plain "int" none with kind := .primitive 'I', accessFlags := 0x411 }
/-- [I -/
def k9 : Class := { plain "[I" (some 0) with kind := .array 8 .int, interfaces := #[4, 5], accessFlags := 1041 }

/-- the primitive long -/
def k10 : Class := { plain "long" none with kind := .primitive 'J', accessFlags := 0x411 }
/-- [J -/
def k11 : Class := { plain "[J" (some 0) with kind := .array 10 .long, interfaces := #[4, 5], accessFlags := 1041 }

def heap : Heap := #[]
def classes : Array Class := #[k0, k1, k2, k3, k4, k5, k6, k7, k8, k9, k10, k11]
def interned : List (Array UInt16 × Addr) := []
def slotsUsed : Nat := 0
def theMethod : MethodId := ⟨1, 1⟩
def args0 : Array Value := #[.int 2, .long 5, .long 6, .long 7]
def aboutOver (below : List Frame) : State where
  vm := { classes := classes, interned := interned.toArray }
  heap := heap
  slotsUsed := slotsUsed
  threads := #[{ frames := .invoking theMethod args0 :: below }]
def below0 : List Frame := [.native { method := ⟨0, 0⟩, args := #[] }]
def about1 : State := aboutOver below0
def p0 : Program := .bare "" "" ""
def e0 : Env := launch0.env 0 0 0
theorem w_frames : about1.frames = Frame.invoking theMethod args0 :: below0 := rfl
set_option maxRecDepth 65536 in
theorem w_args : argsFit about1.vm theMethod args0 = true := by decide +kernel
set_option maxRecDepth 65536 in
theorem w_heap : heapFits about1 = true := by decide +kernel
set_option maxRecDepth 65536 in
theorem w_runnable : about1.curStatus? = some .runnable := by decide +kernel
set_option maxRecDepth 65536 in
theorem w_alone : about1.alone = true := by decide +kernel
set_option maxRecDepth 65536 in
theorem w_named : about1.methodNamed? x = some theMethod := by decide +kernel
set_option maxRecDepth 65536 in
theorem w_hears : about1.hears theMethod below0 = true := by decide +kernel
set_option maxRecDepth 65536 in
theorem w_ripe : about1.ripe theMethod args0 below0 = true := by decide +kernel
theorem w_running : about1.status = .running := rfl
set_option maxRecDepth 65536 in
theorem w_room : about1.hasRoom e0.platform room_1 = true :=
  launch0.hasRoom_least _ room_1 (by decide +kernel) (by decide +kernel) (by decide +kernel) (by decide +kernel) (by decide +kernel) (by decide +kernel)
theorem allAtoms_all (ts : List Jvm.Cond) (a : Array Jvm.Value) (st : Jvm.State) : (allAtoms ts).before a st = ts.all (fun c => c.before a st) := by
  induction ts with
  | nil => rfl
  | cons c t ih =>
    show (Jvm.Cond.and c (allAtoms t)).before a st = _
    rw [Jvm.Cond.before_and, ih, List.all_cons]
def words1 : List Jvm.Cond := Jvm.Cond.code x code maxLocals ret :: tables_1
/-- a 'code' word, met by the world's own term for the bytes: nothing is compared byte by byte -/
theorem code_word {y : MethodName} {bytes : ByteArray} {mx : Nat} {rt : Option FieldType} {a : Array Value} {s : State} {m : MethodId} {meth : Method} {c : Code} (h1 : s.methodNamed? y = some m) (h2 : s.vm.method? m = some meth) (h3 : meth.code = some c) (h4 : c.code = bytes)
    (h5 : (c.maxLocals == mx && c.exceptionTable.isEmpty && decide (c.maxStack ≤ mostOperands) && decide (meth.sig.returnType = rt) && !meth.locks && decide (parseMethodDescriptor y.desc = some meth.sig)) = true) : (Jvm.Cond.code y bytes mx rt).before a s = true := by
  simp only [Bool.and_eq_true, beq_iff_eq, Bool.not_eq_true', decide_eq_true_eq] at h5
  obtain ⟨⟨⟨⟨⟨g1, g2⟩, g3⟩, g4⟩, g5⟩, g6⟩ := h5
  simp [Cond.before, Cond.holds, Cond.value, h1, h2, h3, h4, g1, g2, g3, g4, g5, g6]
def isCode : Jvm.Cond → Bool
  | .code _ _ _ _ => true
  | _ => false
theorem all_split {L : List Jvm.Cond} {P : Jvm.Cond → Bool} (h1 : L.all (fun c => isCode c || P c) = true) (h2 : ∀ c ∈ L.filter isCode, P c = true) : L.all P = true := by
  refine List.all_eq_true.mpr fun c hc => ?_
  have h := List.all_eq_true.mp h1 c hc
  rcases Bool.eq_false_or_eq_true (isCode c) with hi | hi
  · exact h2 c (List.mem_filter.mpr ⟨hc, hi⟩)
  · simpa [hi] using h
set_option maxRecDepth 65536 in
theorem w_c0 : (Jvm.Cond.code x code maxLocals ret).before args0 about1 = true := code_word (m := ⟨1, 1⟩) (meth := k1m1) (c := k1c1) (by decide +kernel) rfl rfl rfl (by decide +kernel)
set_option maxRecDepth 65536 in
theorem w_c1 : (Jvm.Cond.code ({ cls := "com/example/tenure/tenure/LayoutPath", name := "last", desc := "([J)J" } : Jvm.MethodName) prog_26_method_8_code (1 : Nat) (Option.some Jvm.ClassFile.FieldType.long)).before args0 about1 = true := code_word (m := ⟨3, 0⟩) (meth := k3m0) (c := k3c0) (by decide +kernel) rfl rfl rfl (by decide +kernel)
def codes1 : List Jvm.Cond := [Jvm.Cond.code x code maxLocals ret, Jvm.Cond.code ({ cls := "com/example/tenure/tenure/LayoutPath", name := "last", desc := "([J)J" } : Jvm.MethodName) prog_26_method_8_code (1 : Nat) (Option.some Jvm.ClassFile.FieldType.long)]
set_option maxRecDepth 65536 in
theorem codes_eq : words1.filter isCode = codes1 := rfl
theorem w_codes : ∀ c ∈ words1.filter isCode, c.before args0 about1 = true := by
  rw [codes_eq]
  intro c hc
  simp only [codes1, List.mem_cons, List.not_mem_nil, or_false] at hc
  rcases hc with rfl | rfl
  · exact w_c0
  · exact w_c1
set_option maxRecDepth 65536 in
theorem w_t1 : words1.all (fun c => isCode c || c.before args0 about1) = true := by decide +kernel
theorem w_tables : (allAtoms (Jvm.Cond.code x code maxLocals ret :: tables_1)).before args0 about1 = true := by
  rw [allAtoms_all]
  show words1.all (fun c => c.before args0 about1) = true
  refine all_split ?_ w_codes
  rw [w_t1]
set_option maxRecDepth 65536 in
theorem w_case : (Jvm.Cond.and given_1 narrow_1).before args0 about1 = true := by decide +kernel
theorem w_applies : (headSpec (Jvm.Cond.code x code maxLocals ret :: tables_1) room_1).applies x e0.platform about1 = true :=
  (Spec.applies_iff w_frames).mpr ⟨w_running, w_runnable, w_alone, w_named, w_hears, w_ripe, w_room, w_tables⟩
theorem atStart : AtStart classFile x code maxLocals ret World_1 tables_1 room_1 Calls_1 rest_1 Pre_1 launch0 p0 e0 about1 theMethod args0 below0 :=
  ⟨lists_1, trivial, launch0.admits_env _ _ _, launch0.least_env, fairChoices_fair.cas, fairChoices_fair.clock, w_frames, w_args, w_heap, w_applies, trivial, trivial, w_case⟩
end start1
theorem witness_1 : WitnessClaimed_1 := ⟨start1.p0, start1.e0, start1.about1, start1.theMethod, start1.args0, start1.below0, start1.atStart⟩
end Jvm.Pilot.@@N@@
