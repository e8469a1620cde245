import JvmDerived
import JvmDerived.Pilot.@@N@@Statement
import JvmDerived.Pilot.@@N@@Code
set_option linter.unusedVariables false
set_option linter.unusedSimpArgs false
namespace Jvm.Pilot.@@N@@
open Jvm Jvm.ClassFile Sem Op Lib Jvm.Free Jvm.Stand Jvm.LawKit Jvm.RoadKit Bundle Jvm.Pilot.@@N@@.Jvm.D
/-! own laws: the run from a state to the return, in continuation form -/
section OwnG
variable {p : Program} {l : Launch} {e : Env} {R : Room} {s : State} {m : MethodId} {args : Array Value} {below : List Frame} {meth : Method} {c : Code} {T : State} {locs : List Loc} {cells slots : Nat} {Z : State} {a0 : Array Value} {h : Heap} {Q : Option Value → Heap → List Loc → Prop} {ck sk : Nat}
def own_G (p : Program) (e : Env) (below : List Frame) (s : State) (Q : Option Value → Heap → List Loc → Prop) (ck sk : Nat) (U : State) : Prop :=
  ∃ s₂ o, Steps p.tables e below U s₂ ∧ s₂.status = .running ∧ Ended s₂ below o ∧ ∃ v L, o = .returned v ∧ Q v s₂.heap L ∧ FrameEnd s o s₂ L ck sk
theorem own_via {U U' : State} (k : ∀ t, Steps p.tables e below U' t → Steps p.tables e below U t) (g : own_G p e below s Q ck sk U') : own_G p e below s Q ck sk U := by
  obtain ⟨s2, o, h1, r⟩ := g
  exact ⟨s2, o, k _ h1, r⟩
theorem own_mono {Q' : Option Value → Heap → List Loc → Prop} {U : State} (k : ∀ v h L, Q v h L → Q' v h L) (g : own_G p e below s Q ck sk U) : own_G p e below s Q' ck sk U := by
  obtain ⟨s2, o, h1, h2, h3, v, L, h4, h5, h6⟩ := g
  exact ⟨s2, o, h1, h2, h3, v, L, h4, k _ _ _ h5, h6⟩
theorem own_ret (X : Stand p l e R s m args below meth c T locs cells slots) {v : Option Value} (hv : meth.sig.returnType = none → v = none) (hlk : meth.locks = false) {f : JFrame}
    (st : ∀ fs, (∀ (f : JFrame) (acts : List Action), f.method = m → f.locked = none → f.entered = [] → (doReturn e (T.setTop f) acts v).1 = T.setFrames fs) → Steps p.tables e below (T.setTop f) (T.setFrames fs))
    (hQ : Q v T.heap locs) (hc : cells ≤ ck) (hs : slots ≤ sk) : own_G p e below s Q ck sk (T.setTop f) := by
  obtain ⟨fs, hr, hrun, hended, hW, hsame⟩ := X.leave (v := v) hv hlk
  exact ⟨_, _, st fs hr, hrun, hended, _, _, rfl, hQ, ⟨_, rfl⟩, hW, hsame.mono hc hs⟩
theorem own_callS (X : Stand p l e R s m args below meth c T locs cells slots) (hx : p.tables.exec = Jvm.exec) (hZ : Z.Warmed39 s.vm) {own : String} {index : Nat} {y : MethodName} {bytes : ByteArray} {maxL : Nat} {ret : Option FieldType} {rm : Room} {as' : Array Value} {W : Nat}
    (hown : s.vm.findClass own = some m.cls) (w1 : (Jvm.Cond.methodLink own index y).before a0 Z = true) (w2 : (Jvm.Cond.static y).before a0 Z = true) (w3 : (Jvm.Cond.initialized y.cls).before a0 Z = true) (w4 : (Jvm.Cond.code y bytes maxL ret).before a0 Z = true)
    (hy : y.cls ≠ "java/lang/invoke/MethodHandle" ∧ y.cls ≠ "java/lang/invoke/VarHandle")
    (hM : MetFree l y (head1 [Jvm.Cond.code y bytes maxL ret] rm) (fun a U => a = as' ∧ Z.Warmed39 U.vm ∧ U.heap = h) (fun _ _ _ _ _ => True) (fun _ U o U' => ∃ v L, o = .returned v ∧ Q v U'.heap L ∧ FrameEnd U o U' L rm.cells rm.slots))
    (hf : rm.frames + 1 ≤ R.frames) (hl : W + (maxL + 11) + rm.locals ≤ R.locals) (eT : T.heap = h)
    {g : JFrame} (hg : g.method = m) (hsize : g.locals.size = c.maxLocals) {argsL rest : List Value} (has : argsL.toArray = as') (hlen : ∀ sig, parseMethodDescriptor y.desc = some sig → argsL.length = sig.parameters.length)
    (hstack : g.stack = argsL.reverse ++ rest) (hW : 2 * g.monitorRoom + (rest.map fun v => v.category).sum ≤ W) (hdg : decode c.code g.pc = .ok (.invokestatic index, 3))
    (hcells : cells + rm.cells ≤ R.cells) (hslots : slots + rm.slots ≤ R.slots) :
    ∃ v T' L', Stand p l e R s m args below meth c T' (locs ++ L') (cells + rm.cells) (slots + rm.slots) ∧ Q v T'.heap L' ∧ ∀ t, Steps p.tables e below (T'.setTop { g with pc := g.pc + 3, stack := v.toList ++ rest }) t → Steps p.tables e below (T.setTop g) t := by
  obtain ⟨v, vm1, ⟨T', L', k', n'⟩, -, X', ⟨Lc, hQ, q1, q2, q3⟩, st⟩ := Jvm.LawKit.callS X hx hown (mvT hZ w1) (mvT hZ w2) (mvT hZ w3) (mvT hZ w4) hy (backOf (W := W) hM hZ w4 w3 hf hl) hg hsize hlen hstack hW hdg (fun _ _ => ⟨has, eT, hcells, hslots⟩)
  dsimp only [Pt.U, Pt.locs, Pt.cells, Pt.slots] at X' q1 q2 q3 st hQ
  subst q1 q2 q3
  exact ⟨v, T', Lc, X', hQ, st⟩
theorem own_callI (X : Stand p l e R s m args below meth c T locs cells slots) (hx : p.tables.exec = Jvm.exec) (hZ : Z.Warmed39 s.vm) {own : String} {index : Nat} {y : MethodName} (hy1 : y.name = "<init>") {bytes : ByteArray} {maxL : Nat} {rm : Room} {as' : Array Value} {W : Nat}
    (hown : s.vm.findClass own = some m.cls) (w1 : (Jvm.Cond.methodLink own index y).before a0 Z = true) (w2 : (Jvm.Cond.instanceMethod y).before a0 Z = true) (w3 : (Jvm.Cond.initialized y.cls).before a0 Z = true) (w4 : (Jvm.Cond.code y bytes maxL none).before a0 Z = true)
    (hy : y.cls ≠ "java/lang/invoke/MethodHandle" ∧ y.cls ≠ "java/lang/invoke/VarHandle")
    (hM : MetFree l y (head1 [Jvm.Cond.code y bytes maxL none] rm) (fun a U => a = as' ∧ Z.Warmed39 U.vm ∧ U.heap = h) (fun _ _ _ _ _ => True) (fun _ U o U' => ∃ v L, o = .returned v ∧ Q v U'.heap L ∧ FrameEnd U o U' L rm.cells rm.slots))
    (hf : rm.frames + 1 ≤ R.frames) (hl : W + (maxL + 11) + rm.locals ≤ R.locals) (eT : T.heap = h)
    {g : JFrame} (hg : g.method = m) (hsize : g.locals.size = c.maxLocals) {a : Addr} {argsL rest : List Value} (has : (.ref a :: argsL).toArray = as') (hlen : ∀ sig, parseMethodDescriptor y.desc = some sig → argsL.length = sig.parameters.length)
    (hstack : g.stack = argsL.reverse ++ .ref a :: rest) (hW : 2 * g.monitorRoom + (rest.map fun v => v.category).sum ≤ W) (hdg : decode c.code g.pc = .ok (.invokespecial index, 3))
    (hcells : cells + rm.cells ≤ R.cells) (hslots : slots + rm.slots ≤ R.slots) :
    ∃ v T' L', Stand p l e R s m args below meth c T' (locs ++ L') (cells + rm.cells) (slots + rm.slots) ∧ Q v T'.heap L' ∧ ∀ t, Steps p.tables e below (T'.setTop { g with pc := g.pc + 3, stack := v.toList ++ rest }) t → Steps p.tables e below (T.setTop g) t := by
  obtain ⟨v, vm1, ⟨T', L', k', n'⟩, -, X', ⟨Lc, hQ, q1, q2, q3⟩, st⟩ := X.specialBack hx hy1 hown (mvT hZ w1) (mvT hZ w2) (mvT hZ w4) hy (backOf (W := W) hM hZ w4 w3 hf hl) hg hsize (Steps.refl _) hlen hstack hW hdg (fun _ _ => ⟨has, eT, hcells, hslots⟩)
  dsimp only [Pt.U, Pt.locs, Pt.cells, Pt.slots] at X' q1 q2 q3 st hQ
  subst q1 q2 q3
  exact ⟨v, T', Lc, X', hQ, fun t k => st.trans k⟩
theorem own_callV (X : Stand p l e R s m args below meth c T locs cells slots) (hx : p.tables.exec = Jvm.exec) (hZ : Z.Warmed39 s.vm) {own : String} {index : Nat} {y : MethodName} {bytes : ByteArray} {maxL : Nat} {ret : Option FieldType} {rm : Room} {as' : Array Value} {W : Nat} {C : String}
    (hown : s.vm.findClass own = some m.cls) (w1 : (Jvm.Cond.methodLink own index y).before a0 Z = true) (w2 : (Jvm.Cond.declares y).before a0 Z = true) (w5 : (Jvm.Cond.selects C y y).before a0 Z = true) (w6 : (Jvm.Cond.instanceMethod y).before a0 Z = true) (w3 : (Jvm.Cond.initialized y.cls).before a0 Z = true) (w4 : (Jvm.Cond.code y bytes maxL ret).before a0 Z = true)
    (hy : y.cls ≠ "java/lang/invoke/MethodHandle" ∧ y.cls ≠ "java/lang/invoke/VarHandle")
    (hM : MetFree l y (head1 [Jvm.Cond.code y bytes maxL ret] rm) (fun a U => a = as' ∧ Z.Warmed39 U.vm ∧ U.heap = h) (fun _ _ _ _ _ => True) (fun _ U o U' => ∃ v L, o = .returned v ∧ Q v U'.heap L ∧ FrameEnd U o U' L rm.cells rm.slots))
    (hf : rm.frames + 1 ≤ R.frames) (hl : W + (maxL + 11) + rm.locals ≤ R.locals) (eT : T.heap = h) {b : Addr} (E : Exa Z h b C)
    {g : JFrame} (hg : g.method = m) (hsize : g.locals.size = c.maxLocals) {argsL rest : List Value} (has : (.ref b :: argsL).toArray = as') (hlen : ∀ sig, parseMethodDescriptor y.desc = some sig → argsL.length = sig.parameters.length)
    (hstack : g.stack = argsL.reverse ++ .ref b :: rest) (hW : 2 * g.monitorRoom + (rest.map fun v => v.category).sum ≤ W) (hdg : decode c.code g.pc = .ok (.invokevirtual index, 3))
    (hcells : cells + rm.cells ≤ R.cells) (hslots : slots + rm.slots ≤ R.slots) :
    ∃ v T' L', Stand p l e R s m args below meth c T' (locs ++ L') (cells + rm.cells) (slots + rm.slots) ∧ Q v T'.heap L' ∧ ∀ t, Steps p.tables e below (T'.setTop { g with pc := g.pc + 3, stack := v.toList ++ rest }) t → Steps p.tables e below (T.setTop g) t := by
  obtain ⟨cq, kq, qa, qb, qc⟩ := isOf hZ eT E
  obtain ⟨v, vm1, ⟨T', L', k', n'⟩, -, X', ⟨Lc, hQ, q1, q2, q3⟩, st⟩ := X.virtualBack hx hown (mvT hZ w1) (mvT hZ w2) (notFace_of_selects (args := #[]) (mvT hZ w5)) (mvT hZ w5) (mvT hZ w6) hy (backOf (W := W) hM hZ w4 w3 hf hl) qa qc hg hsize (Steps.refl _) hlen hstack hW hdg (fun _ _ => ⟨has, eT, hcells, hslots⟩)
  dsimp only [Pt.U, Pt.locs, Pt.cells, Pt.slots] at X' q1 q2 q3 st hQ
  subst q1 q2 q3
  exact ⟨v, T', Lc, X', hQ, fun t k => st.trans k⟩
end OwnG
theorem own_jlt {x y : Int64} (h : x < y) : ifCond.holds .lt (lcmpW x y) = true ∧ ifCond.holds .ge (lcmpW x y) = false := by
  have q := (lw_lt x y).mpr h
  exact ⟨(if0 _ _).trans (tlt q).1, (if0 _ _).trans (tlt q).2.1⟩
theorem own_jnlt {x y : Int64} (h : ¬ x < y) : ifCond.holds .lt (lcmpW x y) = false ∧ ifCond.holds .ge (lcmpW x y) = true := by
  have q := fun z => h ((lw_lt x y).mp z)
  exact ⟨(if0 _ _).trans (flt q).1, (if0 _ _).trans (flt q).2.1⟩
theorem own_jgt {x y : Int64} (h : y < x) : ifCond.holds .gt (lcmpW x y) = true ∧ ifCond.holds .le (lcmpW x y) = false := by
  have q := (lw_gt x y).mpr h
  exact ⟨(if0 _ _).trans (tlt q).2.2.1, (if0 _ _).trans (tlt q).2.2.2⟩
theorem own_jngt {x y : Int64} (h : ¬ y < x) : ifCond.holds .gt (lcmpW x y) = false ∧ ifCond.holds .le (lcmpW x y) = true := by
  have q := fun z => h ((lw_gt x y).mp z)
  exact ⟨(if0 _ _).trans (flt q).2.2.1, (if0 _ _).trans (flt q).2.2.2⟩
theorem own_jeq {x y : Int64} (h : x = y) : ifCond.holds .eq (lcmpW x y) = true ∧ ifCond.holds .ne (lcmpW x y) = false := by
  have q := (lw_eq x y).mpr h
  exact ⟨(if0 _ _).trans (teq q).1, (if0 _ _).trans (teq q).2⟩
theorem own_jne {x y : Int64} (h : ¬ x = y) : ifCond.holds .eq (lcmpW x y) = false ∧ ifCond.holds .ne (lcmpW x y) = true := by
  have q := fun z => h ((lw_eq x y).mp z)
  exact ⟨(if0 _ _).trans (feq q).1, (if0 _ _).trans (feq q).2⟩
theorem own_sta_keep {Z : State} {h h' : Heap} {C n d : String} {v : Value} {ws : List Addr} (F : Sta Z h C n d v) (K : Keep h h' ws) (q : ∀ x ∈ ws, ∃ cell : Cell, h[x]? = some cell ∧ cell.vm.isStatics = false) : Sta Z h' C n d v := by
  obtain ⟨cf, i, k, f, st, cell, h1, h2, h3, h4, h5, h6, h7⟩ := F
  refine ⟨cf, i, k, f, st, cell, h1, h2, h3, h4, K.2.1 st cell h5 (fun hm => ?_), h6, h7⟩
  obtain ⟨c', e1, e2⟩ := q st hm
  cases h5.symm.trans e1
  rw [e2] at h6; cases h6
theorem own_exa_ns {Z : State} {h : Heap} {a : Addr} {C : String} (E : Exa Z h a C) : ∃ cell : Cell, h[a]? = some cell ∧ cell.vm.isStatics = false := by
  obtain ⟨cell, k, h1, -, -, h4, -⟩ := E
  exact ⟨cell, h1, h4⟩
theorem own_arv_ns {Z : State} {h : Heap} {a : Addr} {k : ClassId} {ty : FieldType} {z : Int32} {vs : List Value} {dv : Value} (F : Arv Z h a k ty z vs dv) : ∃ cell : Cell, h[a]? = some cell ∧ cell.vm.isStatics = false := by
  obtain ⟨c, A, -⟩ := F
  exact ⟨c, A.1, A.plain⟩
theorem own_seg {tb : Tables} {e : Env} {below : List Frame} {U U' t : State} (a : Steps tb e below U' t → Steps tb e below U t) (b : Steps tb e below U' t) : Steps tb e below U t := a b
theorem own_NSroot {Z : State} {a0 : Array Value} {O K : String} {n : Nat} (w : (Jvm.Cond.noSuperclass O).before a0 Z = true) (wk : (Jvm.Cond.instantiable K n).before a0 Z = true) (hn : O ≠ K) : NS Z O K := by
  obtain ⟨c, k, h1, h2, h3, -, -⟩ := Cond.noSuperclass_spec w
  obtain ⟨t, kt, g1, -⟩ := Cond.instantiable_spec wk
  refine ⟨c, t, h1, g1, fun fuel => ?_⟩
  have ne := ids_ne h1 g1 hn
  cases fuel <;> simp [Vm.isSubclassAux, ne, h2, h3]
theorem own_NSno {Z : State} {a0 : Array Value} {C S K : String} {n : Nat} (w : (Jvm.Cond.superclass C S).before a0 Z = true) (wk : (Jvm.Cond.instantiable K n).before a0 Z = true) (nn : NS Z C K) (hn : C ≠ K) : ∃ c t, Z.vm.findClass C = some c ∧ Z.vm.findClass K = some t ∧ Z.vm.assignable c t = false := by
  obtain ⟨c, t, h0, g0, n3⟩ := nn
  obtain ⟨p, k, kp, h1, h2, h3, h4, h5, -, h7⟩ := Cond.superclass_spec h0 w
  obtain ⟨t', kt, g1, g2, g3, g4, -⟩ := Cond.instantiable_spec wk
  cases g0.symm.trans g1
  have g7 : kt.isInterface = false := by cases q : kt.isInterface <;> simp [q] at g4 ⊢
  have ne := ids_ne h0 g0 hn
  refine ⟨c, t, h0, g0, ?_⟩
  show Z.vm.assignableAux (255 + 1) c t = false
  simp [Vm.assignableAux, ne, h2, g2, h5, g3, g7, Vm.isSubclass, n3]
theorem own_ii (x : Int64) : ¬ (x &&& (9223372036854775807 : Int64)) < (0 : Int64) := by
  have h := c_maskL x 9223372036854775807 63 (by decide) (by decide)
  have e0 : (0 : Int64).toInt = 0 := by decide
  rw [Int64.lt_iff_toInt_lt, e0]; omega
theorem own_m1 {x : Int64} (h : ¬ x < (0 : Int64)) : ¬ x = (-1 : Int64) := fun q => h (by rw [q]; decide)
def Qpi (Z : State) (o : Addr) (x1 : Int64) (h0 : Heap) (n0 : Nat) (v : Option Value) (h : Heap) (L : List Loc) : Prop := v = none ∧ Fr n0 L ∧ Keep h0 h [o] ∧ Exa Z h o "com/example/tenure/tenure/PathStep" ∧ Fld Z h o "com/example/tenure/tenure/PathStep" "name" "Ljava/lang/String;" .null ∧ Fld Z h o "com/example/tenure/tenure/PathStep" "index" "J" (.long x1)
theorem d_prog_47_method_1_0 : decode prog_47_method_1_code 0 = .ok (.aload_n 0, 1) := by decide +kernel
theorem d_prog_47_method_1_1 : decode prog_47_method_1_code 1 = .ok (.invokespecial 1, 3) := by decide +kernel
theorem d_prog_47_method_1_4 : decode prog_47_method_1_code 4 = .ok (.aload_n 0, 1) := by decide +kernel
theorem d_prog_47_method_1_5 : decode prog_47_method_1_code 5 = .ok (.aload_n 1, 1) := by decide +kernel
theorem d_prog_47_method_1_6 : decode prog_47_method_1_code 6 = .ok (.putfield 7, 3) := by decide +kernel
theorem d_prog_47_method_1_9 : decode prog_47_method_1_code 9 = .ok (.aload_n 0, 1) := by decide +kernel
theorem d_prog_47_method_1_10 : decode prog_47_method_1_code 10 = .ok (.lload_n 2, 1) := by decide +kernel
theorem d_prog_47_method_1_11 : decode prog_47_method_1_code 11 = .ok (.putfield 13, 3) := by decide +kernel
theorem d_prog_47_method_1_14 : decode prog_47_method_1_code 14 = .ok (.return_, 1) := by decide +kernel
theorem ef_rm_Qpi (m : MethodId) (x0 : Addr) (x2 : Int64) : entryFrame m #[(.ref x0), .null, (.long x2)] 4 = mkF m 0 #[.val (.ref x0), .val .null, .val (.long x2), .second] [] := by first | (simp [entryFrame, mkF, argsToLocals, Value.category]; done) | rfl
theorem pn_com_example_tenure_tenure_PathStep : plainName "com/example/tenure/tenure/PathStep" = true := by first | (simp [plainName, overriddenIn]; done) | decide +kernel
set_option maxRecDepth 65536 in
set_option maxHeartbeats 40000000 in
theorem rm_Qpi (l : Launch) (Z : State) (a0 : Array Value) (hw : ∀ d ∈ tables_1, d.before a0 Z = true) (ws : List Jvm.Cond) (o : Addr) (x1 : Int64) (h0 : Heap) (n0 : Nat) (Z0 : n0 ≤ h0.size) (Eo : Exa Z h0 o "com/example/tenure/tenure/PathStep") (F_name : Fld Z h0 o "com/example/tenure/tenure/PathStep" "name" "Ljava/lang/String;" .null) (F_index : Fld Z h0 o "com/example/tenure/tenure/PathStep" "index" "J" (.long (0 : Int64))) (gn_o : n0 ≤ o) :
    MetFree l (⟨"com/example/tenure/tenure/PathStep", "<init>", "(Ljava/lang/String;J)V"⟩ : MethodName) (head1 (Jvm.Cond.code (⟨"com/example/tenure/tenure/PathStep", "<init>", "(Ljava/lang/String;J)V"⟩ : MethodName) prog_47_method_1_code 4 none :: ws) ({ frames := 1, cells := 0, slots := 0, locals := 12 } : Room)) (fun aa_ UU_ => aa_ = #[(.ref o), .null, (.long x1)] ∧ Z.Warmed39 UU_.vm ∧ UU_.heap = h0) (fun _ _ _ _ _ => True) (fun _ UU_ oo_ VV_ => ∃ vv_ LL_, oo_ = .returned vv_ ∧ Qpi Z o x1 h0 n0 vv_ VV_.heap LL_ ∧ FrameEnd UU_ oo_ VV_ LL_ ({ frames := 1, cells := 0, slots := 0, locals := 12 } : Room).cells ({ frames := 1, cells := 0, slots := 0, locals := 12 } : Room).slots) := by
  refine MetFree.of_bodySF (plainFor_of_name pn_com_example_tenure_tenure_PathStep) hisR ?_
  intro p e s m args below meth c s₁ Bd hml0 hP hK
  obtain ⟨rfl, hZ, hh⟩ := hP
  have hx := Bd.exec
  have hby := Bd.bytes
  have hml : c.maxLocals = 4 := hml0
  have hown : s.vm.findClass "com/example/tenure/tenure/PathStep" = some m.cls := findClass_of_methodNamed Bd.named
  have hnm := (name_of_methodNamed Bd.named Bd.method).1
  have hlk : meth.locks = false := Bd.notSynchronized
  have X0 : Stand p l e ({ frames := 1, cells := 0, slots := 0, locals := 12 } : Room) s m #[(.ref o), .null, (.long x1)] below meth c s₁ [] 0 0 := Stand.of_body Bd
  have e0 : s₁.heap = h0 := by rw [← hh, Bd.state]; rfl
  have N0 := Fr.nil n0
  have K0 := Keep.refl h0 [o]
  show own_G p e below s (Qpi Z o x1 h0 n0) _ _ (s₁.setTop (entryFrame m #[(.ref o), .null, (.long x1)] 4))
  rw [ef_rm_Qpi m o x1]
  refine own_via (U' := s₁.setTop (mkF m 1 #[.val (.ref o), .val .null, .val (.long x1), .second] [(.ref o)])) (fun t k => XS.aloadN X0.here hx rfl (hb hby d_prog_47_method_1_0) rfl rfl k) ?_
  obtain ⟨T1, X1, e1, st1⟩ := initO X0 hx hZ hown (hw _ (List.mem_of_getElem? (i := 10) rfl)) (hw _ (List.mem_of_getElem? (i := 11) rfl)) (hw _ (List.mem_of_getElem? (i := 12) rfl)) e0 (g := (mkF m 1 #[.val (.ref o), .val .null, .val (.long x1), .second] [(.ref o)])) rfl (by rw [hml]; rfl) rfl (hb hby d_prog_47_method_1_1) (by decide) (W := 0) (by show 2 * 0 + _ ≤ _; exact Nat.le_of_eq rfl) (by decide)
  refine own_via (U' := T1.setTop (mkF m 4 #[.val (.ref o), .val .null, .val (.long x1), .second] [])) (fun t k => st1 t k) ?_
  refine own_via (U' := T1.setTop (mkF m 5 #[.val (.ref o), .val .null, .val (.long x1), .second] [(.ref o)])) (fun t k => XS.aloadN X1.here hx rfl (hb hby d_prog_47_method_1_4) rfl rfl k) ?_
  refine own_via (U' := T1.setTop (mkF m 6 #[.val (.ref o), .val .null, .val (.long x1), .second] [.null, (.ref o)])) (fun t k => XS.aloadN X1.here hx rfl (hb hby d_prog_47_method_1_5) rfl rfl k) ?_
  obtain ⟨T2, h2, X2, e2, W2, st2⟩ := putF (host := "") X1 hx hZ hown (Or.inl (hw _ (List.mem_of_getElem? (i := 13) rfl))) Via.refl e1 F_name Eo (Or.inr ⟨(hw _ (List.mem_of_getElem? (i := 14) rfl)), rfl, hnm⟩) (hw _ (List.mem_of_getElem? (i := 6) rfl)) (ty := (.object "java/lang/String")) (by decide) rfl rfl (g := (mkF m 6 #[.val (.ref o), .val .null, .val (.long x1), .second] [.null, (.ref o)])) rfl rfl (hb hby d_prog_47_method_1_6)
  have f2w := F_name.same W2
  have f3 := Eo.wr W2
  have f4 := F_index.other W2 (Or.inr (slot_ne (Or.inr (hw _ (List.mem_of_getElem? (i := 16) rfl))) (Or.inr (hw _ (List.mem_of_getElem? (i := 14) rfl))) (by decide) (t := .long) (t' := (.object "java/lang/String")) (by decide) (by decide)))
  have Z5 : n0 ≤ h2.size := Nat.le_trans Z0 (Keep.of_wr W2).1
  have K5 := K0.wr W2 (Or.inl (List.mem_of_getElem? (i := 0) rfl))
  have N2 := Fr.snoc X2 N0 gn_o
  refine own_via (U' := T2.setTop (mkF m 9 #[.val (.ref o), .val .null, .val (.long x1), .second] [])) (fun t k => st2 t k) ?_
  refine own_via (U' := T2.setTop (mkF m 10 #[.val (.ref o), .val .null, .val (.long x1), .second] [(.ref o)])) (fun t k => XS.aloadN X2.here hx rfl (hb hby d_prog_47_method_1_9) rfl rfl k) ?_
  refine own_via (U' := T2.setTop (mkF m 11 #[.val (.ref o), .val .null, .val (.long x1), .second] [(.long x1), (.ref o)])) (fun t k => XS.lloadN X2.here hx rfl (hb hby d_prog_47_method_1_10) rfl k) ?_
  obtain ⟨T6, h6, X6, e6, W6, st6⟩ := putF (host := "") X2 hx hZ hown (Or.inl (hw _ (List.mem_of_getElem? (i := 15) rfl))) Via.refl e2 f4 f3 (Or.inr ⟨(hw _ (List.mem_of_getElem? (i := 16) rfl)), rfl, hnm⟩) (hw _ (List.mem_of_getElem? (i := 6) rfl)) (ty := .long) (by decide) rfl rfl (g := (mkF m 11 #[.val (.ref o), .val .null, .val (.long x1), .second] [(.long x1), (.ref o)])) rfl rfl (hb hby d_prog_47_method_1_11)
  have f6w := f4.same W6
  have f7 := f3.wr W6
  have f8 := f2w.other W6 (Or.inr (slot_ne (Or.inr (hw _ (List.mem_of_getElem? (i := 14) rfl))) (Or.inr (hw _ (List.mem_of_getElem? (i := 16) rfl))) (by decide) (t := (.object "java/lang/String")) (t' := .long) (by decide) (by decide)))
  have Z9 : n0 ≤ h6.size := Nat.le_trans Z5 (Keep.of_wr W6).1
  have K9 := K5.wr W6 (Or.inl (List.mem_of_getElem? (i := 0) rfl))
  have N6 := Fr.snoc X6 N2 gn_o
  refine own_via (U' := T6.setTop (mkF m 14 #[.val (.ref o), .val .null, .val (.long x1), .second] [])) (fun t k => st6 t k) ?_
  exact own_ret X6 (v := none) (fun _ => rfl) hlk (fun fs hr => X6.returnOut hx Bd.returns (hb hby d_prog_47_method_1_14) hr) (by rw [e6]; exact ⟨rfl, N6, K9, f7, f8, f6w⟩) (by decide) (by decide)
def Qel (Z : State) (x1 : Int64) (h0 : Heap) (n0 : Nat) (v : Option Value) (h : Heap) (L : List Loc) : Prop := ∃ b : Addr, v = some (.ref b) ∧ Fr n0 L ∧ Keep h0 h [] ∧ n0 ≤ b ∧ h0.size ≤ b ∧ Exa Z h b "com/example/tenure/tenure/PathStep" ∧ Fld Z h b "com/example/tenure/tenure/PathStep" "name" "Ljava/lang/String;" .null ∧ Fld Z h b "com/example/tenure/tenure/PathStep" "index" "J" (.long x1)
theorem d_prog_47_method_2_0 : decode prog_47_method_2_code 0 = .ok (.lload_n 0, 1) := by decide +kernel
theorem d_prog_47_method_2_1 : decode prog_47_method_2_code 1 = .ok (.lconst 0, 1) := by decide +kernel
theorem d_prog_47_method_2_2 : decode prog_47_method_2_code 2 = .ok (.lcmp, 1) := by decide +kernel
theorem d_prog_47_method_2_3 : decode prog_47_method_2_code 3 = .ok (.ifCond .ge 17, 3) := by decide +kernel
theorem d_prog_47_method_2_20 : decode prog_47_method_2_code 20 = .ok (.new 8, 3) := by decide +kernel
theorem d_prog_47_method_2_23 : decode prog_47_method_2_code 23 = .ok (.dup, 1) := by decide +kernel
theorem d_prog_47_method_2_24 : decode prog_47_method_2_code 24 = .ok (.aconst_null, 1) := by decide +kernel
theorem d_prog_47_method_2_25 : decode prog_47_method_2_code 25 = .ok (.lload_n 0, 1) := by decide +kernel
theorem pd_Ljava_lang_String_J__V : parseMethodDescriptor "(Ljava/lang/String;J)V" = some ⟨[(.object "java/lang/String"), .long], none⟩ := by decide +kernel
theorem d_prog_47_method_2_26 : decode prog_47_method_2_code 26 = .ok (.invokespecial 26, 3) := by decide +kernel
theorem d_prog_47_method_2_29 : decode prog_47_method_2_code 29 = .ok (.areturn, 1) := by decide +kernel
theorem ef_rm_Qel (m : MethodId) (x0 : Int64) : entryFrame m #[(.long x0)] 2 = mkF m 0 #[.val (.long x0), .second] [] := by first | (simp [entryFrame, mkF, argsToLocals, Value.category]; done) | rfl
set_option maxRecDepth 65536 in
set_option maxHeartbeats 40000000 in
theorem rm_Qel (l : Launch) (Z : State) (a0 : Array Value) (hw : ∀ d ∈ tables_1, d.before a0 Z = true) (ws : List Jvm.Cond) (x1 : Int64) (h0 : Heap) (n0 : Nat) (Z0 : n0 ≤ h0.size) (hx1 : ¬ x1 < (0 : Int64)) :
    MetFree l (⟨"com/example/tenure/tenure/PathStep", "element", "(J)Lcom/example/tenure/tenure/PathStep;"⟩ : MethodName) (head1 (Jvm.Cond.code (⟨"com/example/tenure/tenure/PathStep", "element", "(J)Lcom/example/tenure/tenure/PathStep;"⟩ : MethodName) prog_47_method_2_code 2 (some (.object "com/example/tenure/tenure/PathStep")) :: ws) ({ frames := 2, cells := 1, slots := 2, locals := 28 } : Room)) (fun aa_ UU_ => aa_ = #[(.long x1)] ∧ Z.Warmed39 UU_.vm ∧ UU_.heap = h0) (fun _ _ _ _ _ => True) (fun _ UU_ oo_ VV_ => ∃ vv_ LL_, oo_ = .returned vv_ ∧ Qel Z x1 h0 n0 vv_ VV_.heap LL_ ∧ FrameEnd UU_ oo_ VV_ LL_ ({ frames := 2, cells := 1, slots := 2, locals := 28 } : Room).cells ({ frames := 2, cells := 1, slots := 2, locals := 28 } : Room).slots) := by
  refine MetFree.of_bodySF (plainFor_of_name pn_com_example_tenure_tenure_PathStep) hisR ?_
  intro p e s m args below meth c s₁ Bd hml0 hP hK
  obtain ⟨rfl, hZ, hh⟩ := hP
  have hx := Bd.exec
  have hby := Bd.bytes
  have hml : c.maxLocals = 2 := hml0
  have hown : s.vm.findClass "com/example/tenure/tenure/PathStep" = some m.cls := findClass_of_methodNamed Bd.named
  have hnm := (name_of_methodNamed Bd.named Bd.method).1
  have hlk : meth.locks = false := Bd.notSynchronized
  have X0 : Stand p l e ({ frames := 2, cells := 1, slots := 2, locals := 28 } : Room) s m #[(.long x1)] below meth c s₁ [] 0 0 := Stand.of_body Bd
  have e0 : s₁.heap = h0 := by rw [← hh, Bd.state]; rfl
  have N0 := Fr.nil n0
  have K0 := Keep.refl h0 []
  show own_G p e below s (Qel Z x1 h0 n0) _ _ (s₁.setTop (entryFrame m #[(.long x1)] 2))
  rw [ef_rm_Qel m x1]
  refine own_via (U' := s₁.setTop (mkF m 1 #[.val (.long x1), .second] [(.long x1)])) (fun t k => XS.lloadN X0.here hx rfl (hb hby d_prog_47_method_2_0) rfl k) ?_
  refine own_via (U' := s₁.setTop (mkF m 2 #[.val (.long x1), .second] [(.long (0 : Int64)), (.long x1)])) (fun t k => XS.lconst X0.here hx rfl (hb hby d_prog_47_method_2_1) k) ?_
  refine own_via (U' := s₁.setTop (mkF m 3 #[.val (.long x1), .second] [(.int (lcmpW x1 (0 : Int64)))])) (fun t k => XS.lcmp X0.here hx rfl (hb hby d_prog_47_method_2_2) rfl k) ?_
  refine own_via (U' := s₁.setTop (mkF m 20 #[.val (.long x1), .second] [])) (fun t k => XS.ifYes X0.here hx rfl (pc0 := 3) (pc' := 20) rfl (hb hby d_prog_47_method_2_3) rfl (own_jnlt hx1).2 (by decide) (by decide) k) ?_
  obtain ⟨T1, h1, X1, e1, E1, A1, D1, -, st1⟩ := newO X0 hx hZ hown (hw _ (List.mem_of_getElem? (i := 5) rfl)) (hw _ (List.mem_of_getElem? (i := 6) rfl)) (hw _ (List.mem_of_getElem? (i := 3) rfl)) e0 (g := (mkF m 20 #[.val (.long x1), .second] [])) rfl (hb hby d_prog_47_method_2_20) (by decide) (by decide)
  obtain ⟨b1, g1⟩ : ∃ z, z = h0.size := ⟨_, rfl⟩
  rw [← g1] at A1 D1 st1
  have gn_b1 : n0 ≤ b1 := Nat.le_trans Z0 (Nat.le_of_eq g1.symm)
  have sz_b1 : h0.size ≤ b1 := Nat.le_trans K0.1 (Nat.le_of_eq g1.symm)
  have f2 : Fld Z h1 b1 "com/example/tenure/tenure/PathStep" "name" "Ljava/lang/String;" .null := D1 (Or.inr (hw _ (List.mem_of_getElem? (i := 14) rfl))) (ty := (.object "java/lang/String")) (by decide)
  have f3 : Fld Z h1 b1 "com/example/tenure/tenure/PathStep" "index" "J" (.long (0 : Int64)) := D1 (Or.inr (hw _ (List.mem_of_getElem? (i := 16) rfl))) (ty := .long) (by decide)
  have Z4 : n0 ≤ h1.size := Nat.le_trans Z0 E1.1
  have K4 := K0.ext E1
  refine own_via (U' := T1.setTop (mkF m 23 #[.val (.long x1), .second] [(.ref b1)])) (fun t k => st1 t k) ?_
  refine own_via (U' := T1.setTop (mkF m 24 #[.val (.long x1), .second] [(.ref b1), (.ref b1)])) (fun t k => XS.dup X1.here hx rfl (hb hby d_prog_47_method_2_23) rfl rfl k) ?_
  refine own_via (U' := T1.setTop (mkF m 25 #[.val (.long x1), .second] [.null, (.ref b1), (.ref b1)])) (fun t k => XS.aconstNull X1.here hx rfl (hb hby d_prog_47_method_2_24) k) ?_
  refine own_via (U' := T1.setTop (mkF m 26 #[.val (.long x1), .second] [(.long x1), .null, (.ref b1), (.ref b1)])) (fun t k => XS.lloadN X1.here hx rfl (hb hby d_prog_47_method_2_25) rfl k) ?_
  obtain ⟨_, T5, L5, X5, hQ5, st5⟩ := own_callI X1 hx hZ (y := (⟨"com/example/tenure/tenure/PathStep", "<init>", "(Ljava/lang/String;J)V"⟩ : MethodName)) rfl (W := 1) hown (hw _ (List.mem_of_getElem? (i := 7) rfl)) (hw _ (List.mem_of_getElem? (i := 8) rfl)) (hw _ (List.mem_of_getElem? (i := 3) rfl)) (hw _ (List.mem_of_getElem? (i := 9) rfl)) (by decide) (rm_Qpi l Z a0 hw [] b1 x1 h1 n0 Z4 A1 f2 f3 gn_b1) (by decide) (by decide) e1 (a := b1) (g := (mkF m 26 #[.val (.long x1), .second] [(.long x1), .null, (.ref b1), (.ref b1)])) rfl (by rw [hml]; rfl) (argsL := [.null, (.long x1)]) (rest := [(.ref b1)]) rfl (lenOf pd_Ljava_lang_String_J__V rfl) rfl (by show 2 * 0 + _ ≤ _; exact Nat.le_of_eq rfl) (hb hby d_prog_47_method_2_26) (by decide) (by decide)
  obtain ⟨rfl, N5q, K5q, E5q, F5q0, F5q1⟩ := hQ5
  have N5 := Fr.app N0 N5q
  have f6 := A1.keep K5q
  have Z7 : n0 ≤ T5.heap.size := Nat.le_trans Z4 K5q.1
  have K7 := K4.trans K5q (allS (Or.inr sz_b1) all0)
  refine own_via (U' := T5.setTop (mkF m 29 #[.val (.long x1), .second] [(.ref b1)])) (fun t k => st5 t k) ?_
  exact own_ret X5 (v := some (.ref b1)) (fun h => by rw [Bd.returns] at h; cases h) hlk (fun fs hr => retOut X5 hx (t := (.object "com/example/tenure/tenure/PathStep")) Bd.returns rfl (Or.inr (Or.inr (Or.inr (Or.inr ⟨rfl, rfl, rfl⟩)))) (hb hby d_prog_47_method_2_29) hr) (by exact ⟨b1, rfl, N5, K7, gn_b1, sz_b1, E5q, F5q0, F5q1⟩) (by decide) (by decide)
def Qim (Z : State) (o : Addr) (x1 : Int64) (h0 : Heap) (n0 : Nat) (v : Option Value) (h : Heap) (L : List Loc) : Prop := v = some (.int (0 : Int32)) ∧ Fr n0 L ∧ h = h0
theorem d_prog_47_method_5_0 : decode prog_47_method_5_code 0 = .ok (.aload_n 0, 1) := by decide +kernel
theorem d_prog_47_method_5_1 : decode prog_47_method_5_code 1 = .ok (.getfield 7, 3) := by decide +kernel
theorem d_prog_47_method_5_4 : decode prog_47_method_5_code 4 = .ok (.ifnull 7, 3) := by decide +kernel
theorem d_prog_47_method_5_11 : decode prog_47_method_5_code 11 = .ok (.iconst 0, 1) := by decide +kernel
theorem d_prog_47_method_5_12 : decode prog_47_method_5_code 12 = .ok (.ireturn, 1) := by decide +kernel
theorem ef_rm_Qim (m : MethodId) (x0 : Addr) : entryFrame m #[(.ref x0)] 1 = mkF m 0 #[.val (.ref x0)] [] := by first | (simp [entryFrame, mkF, argsToLocals, Value.category]; done) | rfl
set_option maxRecDepth 65536 in
set_option maxHeartbeats 40000000 in
theorem rm_Qim (l : Launch) (Z : State) (a0 : Array Value) (hw : ∀ d ∈ tables_1, d.before a0 Z = true) (ws : List Jvm.Cond) (o : Addr) (x1 : Int64) (h0 : Heap) (n0 : Nat) (Z0 : n0 ≤ h0.size) (Fn : Fld Z h0 o "com/example/tenure/tenure/PathStep" "name" "Ljava/lang/String;" .null) (Fi : Fld Z h0 o "com/example/tenure/tenure/PathStep" "index" "J" (.long x1)) :
    MetFree l (⟨"com/example/tenure/tenure/PathStep", "isMember", "()Z"⟩ : MethodName) (head1 (Jvm.Cond.code (⟨"com/example/tenure/tenure/PathStep", "isMember", "()Z"⟩ : MethodName) prog_47_method_5_code 1 (some .boolean) :: ws) ({ frames := 0, cells := 0, slots := 0, locals := 0 } : Room)) (fun aa_ UU_ => aa_ = #[(.ref o)] ∧ Z.Warmed39 UU_.vm ∧ UU_.heap = h0) (fun _ _ _ _ _ => True) (fun _ UU_ oo_ VV_ => ∃ vv_ LL_, oo_ = .returned vv_ ∧ Qim Z o x1 h0 n0 vv_ VV_.heap LL_ ∧ FrameEnd UU_ oo_ VV_ LL_ ({ frames := 0, cells := 0, slots := 0, locals := 0 } : Room).cells ({ frames := 0, cells := 0, slots := 0, locals := 0 } : Room).slots) := by
  refine MetFree.of_bodySF (plainFor_of_name pn_com_example_tenure_tenure_PathStep) hisR ?_
  intro p e s m args below meth c s₁ Bd hml0 hP hK
  obtain ⟨rfl, hZ, hh⟩ := hP
  have hx := Bd.exec
  have hby := Bd.bytes
  have hml : c.maxLocals = 1 := hml0
  have hown : s.vm.findClass "com/example/tenure/tenure/PathStep" = some m.cls := findClass_of_methodNamed Bd.named
  have hnm := (name_of_methodNamed Bd.named Bd.method).1
  have hlk : meth.locks = false := Bd.notSynchronized
  have X0 : Stand p l e ({ frames := 0, cells := 0, slots := 0, locals := 0 } : Room) s m #[(.ref o)] below meth c s₁ [] 0 0 := Stand.of_body Bd
  have e0 : s₁.heap = h0 := by rw [← hh, Bd.state]; rfl
  have N0 := Fr.nil n0
  have K0 := Keep.refl h0 []
  show own_G p e below s (Qim Z o x1 h0 n0) _ _ (s₁.setTop (entryFrame m #[(.ref o)] 1))
  rw [ef_rm_Qim m o]
  refine own_via (U' := s₁.setTop (mkF m 1 #[.val (.ref o)] [(.ref o)])) (fun t k => XS.aloadN X0.here hx rfl (hb hby d_prog_47_method_5_0) rfl rfl k) ?_
  obtain ⟨T1, X1, e1, st1⟩ := getF (host := "") X0 hx hZ hown (Or.inl (hw _ (List.mem_of_getElem? (i := 13) rfl))) Via.refl e0 Fn (g := (mkF m 1 #[.val (.ref o)] [(.ref o)])) rfl rfl (hb hby d_prog_47_method_5_1)
  refine own_via (U' := T1.setTop (mkF m 4 #[.val (.ref o)] [.null])) (fun t k => st1 t k) ?_
  refine own_via (U' := T1.setTop (mkF m 11 #[.val (.ref o)] [])) (fun t k => XS.ifnullYes X1.here hx rfl (pc0 := 4) (pc' := 11) rfl (hb hby d_prog_47_method_5_4) rfl (by decide) (by decide) k) ?_
  refine own_via (U' := T1.setTop (mkF m 12 #[.val (.ref o)] [(.int (0 : Int32))])) (fun t k => XS.iconst X1.here hx rfl (hb hby d_prog_47_method_5_11) k) ?_
  exact own_ret X1 (v := some (.int (0 : Int32))) (fun h => by rw [Bd.returns] at h; cases h) hlk (fun fs hr => retN X1 hx (t := .boolean) Bd.returns (by simp) (hb hby d_prog_47_method_5_12) hr) (by rw [e1]; exact ⟨rfl, N0, rfl⟩) (by decide) (by decide)
def Qnm (Z : State) (o : Addr) (x1 : Int64) (h0 : Heap) (n0 : Nat) (v : Option Value) (h : Heap) (L : List Loc) : Prop := v = some .null ∧ Fr n0 L ∧ h = h0
theorem d_prog_47_method_6_0 : decode prog_47_method_6_code 0 = .ok (.aload_n 0, 1) := by decide +kernel
theorem d_prog_47_method_6_1 : decode prog_47_method_6_code 1 = .ok (.getfield 7, 3) := by decide +kernel
theorem d_prog_47_method_6_4 : decode prog_47_method_6_code 4 = .ok (.areturn, 1) := by decide +kernel
theorem ef_rm_Qnm (m : MethodId) (x0 : Addr) : entryFrame m #[(.ref x0)] 1 = mkF m 0 #[.val (.ref x0)] [] := by first | (simp [entryFrame, mkF, argsToLocals, Value.category]; done) | rfl
set_option maxRecDepth 65536 in
set_option maxHeartbeats 40000000 in
theorem rm_Qnm (l : Launch) (Z : State) (a0 : Array Value) (hw : ∀ d ∈ tables_1, d.before a0 Z = true) (ws : List Jvm.Cond) (o : Addr) (x1 : Int64) (h0 : Heap) (n0 : Nat) (Z0 : n0 ≤ h0.size) (Fn : Fld Z h0 o "com/example/tenure/tenure/PathStep" "name" "Ljava/lang/String;" .null) (Fi : Fld Z h0 o "com/example/tenure/tenure/PathStep" "index" "J" (.long x1)) :
    MetFree l (⟨"com/example/tenure/tenure/PathStep", "name", "()Ljava/lang/String;"⟩ : MethodName) (head1 (Jvm.Cond.code (⟨"com/example/tenure/tenure/PathStep", "name", "()Ljava/lang/String;"⟩ : MethodName) prog_47_method_6_code 1 (some (.object "java/lang/String")) :: ws) ({ frames := 0, cells := 0, slots := 0, locals := 0 } : Room)) (fun aa_ UU_ => aa_ = #[(.ref o)] ∧ Z.Warmed39 UU_.vm ∧ UU_.heap = h0) (fun _ _ _ _ _ => True) (fun _ UU_ oo_ VV_ => ∃ vv_ LL_, oo_ = .returned vv_ ∧ Qnm Z o x1 h0 n0 vv_ VV_.heap LL_ ∧ FrameEnd UU_ oo_ VV_ LL_ ({ frames := 0, cells := 0, slots := 0, locals := 0 } : Room).cells ({ frames := 0, cells := 0, slots := 0, locals := 0 } : Room).slots) := by
  refine MetFree.of_bodySF (plainFor_of_name pn_com_example_tenure_tenure_PathStep) hisR ?_
  intro p e s m args below meth c s₁ Bd hml0 hP hK
  obtain ⟨rfl, hZ, hh⟩ := hP
  have hx := Bd.exec
  have hby := Bd.bytes
  have hml : c.maxLocals = 1 := hml0
  have hown : s.vm.findClass "com/example/tenure/tenure/PathStep" = some m.cls := findClass_of_methodNamed Bd.named
  have hnm := (name_of_methodNamed Bd.named Bd.method).1
  have hlk : meth.locks = false := Bd.notSynchronized
  have X0 : Stand p l e ({ frames := 0, cells := 0, slots := 0, locals := 0 } : Room) s m #[(.ref o)] below meth c s₁ [] 0 0 := Stand.of_body Bd
  have e0 : s₁.heap = h0 := by rw [← hh, Bd.state]; rfl
  have N0 := Fr.nil n0
  have K0 := Keep.refl h0 []
  show own_G p e below s (Qnm Z o x1 h0 n0) _ _ (s₁.setTop (entryFrame m #[(.ref o)] 1))
  rw [ef_rm_Qnm m o]
  refine own_via (U' := s₁.setTop (mkF m 1 #[.val (.ref o)] [(.ref o)])) (fun t k => XS.aloadN X0.here hx rfl (hb hby d_prog_47_method_6_0) rfl rfl k) ?_
  obtain ⟨T1, X1, e1, st1⟩ := getF (host := "") X0 hx hZ hown (Or.inl (hw _ (List.mem_of_getElem? (i := 13) rfl))) Via.refl e0 Fn (g := (mkF m 1 #[.val (.ref o)] [(.ref o)])) rfl rfl (hb hby d_prog_47_method_6_1)
  refine own_via (U' := T1.setTop (mkF m 4 #[.val (.ref o)] [.null])) (fun t k => st1 t k) ?_
  exact own_ret X1 (v := some .null) (fun h => by rw [Bd.returns] at h; cases h) hlk (fun fs hr => retOut X1 hx (t := (.object "java/lang/String")) Bd.returns rfl (Or.inr (Or.inr (Or.inr (Or.inr ⟨rfl, rfl, rfl⟩)))) (hb hby d_prog_47_method_6_4) hr) (by rw [e1]; exact ⟨rfl, N0, rfl⟩) (by decide) (by decide)
def Qfr (Z : State) (o : Addr) (x1 : Int64) (h0 : Heap) (n0 : Nat) (v : Option Value) (h : Heap) (L : List Loc) : Prop := v = some (.int (0 : Int32)) ∧ Fr n0 L ∧ h = h0
theorem d_prog_47_method_7_0 : decode prog_47_method_7_code 0 = .ok (.aload_n 0, 1) := by decide +kernel
theorem d_prog_47_method_7_1 : decode prog_47_method_7_code 1 = .ok (.getfield 7, 3) := by decide +kernel
theorem d_prog_47_method_7_4 : decode prog_47_method_7_code 4 = .ok (.ifnonnull 18, 3) := by decide +kernel
theorem d_prog_47_method_7_7 : decode prog_47_method_7_code 7 = .ok (.aload_n 0, 1) := by decide +kernel
theorem d_prog_47_method_7_8 : decode prog_47_method_7_code 8 = .ok (.getfield 13, 3) := by decide +kernel
theorem d_prog_47_method_7_11 : decode prog_47_method_7_code 11 = .ok (.ldc2_w 40, 3) := by decide +kernel
theorem d_prog_47_method_7_14 : decode prog_47_method_7_code 14 = .ok (.lcmp, 1) := by decide +kernel
theorem d_prog_47_method_7_15 : decode prog_47_method_7_code 15 = .ok (.ifCond .ne 7, 3) := by decide +kernel
theorem d_prog_47_method_7_22 : decode prog_47_method_7_code 22 = .ok (.iconst 0, 1) := by decide +kernel
theorem d_prog_47_method_7_23 : decode prog_47_method_7_code 23 = .ok (.ireturn, 1) := by decide +kernel
theorem ef_rm_Qfr (m : MethodId) (x0 : Addr) : entryFrame m #[(.ref x0)] 1 = mkF m 0 #[.val (.ref x0)] [] := by first | (simp [entryFrame, mkF, argsToLocals, Value.category]; done) | rfl
set_option maxRecDepth 65536 in
set_option maxHeartbeats 40000000 in
theorem rm_Qfr (l : Launch) (Z : State) (a0 : Array Value) (hw : ∀ d ∈ tables_1, d.before a0 Z = true) (ws : List Jvm.Cond) (o : Addr) (x1 : Int64) (h0 : Heap) (n0 : Nat) (Z0 : n0 ≤ h0.size) (Fn : Fld Z h0 o "com/example/tenure/tenure/PathStep" "name" "Ljava/lang/String;" .null) (Fi : Fld Z h0 o "com/example/tenure/tenure/PathStep" "index" "J" (.long x1)) (hx1 : ¬ x1 < (0 : Int64)) :
    MetFree l (⟨"com/example/tenure/tenure/PathStep", "isFree", "()Z"⟩ : MethodName) (head1 (Jvm.Cond.code (⟨"com/example/tenure/tenure/PathStep", "isFree", "()Z"⟩ : MethodName) prog_47_method_7_code 1 (some .boolean) :: ws) ({ frames := 0, cells := 0, slots := 0, locals := 0 } : Room)) (fun aa_ UU_ => aa_ = #[(.ref o)] ∧ Z.Warmed39 UU_.vm ∧ UU_.heap = h0) (fun _ _ _ _ _ => True) (fun _ UU_ oo_ VV_ => ∃ vv_ LL_, oo_ = .returned vv_ ∧ Qfr Z o x1 h0 n0 vv_ VV_.heap LL_ ∧ FrameEnd UU_ oo_ VV_ LL_ ({ frames := 0, cells := 0, slots := 0, locals := 0 } : Room).cells ({ frames := 0, cells := 0, slots := 0, locals := 0 } : Room).slots) := by
  refine MetFree.of_bodySF (plainFor_of_name pn_com_example_tenure_tenure_PathStep) hisR ?_
  intro p e s m args below meth c s₁ Bd hml0 hP hK
  obtain ⟨rfl, hZ, hh⟩ := hP
  have hx := Bd.exec
  have hby := Bd.bytes
  have hml : c.maxLocals = 1 := hml0
  have hown : s.vm.findClass "com/example/tenure/tenure/PathStep" = some m.cls := findClass_of_methodNamed Bd.named
  have hnm := (name_of_methodNamed Bd.named Bd.method).1
  have hlk : meth.locks = false := Bd.notSynchronized
  have X0 : Stand p l e ({ frames := 0, cells := 0, slots := 0, locals := 0 } : Room) s m #[(.ref o)] below meth c s₁ [] 0 0 := Stand.of_body Bd
  have e0 : s₁.heap = h0 := by rw [← hh, Bd.state]; rfl
  have N0 := Fr.nil n0
  have K0 := Keep.refl h0 []
  show own_G p e below s (Qfr Z o x1 h0 n0) _ _ (s₁.setTop (entryFrame m #[(.ref o)] 1))
  rw [ef_rm_Qfr m o]
  refine own_via (U' := s₁.setTop (mkF m 1 #[.val (.ref o)] [(.ref o)])) (fun t k => XS.aloadN X0.here hx rfl (hb hby d_prog_47_method_7_0) rfl rfl k) ?_
  obtain ⟨T1, X1, e1, st1⟩ := getF (host := "") X0 hx hZ hown (Or.inl (hw _ (List.mem_of_getElem? (i := 13) rfl))) Via.refl e0 Fn (g := (mkF m 1 #[.val (.ref o)] [(.ref o)])) rfl rfl (hb hby d_prog_47_method_7_1)
  refine own_via (U' := T1.setTop (mkF m 4 #[.val (.ref o)] [.null])) (fun t k => st1 t k) ?_
  refine own_via (U' := T1.setTop (mkF m 7 #[.val (.ref o)] [])) (fun t k => XS.ifnonnullNo X1.here hx rfl (hb hby d_prog_47_method_7_4) rfl k) ?_
  refine own_via (U' := T1.setTop (mkF m 8 #[.val (.ref o)] [(.ref o)])) (fun t k => XS.aloadN X1.here hx rfl (hb hby d_prog_47_method_7_7) rfl rfl k) ?_
  obtain ⟨T2, X2, e2, st2⟩ := getF (host := "") X1 hx hZ hown (Or.inl (hw _ (List.mem_of_getElem? (i := 15) rfl))) Via.refl e1 Fi (g := (mkF m 8 #[.val (.ref o)] [(.ref o)])) rfl rfl (hb hby d_prog_47_method_7_8)
  refine own_via (U' := T2.setTop (mkF m 11 #[.val (.ref o)] [(.long x1)])) (fun t k => st2 t k) ?_
  refine own_via (U' := T2.setTop (mkF m 14 #[.val (.ref o)] [(.long (-1 : Int64)), (.long x1)])) (fun t k => X2.ldc2Long hx hown (mvT hZ (hw _ (List.mem_of_getElem? (i := 32) rfl))) (g := (mkF m 11 #[.val (.ref o)] [(.long x1)])) rfl (hb hby d_prog_47_method_7_11) _ k) ?_
  refine own_via (U' := T2.setTop (mkF m 15 #[.val (.ref o)] [(.int (lcmpW x1 (-1 : Int64)))])) (fun t k => XS.lcmp X2.here hx rfl (hb hby d_prog_47_method_7_14) rfl k) ?_
  refine own_via (U' := T2.setTop (mkF m 22 #[.val (.ref o)] [])) (fun t k => XS.ifYes X2.here hx rfl (pc0 := 15) (pc' := 22) rfl (hb hby d_prog_47_method_7_15) rfl (own_jne (own_m1 hx1)).2 (by decide) (by decide) k) ?_
  refine own_via (U' := T2.setTop (mkF m 23 #[.val (.ref o)] [(.int (0 : Int32))])) (fun t k => XS.iconst X2.here hx rfl (hb hby d_prog_47_method_7_22) k) ?_
  exact own_ret X2 (v := some (.int (0 : Int32))) (fun h => by rw [Bd.returns] at h; cases h) hlk (fun fs hr => retN X2 hx (t := .boolean) Bd.returns (by simp) (hb hby d_prog_47_method_7_23) hr) (by rw [e2]; exact ⟨rfl, N0, rfl⟩) (by decide) (by decide)
def Qix (Z : State) (o : Addr) (x1 : Int64) (h0 : Heap) (n0 : Nat) (v : Option Value) (h : Heap) (L : List Loc) : Prop := v = some (.long x1) ∧ Fr n0 L ∧ h = h0
theorem d_prog_47_method_8_0 : decode prog_47_method_8_code 0 = .ok (.aload_n 0, 1) := by decide +kernel
theorem d_prog_47_method_8_1 : decode prog_47_method_8_code 1 = .ok (.getfield 13, 3) := by decide +kernel
theorem d_prog_47_method_8_4 : decode prog_47_method_8_code 4 = .ok (.lreturn, 1) := by decide +kernel
theorem ef_rm_Qix (m : MethodId) (x0 : Addr) : entryFrame m #[(.ref x0)] 1 = mkF m 0 #[.val (.ref x0)] [] := by first | (simp [entryFrame, mkF, argsToLocals, Value.category]; done) | rfl
set_option maxRecDepth 65536 in
set_option maxHeartbeats 40000000 in
theorem rm_Qix (l : Launch) (Z : State) (a0 : Array Value) (hw : ∀ d ∈ tables_1, d.before a0 Z = true) (ws : List Jvm.Cond) (o : Addr) (x1 : Int64) (h0 : Heap) (n0 : Nat) (Z0 : n0 ≤ h0.size) (Fn : Fld Z h0 o "com/example/tenure/tenure/PathStep" "name" "Ljava/lang/String;" .null) (Fi : Fld Z h0 o "com/example/tenure/tenure/PathStep" "index" "J" (.long x1)) :
    MetFree l (⟨"com/example/tenure/tenure/PathStep", "index", "()J"⟩ : MethodName) (head1 (Jvm.Cond.code (⟨"com/example/tenure/tenure/PathStep", "index", "()J"⟩ : MethodName) prog_47_method_8_code 1 (some .long) :: ws) ({ frames := 0, cells := 0, slots := 0, locals := 0 } : Room)) (fun aa_ UU_ => aa_ = #[(.ref o)] ∧ Z.Warmed39 UU_.vm ∧ UU_.heap = h0) (fun _ _ _ _ _ => True) (fun _ UU_ oo_ VV_ => ∃ vv_ LL_, oo_ = .returned vv_ ∧ Qix Z o x1 h0 n0 vv_ VV_.heap LL_ ∧ FrameEnd UU_ oo_ VV_ LL_ ({ frames := 0, cells := 0, slots := 0, locals := 0 } : Room).cells ({ frames := 0, cells := 0, slots := 0, locals := 0 } : Room).slots) := by
  refine MetFree.of_bodySF (plainFor_of_name pn_com_example_tenure_tenure_PathStep) hisR ?_
  intro p e s m args below meth c s₁ Bd hml0 hP hK
  obtain ⟨rfl, hZ, hh⟩ := hP
  have hx := Bd.exec
  have hby := Bd.bytes
  have hml : c.maxLocals = 1 := hml0
  have hown : s.vm.findClass "com/example/tenure/tenure/PathStep" = some m.cls := findClass_of_methodNamed Bd.named
  have hnm := (name_of_methodNamed Bd.named Bd.method).1
  have hlk : meth.locks = false := Bd.notSynchronized
  have X0 : Stand p l e ({ frames := 0, cells := 0, slots := 0, locals := 0 } : Room) s m #[(.ref o)] below meth c s₁ [] 0 0 := Stand.of_body Bd
  have e0 : s₁.heap = h0 := by rw [← hh, Bd.state]; rfl
  have N0 := Fr.nil n0
  have K0 := Keep.refl h0 []
  show own_G p e below s (Qix Z o x1 h0 n0) _ _ (s₁.setTop (entryFrame m #[(.ref o)] 1))
  rw [ef_rm_Qix m o]
  refine own_via (U' := s₁.setTop (mkF m 1 #[.val (.ref o)] [(.ref o)])) (fun t k => XS.aloadN X0.here hx rfl (hb hby d_prog_47_method_8_0) rfl rfl k) ?_
  obtain ⟨T1, X1, e1, st1⟩ := getF (host := "") X0 hx hZ hown (Or.inl (hw _ (List.mem_of_getElem? (i := 15) rfl))) Via.refl e0 Fi (g := (mkF m 1 #[.val (.ref o)] [(.ref o)])) rfl rfl (hb hby d_prog_47_method_8_1)
  refine own_via (U' := T1.setTop (mkF m 4 #[.val (.ref o)] [(.long x1)])) (fun t k => st1 t k) ?_
  exact own_ret X1 (v := some (.long x1)) (fun h => by rw [Bd.returns] at h; cases h) hlk (fun fs hr => retOut X1 hx (t := .long) Bd.returns rfl (Or.inr (Or.inl ⟨rfl, rfl, _, rfl⟩)) (hb hby d_prog_47_method_8_4) hr) (by rw [e1]; exact ⟨rfl, N0, rfl⟩) (by decide) (by decide)
def Qae (Z : State) (sa : Addr) (h0 : Heap) (n0 : Nat) (v : Option Value) (h : Heap) (L : List Loc) : Prop := v = some (.ref sa) ∧ Fr n0 L ∧ h = h0
theorem d_prog_47_method_3_0 : decode prog_47_method_3_code 0 = .ok (.getstatic 29, 3) := by decide +kernel
theorem d_prog_47_method_3_3 : decode prog_47_method_3_code 3 = .ok (.areturn, 1) := by decide +kernel
theorem ef_rm_Qae (m : MethodId)  : entryFrame m #[] 0 = mkF m 0 #[] [] := by first | (simp [entryFrame, mkF, argsToLocals, Value.category]; done) | rfl
set_option maxRecDepth 65536 in
set_option maxHeartbeats 40000000 in
theorem rm_Qae (l : Launch) (Z : State) (a0 : Array Value) (hw : ∀ d ∈ tables_1, d.before a0 Z = true) (ws : List Jvm.Cond) (sa : Addr) (h0 : Heap) (n0 : Nat) (Z0 : n0 ≤ h0.size) (Sa : Sta Z h0 "com/example/tenure/tenure/PathStep" "ANY_ELEMENT" "Lcom/example/tenure/tenure/PathStep;" (.ref sa)) :
    MetFree l (⟨"com/example/tenure/tenure/PathStep", "anyElement", "()Lcom/example/tenure/tenure/PathStep;"⟩ : MethodName) (head1 (Jvm.Cond.code (⟨"com/example/tenure/tenure/PathStep", "anyElement", "()Lcom/example/tenure/tenure/PathStep;"⟩ : MethodName) prog_47_method_3_code 0 (some (.object "com/example/tenure/tenure/PathStep")) :: ws) ({ frames := 0, cells := 0, slots := 0, locals := 0 } : Room)) (fun aa_ UU_ => aa_ = #[] ∧ Z.Warmed39 UU_.vm ∧ UU_.heap = h0) (fun _ _ _ _ _ => True) (fun _ UU_ oo_ VV_ => ∃ vv_ LL_, oo_ = .returned vv_ ∧ Qae Z sa h0 n0 vv_ VV_.heap LL_ ∧ FrameEnd UU_ oo_ VV_ LL_ ({ frames := 0, cells := 0, slots := 0, locals := 0 } : Room).cells ({ frames := 0, cells := 0, slots := 0, locals := 0 } : Room).slots) := by
  refine MetFree.of_bodySF (plainFor_of_name pn_com_example_tenure_tenure_PathStep) hisR ?_
  intro p e s m args below meth c s₁ Bd hml0 hP hK
  obtain ⟨rfl, hZ, hh⟩ := hP
  have hx := Bd.exec
  have hby := Bd.bytes
  have hml : c.maxLocals = 0 := hml0
  have hown : s.vm.findClass "com/example/tenure/tenure/PathStep" = some m.cls := findClass_of_methodNamed Bd.named
  have hnm := (name_of_methodNamed Bd.named Bd.method).1
  have hlk : meth.locks = false := Bd.notSynchronized
  have X0 : Stand p l e ({ frames := 0, cells := 0, slots := 0, locals := 0 } : Room) s m #[] below meth c s₁ [] 0 0 := Stand.of_body Bd
  have e0 : s₁.heap = h0 := by rw [← hh, Bd.state]; rfl
  have N0 := Fr.nil n0
  have K0 := Keep.refl h0 []
  show own_G p e below s (Qae Z sa h0 n0) _ _ (s₁.setTop (entryFrame m #[] 0))
  rw [ef_rm_Qae m ]
  obtain ⟨T1, X1, e1, st1⟩ := getS2 (host := "") X0 hx hZ hown (Or.inl (hw _ (List.mem_of_getElem? (i := 41) rfl))) Via.refl e0 Sa (g := (mkF m 0 #[] [])) rfl (hb hby d_prog_47_method_3_0)
  refine own_via (U' := T1.setTop (mkF m 3 #[] [(.ref sa)])) (fun t k => st1 t k) ?_
  exact own_ret X1 (v := some (.ref sa)) (fun h => by rw [Bd.returns] at h; cases h) hlk (fun fs hr => retOut X1 hx (t := (.object "com/example/tenure/tenure/PathStep")) Bd.returns rfl (Or.inr (Or.inr (Or.inr (Or.inr ⟨rfl, rfl, rfl⟩)))) (hb hby d_prog_47_method_3_3) hr) (by rw [e1]; exact ⟨rfl, N0, rfl⟩) (by decide) (by decide)
def Q0 (Z : State) (x1 : Int64) (sa : Addr) (h0 : Heap) (n0 : Nat) (v : Option Value) (h : Heap) (L : List Loc) : Prop := v = some (.int 1) ∧ Fr n0 L
theorem pd_J__Lcom_example_tenure_tenure_PathStep_ : parseMethodDescriptor "(J)Lcom/example/tenure/tenure/PathStep;" = some ⟨[.long], some (.object "com/example/tenure/tenure/PathStep")⟩ := by decide +kernel
theorem pd___Z : parseMethodDescriptor "()Z" = some ⟨[], some .boolean⟩ := by decide +kernel
theorem pd___Ljava_lang_String_ : parseMethodDescriptor "()Ljava/lang/String;" = some ⟨[], some (.object "java/lang/String")⟩ := by decide +kernel
theorem pd___J : parseMethodDescriptor "()J" = some ⟨[], some .long⟩ := by decide +kernel
theorem pd___Lcom_example_tenure_tenure_PathStep_ : parseMethodDescriptor "()Lcom/example/tenure/tenure/PathStep;" = some ⟨[], some (.object "com/example/tenure/tenure/PathStep")⟩ := by decide +kernel
theorem ef_rm_Q0 (m : MethodId) (x0 : Int64) : entryFrame m #[(.long x0)] maxLocals = mkF m 0 #[.val (.long x0), .second, .unset, .unset, .unset] [] := by first | (simp [entryFrame, mkF, argsToLocals, Value.category, maxLocals]; done) | rfl
theorem pn_com_example_tenure_tenure_PathStepElementPinLaw : plainName "com/example/tenure/tenure/PathStepElementPinLaw" = true := by first | (simp [plainName, overriddenIn]; done) | decide +kernel
set_option maxRecDepth 65536 in
set_option maxHeartbeats 40000000 in
theorem rm_Q0 (l : Launch) (Z : State) (a0 : Array Value) (hw : ∀ d ∈ tables_1, d.before a0 Z = true) (ws : List Jvm.Cond) (x1 : Int64) (sa : Addr) (h0 : Heap) (n0 : Nat) (Z0 : n0 ≤ h0.size) (Sa : Sta Z h0 "com/example/tenure/tenure/PathStep" "ANY_ELEMENT" "Lcom/example/tenure/tenure/PathStep;" (.ref sa)) (Ea : Exa Z h0 sa "com/example/tenure/tenure/PathStep") :
    MetFree l x (head1 (Jvm.Cond.code x code maxLocals ret :: ws) room_1) (fun aa_ UU_ => aa_ = #[(.long x1)] ∧ Z.Warmed39 UU_.vm ∧ UU_.heap = h0) (fun _ _ _ _ _ => True) (fun _ UU_ oo_ VV_ => ∃ vv_ LL_, oo_ = .returned vv_ ∧ Q0 Z x1 sa h0 n0 vv_ VV_.heap LL_ ∧ FrameEnd UU_ oo_ VV_ LL_ room_1.cells room_1.slots) := by
  refine MetFree.of_bodySF (plainFor_of_name pn_com_example_tenure_tenure_PathStepElementPinLaw) hisR ?_
  intro p e s m args below meth c s₁ Bd hml0 hP hK
  obtain ⟨rfl, hZ, hh⟩ := hP
  have hx := Bd.exec
  have hby := Bd.bytes
  have hml : c.maxLocals = 5 := hml0
  have hown : s.vm.findClass "com/example/tenure/tenure/PathStepElementPinLaw" = some m.cls := findClass_of_methodNamed Bd.named
  have hnm := (name_of_methodNamed Bd.named Bd.method).1
  have hlk : meth.locks = false := Bd.notSynchronized
  have X0 : Stand p l e room_1 s m #[(.long x1)] below meth c s₁ [] 0 0 := Stand.of_body Bd
  have e0 : s₁.heap = h0 := by rw [← hh, Bd.state]; rfl
  have N0 := Fr.nil n0
  have K0 := Keep.refl h0 []
  show own_G p e below s (Q0 Z x1 sa h0 n0) _ _ (s₁.setTop (entryFrame m #[(.long x1)] maxLocals))
  rw [ef_rm_Q0 m x1]
  refine own_via (U' := s₁.setTop (mkF m 1 #[.val (.long x1), .second, .unset, .unset, .unset] [(.long x1)])) (fun t k => XS.lloadN X0.here hx rfl (hb hby at_0) rfl k) ?_
  refine own_via (U' := s₁.setTop (mkF m 4 #[.val (.long x1), .second, .unset, .unset, .unset] [(.long (9223372036854775807 : Int64)), (.long x1)])) (fun t k => X0.ldc2Long hx hown (mvT hZ (hw _ (List.mem_of_getElem? (i := 0) rfl))) (g := (mkF m 1 #[.val (.long x1), .second, .unset, .unset, .unset] [(.long x1)])) rfl (hb hby at_1) _ k) ?_
  refine own_via (U' := s₁.setTop (mkF m 5 #[.val (.long x1), .second, .unset, .unset, .unset] [(.long (x1 &&& (9223372036854775807 : Int64)))])) (fun t k => XS.land X0.here hx rfl (hb hby at_4) rfl k) ?_
  refine own_via (U' := s₁.setTop (mkF m 6 #[.val (.long x1), .second, .val (.long (x1 &&& (9223372036854775807 : Int64))), .second, .unset] [])) (fun t k => XS.lstoreN X0.here hx rfl (hb hby at_5) rfl (l' := #[.val (.long x1), .second, .val (.long (x1 &&& (9223372036854775807 : Int64))), .second, .unset]) rfl k) ?_
  have hii : ¬ (x1 &&& (9223372036854775807 : Int64)) < (0 : Int64) := own_ii _
  generalize (x1 &&& (9223372036854775807 : Int64)) = ii at hii ⊢
  refine own_via (U' := s₁.setTop (mkF m 7 #[.val (.long x1), .second, .val (.long ii), .second, .unset] [(.long ii)])) (fun t k => XS.lloadN X0.here hx rfl (hb hby at_6) rfl k) ?_
  obtain ⟨_, T1, L1, X1, hQ1, st1⟩ := own_callS X0 hx hZ (y := (⟨"com/example/tenure/tenure/PathStep", "element", "(J)Lcom/example/tenure/tenure/PathStep;"⟩ : MethodName)) (W := 0) hown (hw _ (List.mem_of_getElem? (i := 1) rfl)) (hw _ (List.mem_of_getElem? (i := 2) rfl)) (hw _ (List.mem_of_getElem? (i := 3) rfl)) (hw _ (List.mem_of_getElem? (i := 4) rfl)) (by decide) (rm_Qel l Z a0 hw [] ii h0 n0 Z0 hii) (by decide) (by decide) e0 (g := (mkF m 7 #[.val (.long x1), .second, .val (.long ii), .second, .unset] [(.long ii)])) rfl (by rw [hml]; rfl) (argsL := [(.long ii)]) (rest := []) rfl (lenOf pd_J__Lcom_example_tenure_tenure_PathStep_ rfl) rfl (by show 2 * 0 + _ ≤ _; exact Nat.le_of_eq rfl) (hb hby at_7) (by decide) (by decide)
  obtain ⟨b1, rfl, N1q, K1q, gn_b1, sq_b1, E1q, F1q0, F1q1⟩ := hQ1
  have N1 := Fr.app N0 N1q
  have ne2 : sa ≠ b1 := Nat.ne_of_lt (Nat.lt_of_lt_of_le Ea.lt sq_b1)
  have sz_b1 : h0.size ≤ b1 := Nat.le_trans K0.1 sq_b1
  have f3 := own_sta_keep Sa K1q all0
  have f4 := Ea.keep K1q
  have Z5 : n0 ≤ T1.heap.size := Nat.le_trans Z0 K1q.1
  have K5 := K0.trans K1q all0
  refine own_via (U' := T1.setTop (mkF m 10 #[.val (.long x1), .second, .val (.long ii), .second, .unset] [(.ref b1)])) (fun t k => st1 t k) ?_
  refine own_via (U' := T1.setTop (mkF m 12 #[.val (.long x1), .second, .val (.long ii), .second, .val (.ref b1)] [])) (fun t k => XS.astore X1.here hx rfl (hb hby at_10) rfl rfl (l' := #[.val (.long x1), .second, .val (.long ii), .second, .val (.ref b1)]) rfl k) ?_
  refine own_via (U' := T1.setTop (mkF m 14 #[.val (.long x1), .second, .val (.long ii), .second, .val (.ref b1)] [(.ref b1)])) (fun t k => XS.aload X1.here hx rfl (hb hby at_12) rfl rfl k) ?_
  refine own_via (U' := T1.setTop (mkF m 19 #[.val (.long x1), .second, .val (.long ii), .second, .val (.ref b1)] [])) (fun t k => XS.ifnonnullYes X1.here hx rfl (pc0 := 14) (pc' := 19) rfl (hb hby at_14) rfl (by decide) (by decide) k) ?_
  refine own_via (U' := T1.setTop (mkF m 21 #[.val (.long x1), .second, .val (.long ii), .second, .val (.ref b1)] [(.ref b1)])) (fun t k => XS.aload X1.here hx rfl (hb hby at_19) rfl rfl k) ?_
  obtain ⟨_, T6, L6, X6, hQ6, st6⟩ := own_callV X1 hx hZ (y := (⟨"com/example/tenure/tenure/PathStep", "isMember", "()Z"⟩ : MethodName)) (W := 0) (C := "com/example/tenure/tenure/PathStep") hown (hw _ (List.mem_of_getElem? (i := 17) rfl)) (hw _ (List.mem_of_getElem? (i := 18) rfl)) (hw _ (List.mem_of_getElem? (i := 20) rfl)) (hw _ (List.mem_of_getElem? (i := 19) rfl)) (hw _ (List.mem_of_getElem? (i := 3) rfl)) (hw _ (List.mem_of_getElem? (i := 21) rfl)) (by decide) (rm_Qim l Z a0 hw [] b1 ii T1.heap n0 Z5 F1q0 F1q1) (by decide) (by decide) rfl E1q (g := (mkF m 21 #[.val (.long x1), .second, .val (.long ii), .second, .val (.ref b1)] [(.ref b1)])) rfl (by rw [hml]; rfl) (argsL := []) (rest := []) rfl (lenOf pd___Z rfl) rfl (by show 2 * 0 + _ ≤ _; exact Nat.le_of_eq rfl) (hb hby at_21) (by decide) (by decide)
  obtain ⟨rfl, N6q, e6⟩ := hQ6
  have N6 := Fr.app N1 N6q
  refine own_via (U' := T6.setTop (mkF m 24 #[.val (.long x1), .second, .val (.long ii), .second, .val (.ref b1)] [(.int (0 : Int32))])) (fun t k => st6 t k) ?_
  refine own_via (U' := T6.setTop (mkF m 29 #[.val (.long x1), .second, .val (.long ii), .second, .val (.ref b1)] [])) (fun t k => XS.ifYes X6.here hx rfl (pc0 := 24) (pc' := 29) rfl (hb hby at_24) rfl ((if0 _ _).trans (teq (by decide : ((0 : Int32) = (0 : Int32)))).1) (by decide) (by decide) k) ?_
  refine own_via (U' := T6.setTop (mkF m 31 #[.val (.long x1), .second, .val (.long ii), .second, .val (.ref b1)] [(.ref b1)])) (fun t k => XS.aload X6.here hx rfl (hb hby at_29) rfl rfl k) ?_
  obtain ⟨_, T7, L7, X7, hQ7, st7⟩ := own_callV X6 hx hZ (y := (⟨"com/example/tenure/tenure/PathStep", "name", "()Ljava/lang/String;"⟩ : MethodName)) (W := 0) (C := "com/example/tenure/tenure/PathStep") hown (hw _ (List.mem_of_getElem? (i := 22) rfl)) (hw _ (List.mem_of_getElem? (i := 23) rfl)) (hw _ (List.mem_of_getElem? (i := 25) rfl)) (hw _ (List.mem_of_getElem? (i := 24) rfl)) (hw _ (List.mem_of_getElem? (i := 3) rfl)) (hw _ (List.mem_of_getElem? (i := 26) rfl)) (by decide) (rm_Qnm l Z a0 hw [] b1 ii T1.heap n0 Z5 F1q0 F1q1) (by decide) (by decide) e6 E1q (g := (mkF m 31 #[.val (.long x1), .second, .val (.long ii), .second, .val (.ref b1)] [(.ref b1)])) rfl (by rw [hml]; rfl) (argsL := []) (rest := []) rfl (lenOf pd___Ljava_lang_String_ rfl) rfl (by show 2 * 0 + _ ≤ _; exact Nat.le_of_eq rfl) (hb hby at_31) (by decide) (by decide)
  obtain ⟨rfl, N7q, e7⟩ := hQ7
  have N7 := Fr.app N6 N7q
  refine own_via (U' := T7.setTop (mkF m 34 #[.val (.long x1), .second, .val (.long ii), .second, .val (.ref b1)] [.null])) (fun t k => st7 t k) ?_
  refine own_via (U' := T7.setTop (mkF m 39 #[.val (.long x1), .second, .val (.long ii), .second, .val (.ref b1)] [])) (fun t k => XS.ifnullYes X7.here hx rfl (pc0 := 34) (pc' := 39) rfl (hb hby at_34) rfl (by decide) (by decide) k) ?_
  refine own_via (U' := T7.setTop (mkF m 41 #[.val (.long x1), .second, .val (.long ii), .second, .val (.ref b1)] [(.ref b1)])) (fun t k => XS.aload X7.here hx rfl (hb hby at_39) rfl rfl k) ?_
  obtain ⟨_, T8, L8, X8, hQ8, st8⟩ := own_callV X7 hx hZ (y := (⟨"com/example/tenure/tenure/PathStep", "isFree", "()Z"⟩ : MethodName)) (W := 0) (C := "com/example/tenure/tenure/PathStep") hown (hw _ (List.mem_of_getElem? (i := 27) rfl)) (hw _ (List.mem_of_getElem? (i := 28) rfl)) (hw _ (List.mem_of_getElem? (i := 30) rfl)) (hw _ (List.mem_of_getElem? (i := 29) rfl)) (hw _ (List.mem_of_getElem? (i := 3) rfl)) (hw _ (List.mem_of_getElem? (i := 31) rfl)) (by decide) (rm_Qfr l Z a0 hw [] b1 ii T1.heap n0 Z5 F1q0 F1q1 hii) (by decide) (by decide) e7 E1q (g := (mkF m 41 #[.val (.long x1), .second, .val (.long ii), .second, .val (.ref b1)] [(.ref b1)])) rfl (by rw [hml]; rfl) (argsL := []) (rest := []) rfl (lenOf pd___Z rfl) rfl (by show 2 * 0 + _ ≤ _; exact Nat.le_of_eq rfl) (hb hby at_41) (by decide) (by decide)
  obtain ⟨rfl, N8q, e8⟩ := hQ8
  have N8 := Fr.app N7 N8q
  refine own_via (U' := T8.setTop (mkF m 44 #[.val (.long x1), .second, .val (.long ii), .second, .val (.ref b1)] [(.int (0 : Int32))])) (fun t k => st8 t k) ?_
  refine own_via (U' := T8.setTop (mkF m 49 #[.val (.long x1), .second, .val (.long ii), .second, .val (.ref b1)] [])) (fun t k => XS.ifYes X8.here hx rfl (pc0 := 44) (pc' := 49) rfl (hb hby at_44) rfl ((if0 _ _).trans (teq (by decide : ((0 : Int32) = (0 : Int32)))).1) (by decide) (by decide) k) ?_
  refine own_via (U' := T8.setTop (mkF m 51 #[.val (.long x1), .second, .val (.long ii), .second, .val (.ref b1)] [(.ref b1)])) (fun t k => XS.aload X8.here hx rfl (hb hby at_49) rfl rfl k) ?_
  obtain ⟨_, T9, L9, X9, hQ9, st9⟩ := own_callV X8 hx hZ (y := (⟨"com/example/tenure/tenure/PathStep", "index", "()J"⟩ : MethodName)) (W := 0) (C := "com/example/tenure/tenure/PathStep") hown (hw _ (List.mem_of_getElem? (i := 33) rfl)) (hw _ (List.mem_of_getElem? (i := 34) rfl)) (hw _ (List.mem_of_getElem? (i := 36) rfl)) (hw _ (List.mem_of_getElem? (i := 35) rfl)) (hw _ (List.mem_of_getElem? (i := 3) rfl)) (hw _ (List.mem_of_getElem? (i := 37) rfl)) (by decide) (rm_Qix l Z a0 hw [] b1 ii T1.heap n0 Z5 F1q0 F1q1) (by decide) (by decide) e8 E1q (g := (mkF m 51 #[.val (.long x1), .second, .val (.long ii), .second, .val (.ref b1)] [(.ref b1)])) rfl (by rw [hml]; rfl) (argsL := []) (rest := []) rfl (lenOf pd___J rfl) rfl (by show 2 * 0 + _ ≤ _; exact Nat.le_of_eq rfl) (hb hby at_51) (by decide) (by decide)
  obtain ⟨rfl, N9q, e9⟩ := hQ9
  have N9 := Fr.app N8 N9q
  refine own_via (U' := T9.setTop (mkF m 54 #[.val (.long x1), .second, .val (.long ii), .second, .val (.ref b1)] [(.long ii)])) (fun t k => st9 t k) ?_
  refine own_via (U' := T9.setTop (mkF m 55 #[.val (.long x1), .second, .val (.long ii), .second, .val (.ref b1)] [(.long ii), (.long ii)])) (fun t k => XS.lloadN X9.here hx rfl (hb hby at_54) rfl k) ?_
  refine own_via (U' := T9.setTop (mkF m 56 #[.val (.long x1), .second, .val (.long ii), .second, .val (.ref b1)] [(.int (lcmpW ii ii))])) (fun t k => XS.lcmp X9.here hx rfl (hb hby at_55) rfl k) ?_
  refine own_via (U' := T9.setTop (mkF m 61 #[.val (.long x1), .second, .val (.long ii), .second, .val (.ref b1)] [])) (fun t k => XS.ifYes X9.here hx rfl (pc0 := 56) (pc' := 61) rfl (hb hby at_56) rfl (own_jeq (rfl : ii = ii)).1 (by decide) (by decide) k) ?_
  refine own_via (U' := T9.setTop (mkF m 63 #[.val (.long x1), .second, .val (.long ii), .second, .val (.ref b1)] [(.ref b1)])) (fun t k => XS.aload X9.here hx rfl (hb hby at_61) rfl rfl k) ?_
  obtain ⟨_, T10, L10, X10, hQ10, st10⟩ := own_callS X9 hx hZ (y := (⟨"com/example/tenure/tenure/PathStep", "anyElement", "()Lcom/example/tenure/tenure/PathStep;"⟩ : MethodName)) (W := 1) hown (hw _ (List.mem_of_getElem? (i := 38) rfl)) (hw _ (List.mem_of_getElem? (i := 39) rfl)) (hw _ (List.mem_of_getElem? (i := 3) rfl)) (hw _ (List.mem_of_getElem? (i := 40) rfl)) (by decide) (rm_Qae l Z a0 hw [] sa T1.heap n0 Z5 f3) (by decide) (by decide) e9 (g := (mkF m 63 #[.val (.long x1), .second, .val (.long ii), .second, .val (.ref b1)] [(.ref b1)])) rfl (by rw [hml]; rfl) (argsL := []) (rest := [(.ref b1)]) rfl (lenOf pd___Lcom_example_tenure_tenure_PathStep_ rfl) rfl (by show 2 * 0 + _ ≤ _; exact Nat.le_of_eq rfl) (hb hby at_63) (by decide) (by decide)
  obtain ⟨rfl, N10q, e10⟩ := hQ10
  have N10 := Fr.app N9 N10q
  refine own_via (U' := T10.setTop (mkF m 66 #[.val (.long x1), .second, .val (.long ii), .second, .val (.ref b1)] [(.ref sa), (.ref b1)])) (fun t k => st10 t k) ?_
  refine own_via (U' := T10.setTop (mkF m 69 #[.val (.long x1), .second, .val (.long ii), .second, .val (.ref b1)] [])) (fun t k => Jvm.RoadKit.acmp (g := (mkF m 66 #[.val (.long x1), .second, .val (.long ii), .second, .val (.ref b1)] [(.ref sa), (.ref b1)])) X10 hx rfl rfl rfl (pc0 := 66) (pc' := 69) (same := false) rfl (hb hby at_66) rfl (decide_eq_false fun q => (Ne.symm ne2) (Value.ref.inj q)) (by decide) (by decide) k) ?_
  refine own_via (U' := T10.setTop (mkF m 70 #[.val (.long x1), .second, .val (.long ii), .second, .val (.ref b1)] [(.int (1 : Int32))])) (fun t k => XS.iconst X10.here hx rfl (hb hby at_69) k) ?_
  refine own_via (U' := T10.setTop (mkF m 74 #[.val (.long x1), .second, .val (.long ii), .second, .val (.ref b1)] [(.int (1 : Int32))])) (fun t k => XS.goto X10.here hx rfl (pc0 := 70) (pc' := 74) rfl (hb hby at_70) (by decide) (by decide) k) ?_
  exact own_ret X10 (v := some (.int (1 : Int32))) (fun h => by rw [Bd.returns] at h; cases h) hlk (fun fs hr => retN X10 hx (t := .boolean) Bd.returns (by simp) (hb hby at_74) hr) (by rw [e10]; exact ⟨rfl, N10⟩) (by decide) (by decide)
set_option maxRecDepth 65536 in
set_option maxHeartbeats 40000000 in
theorem comes_1 {Post : Tables → Env → Array Value → State → Outcome → State → Prop} (hpost : ∀ tb e args s v u, (limb_1_1.after args s (.returned v) u = true ∧ limb_1_2.after args s (.returned v) u = true ∧ True) → FrameEnd s (.returned v) u (Jvm.fieldLocs frame_1_writes args s ++ Jvm.arrayLocs frame_1_arrays args s ++ Jvm.staticLocs frame_1_statics s) 16 128 → Post tb e args s (.returned v) u) :
    ArmFor flags0 classFile x code maxLocals ret World_1 tables_1 room_1 Calls_1 rest_1 Pre_1 Post := by
  intro l hfl _ _ p e ha hc hk s m args below hf hA hF happ hP
  obtain ⟨hcalls, hrest, hpre⟩ := hP
  obtain ⟨-, -, -, hnamed, -, -, -, hat⟩ := (Spec.applies_iff hf).mp happ
  obtain ⟨hg, hn⟩ := and_e (Cond.before_iff.mp (show (Jvm.Cond.and given_1 narrow_1).before args s = true from hpre))
  obtain ⟨hcount, r0⟩ := and_e hg
  obtain ⟨w0, rfl⟩ : ∃ w0 : Value, args = #[w0] := by
    have hs : args.size = 1 := by simpa [Cond.value, given_1] using hcount
    obtain ⟨L⟩ := args
    match L, hs with
    | [w0], _ => exact ⟨w0, rfl⟩
  have hw := fun d (hd : d ∈ tables_1) => atoms_spec (ws := Jvm.Cond.code x code maxLocals ret :: tables_1) hat d (List.mem_cons_of_mem _ hd)
  have hfit : Fit s := fun {y c} hc i hi => by
    obtain ⟨ha, rfl⟩ := Array.getElem?_eq_some_iff.mp hc
    have q := List.all_eq_true.mp ((Array.all_eq_true_iff_forall_mem.mp hF) _ (Array.getElem_mem ha)) i (List.mem_range.mpr hi)
    simpa [Array.getElem?_eq_getElem hi] using q
  obtain ⟨i0, ei0⟩ := isL_v r0
  obtain rfl : w0 = (.long i0) := Option.some.inj ei0
  obtain ⟨y0, v0⟩ := exa_v hn
  have S0_ := Sta.start v0 (Or.inr ⟨(hw _ (List.mem_of_getElem? (i := 3) rfl)), (hw _ (List.mem_of_getElem? (i := 42) rfl))⟩)
  have E0_ := Exa.start v0 hn
  obtain ⟨n, o, h1, h2, h3, _, L, rfl, ⟨rfl, N⟩, hq⟩ := rm_Q0 l s _ hw tables_1 i0 y0 s.heap s.heap.size (Nat.le_refl _) S0_ E0_ p e ha hc hk s m _ below hf ((Spec.applies_iff_loose hf).mp happ).1 ⟨rfl, State.Warmed39.refl s, rfl⟩ trivial
  refine ⟨n, _, h1, h2, h3, hpost _ _ _ _ _ _ ⟨Cond.after_iff.mpr rfl, Cond.after_iff.mpr (eq_i res_at (Term.int_eval (1)) rfl), trivial⟩ ⟨hq.1, hq.2.1, (hq.2.2.sift fun y hy => Or.inr (N y hy)).mono (by decide) (by decide)⟩⟩
theorem main_1_1 : Claimed_1_1 := comes_1 fun _ _ _ _ _ _ h hF => ⟨h.1, hF⟩
theorem main_1_2 : Claimed_1_2 := comes_1 fun _ _ _ _ _ _ h hF => ⟨h.2.1, hF⟩
end Jvm.Pilot.@@N@@
namespace Jvm.Pilot.@@N@@
open Jvm Jvm.ClassFile Sem Op Lib Jvm.Free Jvm.Stand Jvm.Pilot.@@N@@.Jvm.D
/-! MADE BY PROGRAM (witnessworld.py) out of the Statement's table words and the real class files: 9 classes; the members and pool entries that the words name. The judged class is class 1, her method 1. -/
namespace start1
open Jvm.ClassFile
def u (s : String) : CpInfo := .utf8 (stringToUtf16 s)
/-- a pool by its gaps: so many unusable entries, then the entry; so many at the end -/
def gap : Nat → List CpInfo → List CpInfo
  | 0, r => r
  | n + 1, r => .unusable :: gap n r
def poolList (es : List (Nat × CpInfo)) (last : Nat) : List CpInfo := es.foldr (fun e r => gap e.1 (e.2 :: r)) (gap last [])
def pool (es : List (Nat × CpInfo)) (last : Nat) : Array CpInfo := ⟨poolList es last⟩
def fileOf (pool : Array CpInfo) (this : Nat) (attrs : Array Attribute := #[]) (ms : Array MethodInfo := #[]) (fl : Nat := 33) (sup : Nat := 0) (ifs : Array Nat := #[]) (fds : Array FieldInfo := #[]) : ClassFile where
  minorVersion := 0
  majorVersion := 65
  constantPool := pool
  accessFlags := fl
  thisClass := this
  superClass := sup
  interfaces := ifs
  fields := fds
  methods := ms
  attributes := attrs
def plain (name : String) (sup : Option ClassId) : Class where
  name := name
  kind := .ordinary
  loader := none
  accessFlags := 33
  super := sup
  interfaces := #[]
  cf := none
  fields := #[]
  methods := #[]
  instanceTypes := #[]
  staticTypes := #[]
  resolved := #[]
  callSites := []
  init := .initialized
  statics := none
  mirror := none

def pool0 : Array CpInfo := pool [(5, u "<init>"), (0, u "()V"), (1, .class_ 10), (1, u "java/lang/Object")] 113

def k0c0 : Code := { maxStack := 0, maxLocals := 1, code := object_method_1_code, exceptionTable := #[], attributes := #[] }
def k0m0 : Method := { name := "<init>", desc := "()V", sig := { parameters := [], returnType := none }, accessFlags := 1, code := some k0c0 }
/-- java/lang/Object -/
def k0 : Class := { plain "java/lang/Object" none with
  accessFlags := 33
  interfaces := #[]
  cf := some (fileOf pool0 8 #[] #[{ accessFlags := 1, nameIndex := 5, descriptorIndex := 6, attributes := #[] }] 33 0 #[] #[])
  fields := #[]
  methods := #[k0m0]
  instanceTypes := #[]
  staticTypes := #[]
  resolved := Array.replicate 124 none
  statics := none }

def pool1 : Array CpInfo := pool [(2, .class_ 4), (1, u "java/lang/Object"), (0, u "<init>"), (0, u "()V"), (2, .long 9223372036854775807), (1, .methodref 12 13), (0, .class_ 14), (0, .nameAndType 15 16), (0, u "com/example/tenure/tenure/PathStep"), (0, u "element"), (0, u "(J)Lcom/example/tenure/tenure/PathStep;"), (0, .methodref 12 18), (0, .nameAndType 19 20), (0, u "isMember"), (0, u "()Z"), (0, .methodref 12 22), (0, .nameAndType 23 24), (0, u "name"), (0, u "()Ljava/lang/String;"), (0, .methodref 12 26), (0, .nameAndType 27 20), (0, u "isFree"), (0, .methodref 12 29), (0, .nameAndType 30 31), (0, u "index"), (0, u "()J"), (0, .methodref 12 33), (0, .nameAndType 34 35), (0, u "anyElement"), (0, u "()Lcom/example/tenure/tenure/PathStep;"), (0, .class_ 37), (0, u "com/example/tenure/tenure/PathStepElementPinLaw"), (2, u "law"), (0, u "(J)Z")] 3

def k1m0 : Method := { name := "<init>", desc := "()V", sig := { parameters := [], returnType := none }, accessFlags := 1, code := none }
def k1c1 : Code := { maxStack := 4, maxLocals := 5, code := code, exceptionTable := #[], attributes := #[] }
def k1m1 : Method := { name := "law", desc := "(J)Z", sig := { parameters := [.long], returnType := some .boolean }, accessFlags := 9, code := some k1c1 }
/-- com/example/tenure/tenure/PathStepElementPinLaw -/
def k1 : Class := { plain "com/example/tenure/tenure/PathStepElementPinLaw" (some 0) with
  accessFlags := 49
  interfaces := #[]
  cf := some (fileOf pool1 36 #[] #[{ accessFlags := 1, nameIndex := 5, descriptorIndex := 6, attributes := #[] }, { accessFlags := 9, nameIndex := 40, descriptorIndex := 41, attributes := #[] }] 49 2 #[] #[])
  fields := #[]
  methods := #[k1m0, k1m1]
  instanceTypes := #[]
  staticTypes := #[]
  resolved := Array.replicate 45 none
  statics := none }

def pool2 : Array CpInfo := pool [(1, .methodref 2 3), (0, .class_ 4), (0, .nameAndType 5 6), (0, u "java/lang/Object"), (0, u "<init>"), (0, u "()V"), (0, .fieldref 8 9), (0, .class_ 10), (0, .nameAndType 11 12), (0, u "com/example/tenure/tenure/PathStep"), (0, u "name"), (0, u "Ljava/lang/String;"), (0, .fieldref 8 14), (0, .nameAndType 15 16), (0, u "index"), (0, u "J"), (9, .methodref 8 27), (0, .nameAndType 5 28), (0, u "(Ljava/lang/String;J)V"), (0, .fieldref 8 30), (0, .nameAndType 31 32), (0, u "ANY_ELEMENT"), (0, u "Lcom/example/tenure/tenure/PathStep;"), (7, .long 18446744073709551615), (3, u "isMember"), (0, u "()Z"), (5, u "isFree"), (3, u "FREE"), (3, u "element"), (0, u "(J)Lcom/example/tenure/tenure/PathStep;"), (1, u "anyElement"), (0, u "()Lcom/example/tenure/tenure/PathStep;"), (2, u "()Ljava/lang/String;"), (0, u "()J")] 25

def k2c0 : Code := { maxStack := 3, maxLocals := 4, code := prog_47_method_1_code, exceptionTable := #[], attributes := #[] }
def k2m0 : Method := { name := "<init>", desc := "(Ljava/lang/String;J)V", sig := { parameters := [(.object "java/lang/String"), .long], returnType := none }, accessFlags := 2, code := some k2c0 }
def k2c1 : Code := { maxStack := 5, maxLocals := 2, code := prog_47_method_2_code, exceptionTable := #[], attributes := #[] }
def k2m1 : Method := { name := "element", desc := "(J)Lcom/example/tenure/tenure/PathStep;", sig := { parameters := [.long], returnType := some (.object "com/example/tenure/tenure/PathStep") }, accessFlags := 9, code := some k2c1 }
def k2c2 : Code := { maxStack := 1, maxLocals := 0, code := prog_47_method_3_code, exceptionTable := #[], attributes := #[] }
def k2m2 : Method := { name := "anyElement", desc := "()Lcom/example/tenure/tenure/PathStep;", sig := { parameters := [], returnType := some (.object "com/example/tenure/tenure/PathStep") }, accessFlags := 9, code := some k2c2 }
def k2c3 : Code := { maxStack := 1, maxLocals := 1, code := prog_47_method_5_code, exceptionTable := #[], attributes := #[] }
def k2m3 : Method := { name := "isMember", desc := "()Z", sig := { parameters := [], returnType := some .boolean }, accessFlags := 0, code := some k2c3 }
def k2c4 : Code := { maxStack := 1, maxLocals := 1, code := prog_47_method_6_code, exceptionTable := #[], attributes := #[] }
def k2m4 : Method := { name := "name", desc := "()Ljava/lang/String;", sig := { parameters := [], returnType := some (.object "java/lang/String") }, accessFlags := 0, code := some k2c4 }
def k2c5 : Code := { maxStack := 4, maxLocals := 1, code := prog_47_method_7_code, exceptionTable := #[], attributes := #[] }
def k2m5 : Method := { name := "isFree", desc := "()Z", sig := { parameters := [], returnType := some .boolean }, accessFlags := 0, code := some k2c5 }
def k2c6 : Code := { maxStack := 2, maxLocals := 1, code := prog_47_method_8_code, exceptionTable := #[], attributes := #[] }
def k2m6 : Method := { name := "index", desc := "()J", sig := { parameters := [], returnType := some .long }, accessFlags := 0, code := some k2c6 }
/-- com/example/tenure/tenure/PathStep -/
def k2 : Class := { plain "com/example/tenure/tenure/PathStep" (some 0) with
  accessFlags := 49
  interfaces := #[]
  cf := some (fileOf pool2 8 #[] #[{ accessFlags := 2, nameIndex := 5, descriptorIndex := 28, attributes := #[] }, { accessFlags := 9, nameIndex := 59, descriptorIndex := 60, attributes := #[] }, { accessFlags := 9, nameIndex := 62, descriptorIndex := 63, attributes := #[] }, { accessFlags := 0, nameIndex := 44, descriptorIndex := 45, attributes := #[] }, { accessFlags := 0, nameIndex := 11, descriptorIndex := 66, attributes := #[] }, { accessFlags := 0, nameIndex := 51, descriptorIndex := 45, attributes := #[] }, { accessFlags := 0, nameIndex := 15, descriptorIndex := 67, attributes := #[] }] 49 2 #[] #[{ accessFlags := 26, nameIndex := 55, descriptorIndex := 16, attributes := #[] }, { accessFlags := 26, nameIndex := 31, descriptorIndex := 32, attributes := #[] }, { accessFlags := 18, nameIndex := 11, descriptorIndex := 12, attributes := #[] }, { accessFlags := 18, nameIndex := 15, descriptorIndex := 16, attributes := #[] }])
  fields := #[{ name := "FREE", type := .long, accessFlags := 26, slot := 0, constantValue := 0 }, { name := "ANY_ELEMENT", type := (.object "com/example/tenure/tenure/PathStep"), accessFlags := 26, slot := 1, constantValue := 0 }, { name := "name", type := (.object "java/lang/String"), accessFlags := 18, slot := 0, constantValue := 0 }, { name := "index", type := .long, accessFlags := 18, slot := 1, constantValue := 0 }]
  methods := #[k2m0, k2m1, k2m2, k2m3, k2m4, k2m5, k2m6]
  instanceTypes := #[(.object "java/lang/String"), .long]
  staticTypes := #[.long, (.object "com/example/tenure/tenure/PathStep")]
  resolved := Array.replicate 93 none
  statics := some 0 }

def pool3 : Array CpInfo := pool [(1, u "java/lang/Cloneable"), (0, .class_ 1), (0, u "java/lang/Object"), (0, .class_ 3)] 3

/-- java/lang/Cloneable -/
def k3 : Class := { plain "java/lang/Cloneable" (some 0) with
  accessFlags := 1537
  interfaces := #[]
  cf := some (fileOf pool3 2 #[] #[] 1537 4 #[] #[])
  fields := #[]
  methods := #[]
  instanceTypes := #[]
  staticTypes := #[]
  resolved := Array.replicate 8 none
  statics := none }

def pool4 : Array CpInfo := pool [(1, u "java/io/Serializable"), (0, .class_ 1), (0, u "java/lang/Object"), (0, .class_ 3)] 3

/-- java/io/Serializable -/
def k4 : Class := { plain "java/io/Serializable" (some 0) with
  accessFlags := 1537
  interfaces := #[]
  cf := some (fileOf pool4 2 #[] #[] 1537 4 #[] #[])
  fields := #[]
  methods := #[]
  instanceTypes := #[]
  staticTypes := #[]
  resolved := Array.replicate 8 none
  statics := none }

/-- the primitive byte -/
def k5 : Class := { plain "byte" none with kind := .primitive 'B', accessFlags := 0x411 }
/-- [B -/
def k6 : Class := { plain "[B" (some 0) with kind := .array 5 .byte, interfaces := #[3, 4], accessFlags := 1041 }

/-- the primitive int -/
def k7 : Class := { plain "int" none with kind := .primitive 'I', accessFlags := 0x411 }
/-- [I -/
def k8 : Class := { plain "[I" (some 0) with kind := .array 7 .int, interfaces := #[3, 4], accessFlags := 1041 }

def heap : Heap := #[{ cls := 2, slots := #[.long 0, .ref 1], vm := .statics 2 },
  { cls := 2, slots := #[.null, .long (-1)], vm := .none }]
def classes : Array Class := #[k0, k1, k2, k3, k4, k5, k6, k7, k8]
def interned : List (Array UInt16 × Addr) := []
def slotsUsed : Nat := 4
def theMethod : MethodId := ⟨1, 1⟩
def args0 : Array Value := #[.long 5]
def aboutOver (below : List Frame) : State where
  vm := { classes := classes, interned := interned.toArray }
  heap := heap
  slotsUsed := slotsUsed
  threads := #[{ frames := .invoking theMethod args0 :: below }]
def below0 : List Frame := [.native { method := ⟨0, 0⟩, args := #[] }]
def about1 : State := aboutOver below0
def p0 : Program := .bare "" "" ""
def e0 : Env := launch0.env 0 0 0
theorem w_frames : about1.frames = Frame.invoking theMethod args0 :: below0 := rfl
set_option maxRecDepth 65536 in
theorem w_args : argsFit about1.vm theMethod args0 = true := by decide +kernel
set_option maxRecDepth 65536 in
theorem w_heap : heapFits about1 = true := by decide +kernel
set_option maxRecDepth 65536 in
theorem w_runnable : about1.curStatus? = some .runnable := by decide +kernel
set_option maxRecDepth 65536 in
theorem w_alone : about1.alone = true := by decide +kernel
set_option maxRecDepth 65536 in
theorem w_named : about1.methodNamed? x = some theMethod := by decide +kernel
set_option maxRecDepth 65536 in
theorem w_hears : about1.hears theMethod below0 = true := by decide +kernel
set_option maxRecDepth 65536 in
theorem w_ripe : about1.ripe theMethod args0 below0 = true := by decide +kernel
theorem w_running : about1.status = .running := rfl
set_option maxRecDepth 65536 in
theorem w_room : about1.hasRoom e0.platform room_1 = true :=
  launch0.hasRoom_least _ room_1 (by decide +kernel) (by decide +kernel) (by decide +kernel) (by decide +kernel) (by decide +kernel) (by decide +kernel)
theorem allAtoms_all (ts : List Jvm.Cond) (a : Array Jvm.Value) (st : Jvm.State) : (allAtoms ts).before a st = ts.all (fun c => c.before a st) := by
  induction ts with
  | nil => rfl
  | cons c t ih =>
    show (Jvm.Cond.and c (allAtoms t)).before a st = _
    rw [Jvm.Cond.before_and, ih, List.all_cons]
def words1 : List Jvm.Cond := Jvm.Cond.code x code maxLocals ret :: tables_1
/-- a 'code' word, met by the world's own term for the bytes: nothing is compared byte by byte -/
theorem code_word {y : MethodName} {bytes : ByteArray} {mx : Nat} {rt : Option FieldType} {a : Array Value} {s : State} {m : MethodId} {meth : Method} {c : Code} (h1 : s.methodNamed? y = some m) (h2 : s.vm.method? m = some meth) (h3 : meth.code = some c) (h4 : c.code = bytes)
    (h5 : (c.maxLocals == mx && c.exceptionTable.isEmpty && decide (c.maxStack ≤ mostOperands) && decide (meth.sig.returnType = rt) && !meth.locks && decide (parseMethodDescriptor y.desc = some meth.sig)) = true) : (Jvm.Cond.code y bytes mx rt).before a s = true := by
  simp only [Bool.and_eq_true, beq_iff_eq, Bool.not_eq_true', decide_eq_true_eq] at h5
  obtain ⟨⟨⟨⟨⟨g1, g2⟩, g3⟩, g4⟩, g5⟩, g6⟩ := h5
  simp [Cond.before, Cond.holds, Cond.value, h1, h2, h3, h4, g1, g2, g3, g4, g5, g6]
def isCode : Jvm.Cond → Bool
  | .code _ _ _ _ => true
  | _ => false
theorem all_split {L : List Jvm.Cond} {P : Jvm.Cond → Bool} (h1 : L.all (fun c => isCode c || P c) = true) (h2 : ∀ c ∈ L.filter isCode, P c = true) : L.all P = true := by
  refine List.all_eq_true.mpr fun c hc => ?_
  have h := List.all_eq_true.mp h1 c hc
  rcases Bool.eq_false_or_eq_true (isCode c) with hi | hi
  · exact h2 c (List.mem_filter.mpr ⟨hc, hi⟩)
  · simpa [hi] using h
set_option maxRecDepth 65536 in
theorem w_c0 : (Jvm.Cond.code x code maxLocals ret).before args0 about1 = true := code_word (m := ⟨1, 1⟩) (meth := k1m1) (c := k1c1) (by decide +kernel) rfl rfl rfl (by decide +kernel)
set_option maxRecDepth 65536 in
theorem w_c1 : (Jvm.Cond.code ({ cls := "com/example/tenure/tenure/PathStep", name := "element", desc := "(J)Lcom/example/tenure/tenure/PathStep;" } : Jvm.MethodName) prog_47_method_2_code (2 : Nat) (Option.some (Jvm.ClassFile.FieldType.object "com/example/tenure/tenure/PathStep"))).before args0 about1 = true := code_word (m := ⟨2, 1⟩) (meth := k2m1) (c := k2c1) (by decide +kernel) rfl rfl rfl (by decide +kernel)
set_option maxRecDepth 65536 in
theorem w_c2 : (Jvm.Cond.code ({ cls := "com/example/tenure/tenure/PathStep", name := "<init>", desc := "(Ljava/lang/String;J)V" } : Jvm.MethodName) prog_47_method_1_code (4 : Nat) (Option.none : Option Jvm.ClassFile.FieldType)).before args0 about1 = true := code_word (m := ⟨2, 0⟩) (meth := k2m0) (c := k2c0) (by decide +kernel) rfl rfl rfl (by decide +kernel)
set_option maxRecDepth 65536 in
theorem w_c3 : (Jvm.Cond.code ({ cls := "java/lang/Object", name := "<init>", desc := "()V" } : Jvm.MethodName) object_method_1_code (1 : Nat) (Option.none : Option Jvm.ClassFile.FieldType)).before args0 about1 = true := code_word (m := ⟨0, 0⟩) (meth := k0m0) (c := k0c0) (by decide +kernel) rfl rfl rfl (by decide +kernel)
set_option maxRecDepth 65536 in
theorem w_c4 : (Jvm.Cond.code ({ cls := "com/example/tenure/tenure/PathStep", name := "isMember", desc := "()Z" } : Jvm.MethodName) prog_47_method_5_code (1 : Nat) (Option.some Jvm.ClassFile.FieldType.boolean)).before args0 about1 = true := code_word (m := ⟨2, 3⟩) (meth := k2m3) (c := k2c3) (by decide +kernel) rfl rfl rfl (by decide +kernel)
set_option maxRecDepth 65536 in
theorem w_c5 : (Jvm.Cond.code ({ cls := "com/example/tenure/tenure/PathStep", name := "name", desc := "()Ljava/lang/String;" } : Jvm.MethodName) prog_47_method_6_code (1 : Nat) (Option.some (Jvm.ClassFile.FieldType.object "java/lang/String"))).before args0 about1 = true := code_word (m := ⟨2, 4⟩) (meth := k2m4) (c := k2c4) (by decide +kernel) rfl rfl rfl (by decide +kernel)
set_option maxRecDepth 65536 in
theorem w_c6 : (Jvm.Cond.code ({ cls := "com/example/tenure/tenure/PathStep", name := "isFree", desc := "()Z" } : Jvm.MethodName) prog_47_method_7_code (1 : Nat) (Option.some Jvm.ClassFile.FieldType.boolean)).before args0 about1 = true := code_word (m := ⟨2, 5⟩) (meth := k2m5) (c := k2c5) (by decide +kernel) rfl rfl rfl (by decide +kernel)
set_option maxRecDepth 65536 in
theorem w_c7 : (Jvm.Cond.code ({ cls := "com/example/tenure/tenure/PathStep", name := "index", desc := "()J" } : Jvm.MethodName) prog_47_method_8_code (1 : Nat) (Option.some Jvm.ClassFile.FieldType.long)).before args0 about1 = true := code_word (m := ⟨2, 6⟩) (meth := k2m6) (c := k2c6) (by decide +kernel) rfl rfl rfl (by decide +kernel)
set_option maxRecDepth 65536 in
theorem w_c8 : (Jvm.Cond.code ({ cls := "com/example/tenure/tenure/PathStep", name := "anyElement", desc := "()Lcom/example/tenure/tenure/PathStep;" } : Jvm.MethodName) prog_47_method_3_code (0 : Nat) (Option.some (Jvm.ClassFile.FieldType.object "com/example/tenure/tenure/PathStep"))).before args0 about1 = true := code_word (m := ⟨2, 2⟩) (meth := k2m2) (c := k2c2) (by decide +kernel) rfl rfl rfl (by decide +kernel)
def codes1 : List Jvm.Cond := [Jvm.Cond.code x code maxLocals ret, Jvm.Cond.code ({ cls := "com/example/tenure/tenure/PathStep", name := "element", desc := "(J)Lcom/example/tenure/tenure/PathStep;" } : Jvm.MethodName) prog_47_method_2_code (2 : Nat) (Option.some (Jvm.ClassFile.FieldType.object "com/example/tenure/tenure/PathStep")), Jvm.Cond.code ({ cls := "com/example/tenure/tenure/PathStep", name := "<init>", desc := "(Ljava/lang/String;J)V" } : Jvm.MethodName) prog_47_method_1_code (4 : Nat) (Option.none : Option Jvm.ClassFile.FieldType), Jvm.Cond.code ({ cls := "java/lang/Object", name := "<init>", desc := "()V" } : Jvm.MethodName) object_method_1_code (1 : Nat) (Option.none : Option Jvm.ClassFile.FieldType), Jvm.Cond.code ({ cls := "com/example/tenure/tenure/PathStep", name := "isMember", desc := "()Z" } : Jvm.MethodName) prog_47_method_5_code (1 : Nat) (Option.some Jvm.ClassFile.FieldType.boolean), Jvm.Cond.code ({ cls := "com/example/tenure/tenure/PathStep", name := "name", desc := "()Ljava/lang/String;" } : Jvm.MethodName) prog_47_method_6_code (1 : Nat) (Option.some (Jvm.ClassFile.FieldType.object "java/lang/String")), Jvm.Cond.code ({ cls := "com/example/tenure/tenure/PathStep", name := "isFree", desc := "()Z" } : Jvm.MethodName) prog_47_method_7_code (1 : Nat) (Option.some Jvm.ClassFile.FieldType.boolean), Jvm.Cond.code ({ cls := "com/example/tenure/tenure/PathStep", name := "index", desc := "()J" } : Jvm.MethodName) prog_47_method_8_code (1 : Nat) (Option.some Jvm.ClassFile.FieldType.long), Jvm.Cond.code ({ cls := "com/example/tenure/tenure/PathStep", name := "anyElement", desc := "()Lcom/example/tenure/tenure/PathStep;" } : Jvm.MethodName) prog_47_method_3_code (0 : Nat) (Option.some (Jvm.ClassFile.FieldType.object "com/example/tenure/tenure/PathStep"))]
set_option maxRecDepth 65536 in
theorem codes_eq : words1.filter isCode = codes1 := rfl
theorem w_codes : ∀ c ∈ words1.filter isCode, c.before args0 about1 = true := by
  rw [codes_eq]
  intro c hc
  simp only [codes1, List.mem_cons, List.not_mem_nil, or_false] at hc
  rcases hc with rfl | rfl | rfl | rfl | rfl | rfl | rfl | rfl | rfl
  · exact w_c0
  · exact w_c1
  · exact w_c2
  · exact w_c3
  · exact w_c4
  · exact w_c5
  · exact w_c6
  · exact w_c7
  · exact w_c8
set_option maxRecDepth 65536 in
theorem w_t1 : (words1.take 24).all (fun c => isCode c || c.before args0 about1) = true := by decide +kernel
set_option maxRecDepth 65536 in
theorem w_t2 : (words1.drop 24).all (fun c => isCode c || c.before args0 about1) = true := by decide +kernel
theorem w_tables : (allAtoms (Jvm.Cond.code x code maxLocals ret :: tables_1)).before args0 about1 = true := by
  rw [allAtoms_all]
  show words1.all (fun c => c.before args0 about1) = true
  refine all_split ?_ w_codes
  rw [← List.take_append_drop 24 words1, List.all_append, w_t1, w_t2]
  rfl
set_option maxRecDepth 65536 in
theorem w_case : (Jvm.Cond.and given_1 narrow_1).before args0 about1 = true := by decide +kernel
theorem w_applies : (headSpec (Jvm.Cond.code x code maxLocals ret :: tables_1) room_1).applies x e0.platform about1 = true :=
  (Spec.applies_iff w_frames).mpr ⟨w_running, w_runnable, w_alone, w_named, w_hears, w_ripe, w_room, w_tables⟩
theorem atStart : AtStart classFile x code maxLocals ret World_1 tables_1 room_1 Calls_1 rest_1 Pre_1 launch0 p0 e0 about1 theMethod args0 below0 :=
  ⟨lists_1, trivial, launch0.admits_env _ _ _, launch0.least_env, fairChoices_fair.cas, fairChoices_fair.clock, w_frames, w_args, w_heap, w_applies, trivial, trivial, w_case⟩
end start1
theorem witness_1 : WitnessClaimed_1 := ⟨start1.p0, start1.e0, start1.about1, start1.theMethod, start1.args0, start1.below0, start1.atStart⟩
end Jvm.Pilot.@@N@@
