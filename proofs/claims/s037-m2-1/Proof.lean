import JvmDerived
import JvmDerived.Pilot.@@N@@Statement
import JvmDerived.Pilot.@@N@@Code
set_option linter.unusedVariables false
set_option linter.unusedSimpArgs false
namespace Jvm.Pilot.@@N@@
open Jvm Jvm.ClassFile Sem Op Lib Jvm.Free Jvm.Stand Jvm.LawKit Jvm.RoadKit Bundle Jvm.Pilot.@@N@@.Jvm.D
/-! own laws: the run from a state to the return, in continuation form -/
section OwnG
variable {p : Program} {l : Launch} {e : Env} {R : Room} {s : State} {m : MethodId} {args : Array Value} {below : List Frame} {meth : Method} {c : Code} {T : State} {locs : List Loc} {cells slots : Nat} {Z : State} {a0 : Array Value} {h : Heap} {Q : Option Value → Heap → List Loc → Prop} {ck sk : Nat}
def own_G (p : Program) (e : Env) (below : List Frame) (s : State) (Q : Option Value → Heap → List Loc → Prop) (ck sk : Nat) (U : State) : Prop :=
  ∃ s₂ o, Steps p.tables e below U s₂ ∧ s₂.status = .running ∧ Ended s₂ below o ∧ ∃ v L, o = .returned v ∧ Q v s₂.heap L ∧ FrameEnd s o s₂ L ck sk
theorem own_via {U U' : State} (k : ∀ t, Steps p.tables e below U' t → Steps p.tables e below U t) (g : own_G p e below s Q ck sk U') : own_G p e below s Q ck sk U := by
  obtain ⟨s2, o, h1, r⟩ := g
  exact ⟨s2, o, k _ h1, r⟩
theorem own_mono {Q' : Option Value → Heap → List Loc → Prop} {U : State} (k : ∀ v h L, Q v h L → Q' v h L) (g : own_G p e below s Q ck sk U) : own_G p e below s Q' ck sk U := by
  obtain ⟨s2, o, h1, h2, h3, v, L, h4, h5, h6⟩ := g
  exact ⟨s2, o, h1, h2, h3, v, L, h4, k _ _ _ h5, h6⟩
theorem own_ret (X : Stand p l e R s m args below meth c T locs cells slots) {v : Option Value} (hv : meth.sig.returnType = none → v = none) (hlk : meth.locks = false) {f : JFrame}
    (st : ∀ fs, (∀ (f : JFrame) (acts : List Action), f.method = m → f.locked = none → f.entered = [] → (doReturn e (T.setTop f) acts v).1 = T.setFrames fs) → Steps p.tables e below (T.setTop f) (T.setFrames fs))
    (hQ : Q v T.heap locs) (hc : cells ≤ ck) (hs : slots ≤ sk) : own_G p e below s Q ck sk (T.setTop f) := by
  obtain ⟨fs, hr, hrun, hended, hW, hsame⟩ := X.leave (v := v) hv hlk
  exact ⟨_, _, st fs hr, hrun, hended, _, _, rfl, hQ, ⟨_, rfl⟩, hW, hsame.mono hc hs⟩
theorem own_callS (X : Stand p l e R s m args below meth c T locs cells slots) (hx : p.tables.exec = Jvm.exec) (hZ : Z.Warmed39 s.vm) {own : String} {index : Nat} {y : MethodName} {bytes : ByteArray} {maxL : Nat} {ret : Option FieldType} {rm : Room} {as' : Array Value} {W : Nat}
    (hown : s.vm.findClass own = some m.cls) (w1 : (Jvm.Cond.methodLink own index y).before a0 Z = true) (w2 : (Jvm.Cond.static y).before a0 Z = true) (w3 : (Jvm.Cond.initialized y.cls).before a0 Z = true) (w4 : (Jvm.Cond.code y bytes maxL ret).before a0 Z = true)
    (hy : y.cls ≠ "java/lang/invoke/MethodHandle" ∧ y.cls ≠ "java/lang/invoke/VarHandle")
    (hM : MetFree l y (head1 [Jvm.Cond.code y bytes maxL ret] rm) (fun a U => a = as' ∧ Z.Warmed39 U.vm ∧ U.heap = h) (fun _ _ _ _ _ => True) (fun _ U o U' => ∃ v L, o = .returned v ∧ Q v U'.heap L ∧ FrameEnd U o U' L rm.cells rm.slots))
    (hf : rm.frames + 1 ≤ R.frames) (hl : W + (maxL + 11) + rm.locals ≤ R.locals) (eT : T.heap = h)
    {g : JFrame} (hg : g.method = m) (hsize : g.locals.size = c.maxLocals) {argsL rest : List Value} (has : argsL.toArray = as') (hlen : ∀ sig, parseMethodDescriptor y.desc = some sig → argsL.length = sig.parameters.length)
    (hstack : g.stack = argsL.reverse ++ rest) (hW : 2 * g.monitorRoom + (rest.map fun v => v.category).sum ≤ W) (hdg : decode c.code g.pc = .ok (.invokestatic index, 3))
    (hcells : cells + rm.cells ≤ R.cells) (hslots : slots + rm.slots ≤ R.slots) :
    ∃ v T' L', Stand p l e R s m args below meth c T' (locs ++ L') (cells + rm.cells) (slots + rm.slots) ∧ Q v T'.heap L' ∧ ∀ t, Steps p.tables e below (T'.setTop { g with pc := g.pc + 3, stack := v.toList ++ rest }) t → Steps p.tables e below (T.setTop g) t := by
  obtain ⟨v, vm1, ⟨T', L', k', n'⟩, -, X', ⟨Lc, hQ, q1, q2, q3⟩, st⟩ := Jvm.LawKit.callS X hx hown (mvT hZ w1) (mvT hZ w2) (mvT hZ w3) (mvT hZ w4) hy (backOf (W := W) hM hZ w4 w3 hf hl) hg hsize hlen hstack hW hdg (fun _ _ => ⟨has, eT, hcells, hslots⟩)
  dsimp only [Pt.U, Pt.locs, Pt.cells, Pt.slots] at X' q1 q2 q3 st hQ
  subst q1 q2 q3
  exact ⟨v, T', Lc, X', hQ, st⟩
theorem own_callI (X : Stand p l e R s m args below meth c T locs cells slots) (hx : p.tables.exec = Jvm.exec) (hZ : Z.Warmed39 s.vm) {own : String} {index : Nat} {y : MethodName} (hy1 : y.name = "<init>") {bytes : ByteArray} {maxL : Nat} {rm : Room} {as' : Array Value} {W : Nat}
    (hown : s.vm.findClass own = some m.cls) (w1 : (Jvm.Cond.methodLink own index y).before a0 Z = true) (w2 : (Jvm.Cond.instanceMethod y).before a0 Z = true) (w3 : (Jvm.Cond.initialized y.cls).before a0 Z = true) (w4 : (Jvm.Cond.code y bytes maxL none).before a0 Z = true)
    (hy : y.cls ≠ "java/lang/invoke/MethodHandle" ∧ y.cls ≠ "java/lang/invoke/VarHandle")
    (hM : MetFree l y (head1 [Jvm.Cond.code y bytes maxL none] rm) (fun a U => a = as' ∧ Z.Warmed39 U.vm ∧ U.heap = h) (fun _ _ _ _ _ => True) (fun _ U o U' => ∃ v L, o = .returned v ∧ Q v U'.heap L ∧ FrameEnd U o U' L rm.cells rm.slots))
    (hf : rm.frames + 1 ≤ R.frames) (hl : W + (maxL + 11) + rm.locals ≤ R.locals) (eT : T.heap = h)
    {g : JFrame} (hg : g.method = m) (hsize : g.locals.size = c.maxLocals) {a : Addr} {argsL rest : List Value} (has : (.ref a :: argsL).toArray = as') (hlen : ∀ sig, parseMethodDescriptor y.desc = some sig → argsL.length = sig.parameters.length)
    (hstack : g.stack = argsL.reverse ++ .ref a :: rest) (hW : 2 * g.monitorRoom + (rest.map fun v => v.category).sum ≤ W) (hdg : decode c.code g.pc = .ok (.invokespecial index, 3))
    (hcells : cells + rm.cells ≤ R.cells) (hslots : slots + rm.slots ≤ R.slots) :
    ∃ v T' L', Stand p l e R s m args below meth c T' (locs ++ L') (cells + rm.cells) (slots + rm.slots) ∧ Q v T'.heap L' ∧ ∀ t, Steps p.tables e below (T'.setTop { g with pc := g.pc + 3, stack := v.toList ++ rest }) t → Steps p.tables e below (T.setTop g) t := by
  obtain ⟨v, vm1, ⟨T', L', k', n'⟩, -, X', ⟨Lc, hQ, q1, q2, q3⟩, st⟩ := X.specialBack hx hy1 hown (mvT hZ w1) (mvT hZ w2) (mvT hZ w4) hy (backOf (W := W) hM hZ w4 w3 hf hl) hg hsize (Steps.refl _) hlen hstack hW hdg (fun _ _ => ⟨has, eT, hcells, hslots⟩)
  dsimp only [Pt.U, Pt.locs, Pt.cells, Pt.slots] at X' q1 q2 q3 st hQ
  subst q1 q2 q3
  exact ⟨v, T', Lc, X', hQ, fun t k => st.trans k⟩
theorem own_callV (X : Stand p l e R s m args below meth c T locs cells slots) (hx : p.tables.exec = Jvm.exec) (hZ : Z.Warmed39 s.vm) {own : String} {index : Nat} {y : MethodName} {bytes : ByteArray} {maxL : Nat} {ret : Option FieldType} {rm : Room} {as' : Array Value} {W : Nat} {C : String}
    (hown : s.vm.findClass own = some m.cls) (w1 : (Jvm.Cond.methodLink own index y).before a0 Z = true) (w2 : (Jvm.Cond.declares y).before a0 Z = true) (w5 : (Jvm.Cond.selects C y y).before a0 Z = true) (w6 : (Jvm.Cond.instanceMethod y).before a0 Z = true) (w3 : (Jvm.Cond.initialized y.cls).before a0 Z = true) (w4 : (Jvm.Cond.code y bytes maxL ret).before a0 Z = true)
    (hy : y.cls ≠ "java/lang/invoke/MethodHandle" ∧ y.cls ≠ "java/lang/invoke/VarHandle")
    (hM : MetFree l y (head1 [Jvm.Cond.code y bytes maxL ret] rm) (fun a U => a = as' ∧ Z.Warmed39 U.vm ∧ U.heap = h) (fun _ _ _ _ _ => True) (fun _ U o U' => ∃ v L, o = .returned v ∧ Q v U'.heap L ∧ FrameEnd U o U' L rm.cells rm.slots))
    (hf : rm.frames + 1 ≤ R.frames) (hl : W + (maxL + 11) + rm.locals ≤ R.locals) (eT : T.heap = h) {b : Addr} (E : Exa Z h b C)
    {g : JFrame} (hg : g.method = m) (hsize : g.locals.size = c.maxLocals) {argsL rest : List Value} (has : (.ref b :: argsL).toArray = as') (hlen : ∀ sig, parseMethodDescriptor y.desc = some sig → argsL.length = sig.parameters.length)
    (hstack : g.stack = argsL.reverse ++ .ref b :: rest) (hW : 2 * g.monitorRoom + (rest.map fun v => v.category).sum ≤ W) (hdg : decode c.code g.pc = .ok (.invokevirtual index, 3))
    (hcells : cells + rm.cells ≤ R.cells) (hslots : slots + rm.slots ≤ R.slots) :
    ∃ v T' L', Stand p l e R s m args below meth c T' (locs ++ L') (cells + rm.cells) (slots + rm.slots) ∧ Q v T'.heap L' ∧ ∀ t, Steps p.tables e below (T'.setTop { g with pc := g.pc + 3, stack := v.toList ++ rest }) t → Steps p.tables e below (T.setTop g) t := by
  obtain ⟨cq, kq, qa, qb, qc⟩ := isOf hZ eT E
  obtain ⟨v, vm1, ⟨T', L', k', n'⟩, -, X', ⟨Lc, hQ, q1, q2, q3⟩, st⟩ := X.virtualBack hx hown (mvT hZ w1) (mvT hZ w2) (notFace_of_selects (args := #[]) (mvT hZ w5)) (mvT hZ w5) (mvT hZ w6) hy (backOf (W := W) hM hZ w4 w3 hf hl) qa qc hg hsize (Steps.refl _) hlen hstack hW hdg (fun _ _ => ⟨has, eT, hcells, hslots⟩)
  dsimp only [Pt.U, Pt.locs, Pt.cells, Pt.slots] at X' q1 q2 q3 st hQ
  subst q1 q2 q3
  exact ⟨v, T', Lc, X', hQ, fun t k => st.trans k⟩
end OwnG
theorem own_jlt {x y : Int64} (h : x < y) : ifCond.holds .lt (lcmpW x y) = true ∧ ifCond.holds .ge (lcmpW x y) = false := by
  have q := (lw_lt x y).mpr h
  exact ⟨(if0 _ _).trans (tlt q).1, (if0 _ _).trans (tlt q).2.1⟩
theorem own_jnlt {x y : Int64} (h : ¬ x < y) : ifCond.holds .lt (lcmpW x y) = false ∧ ifCond.holds .ge (lcmpW x y) = true := by
  have q := fun z => h ((lw_lt x y).mp z)
  exact ⟨(if0 _ _).trans (flt q).1, (if0 _ _).trans (flt q).2.1⟩
theorem own_jgt {x y : Int64} (h : y < x) : ifCond.holds .gt (lcmpW x y) = true ∧ ifCond.holds .le (lcmpW x y) = false := by
  have q := (lw_gt x y).mpr h
  exact ⟨(if0 _ _).trans (tlt q).2.2.1, (if0 _ _).trans (tlt q).2.2.2⟩
theorem own_jngt {x y : Int64} (h : ¬ y < x) : ifCond.holds .gt (lcmpW x y) = false ∧ ifCond.holds .le (lcmpW x y) = true := by
  have q := fun z => h ((lw_gt x y).mp z)
  exact ⟨(if0 _ _).trans (flt q).2.2.1, (if0 _ _).trans (flt q).2.2.2⟩
theorem own_jeq {x y : Int64} (h : x = y) : ifCond.holds .eq (lcmpW x y) = true ∧ ifCond.holds .ne (lcmpW x y) = false := by
  have q := (lw_eq x y).mpr h
  exact ⟨(if0 _ _).trans (teq q).1, (if0 _ _).trans (teq q).2⟩
theorem own_jne {x y : Int64} (h : ¬ x = y) : ifCond.holds .eq (lcmpW x y) = false ∧ ifCond.holds .ne (lcmpW x y) = true := by
  have q := fun z => h ((lw_eq x y).mp z)
  exact ⟨(if0 _ _).trans (feq q).1, (if0 _ _).trans (feq q).2⟩
theorem own_sta_keep {Z : State} {h h' : Heap} {C n d : String} {v : Value} {ws : List Addr} (F : Sta Z h C n d v) (K : Keep h h' ws) (q : ∀ x ∈ ws, ∃ cell : Cell, h[x]? = some cell ∧ cell.vm.isStatics = false) : Sta Z h' C n d v := by
  obtain ⟨cf, i, k, f, st, cell, h1, h2, h3, h4, h5, h6, h7⟩ := F
  refine ⟨cf, i, k, f, st, cell, h1, h2, h3, h4, K.2.1 st cell h5 (fun hm => ?_), h6, h7⟩
  obtain ⟨c', e1, e2⟩ := q st hm
  cases h5.symm.trans e1
  rw [e2] at h6; cases h6
theorem own_exa_ns {Z : State} {h : Heap} {a : Addr} {C : String} (E : Exa Z h a C) : ∃ cell : Cell, h[a]? = some cell ∧ cell.vm.isStatics = false := by
  obtain ⟨cell, k, h1, -, -, h4, -⟩ := E
  exact ⟨cell, h1, h4⟩
theorem own_arv_ns {Z : State} {h : Heap} {a : Addr} {k : ClassId} {ty : FieldType} {z : Int32} {vs : List Value} {dv : Value} (F : Arv Z h a k ty z vs dv) : ∃ cell : Cell, h[a]? = some cell ∧ cell.vm.isStatics = false := by
  obtain ⟨c, A, -⟩ := F
  exact ⟨c, A.1, A.plain⟩
theorem own_seg {tb : Tables} {e : Env} {below : List Frame} {U U' t : State} (a : Steps tb e below U' t → Steps tb e below U t) (b : Steps tb e below U' t) : Steps tb e below U t := a b
theorem own_NSroot {Z : State} {a0 : Array Value} {O K : String} {n : Nat} (w : (Jvm.Cond.noSuperclass O).before a0 Z = true) (wk : (Jvm.Cond.instantiable K n).before a0 Z = true) (hn : O ≠ K) : NS Z O K := by
  obtain ⟨c, k, h1, h2, h3, -, -⟩ := Cond.noSuperclass_spec w
  obtain ⟨t, kt, g1, -⟩ := Cond.instantiable_spec wk
  refine ⟨c, t, h1, g1, fun fuel => ?_⟩
  have ne := ids_ne h1 g1 hn
  cases fuel <;> simp [Vm.isSubclassAux, ne, h2, h3]
theorem own_NSno {Z : State} {a0 : Array Value} {C S K : String} {n : Nat} (w : (Jvm.Cond.superclass C S).before a0 Z = true) (wk : (Jvm.Cond.instantiable K n).before a0 Z = true) (nn : NS Z C K) (hn : C ≠ K) : ∃ c t, Z.vm.findClass C = some c ∧ Z.vm.findClass K = some t ∧ Z.vm.assignable c t = false := by
  obtain ⟨c, t, h0, g0, n3⟩ := nn
  obtain ⟨p, k, kp, h1, h2, h3, h4, h5, -, h7⟩ := Cond.superclass_spec h0 w
  obtain ⟨t', kt, g1, g2, g3, g4, -⟩ := Cond.instantiable_spec wk
  cases g0.symm.trans g1
  have g7 : kt.isInterface = false := by cases q : kt.isInterface <;> simp [q] at g4 ⊢
  have ne := ids_ne h0 g0 hn
  refine ⟨c, t, h0, g0, ?_⟩
  show Z.vm.assignableAux (255 + 1) c t = false
  simp [Vm.assignableAux, ne, h2, g2, h5, g3, g7, Vm.isSubclass, n3]
theorem own_lsz {args : Array Value} {s : State} {t : Term} {a : Addr} {c : Cell} {v : Value} (ht : t.eval args s none [] s = some (.ref a)) (ha : s.arrayAt? a = some c) (h : (Jvm.Term.length t).eval args s none [] s = some v) : c.slots.size < 2 ^ 31 := by
  by_cases q : c.slots.size < 2147483648
  · exact q
  · simp [Term.eval, ht, ha, q] at h
theorem own_idx {j : Int32} (hj : ¬ j < 0) : j.toNatClampNeg.toInt32 = j := (back32 hj).1
def Qrec (Z : State) (o : Addr) (h0 : Heap) (n0 : Nat) (v : Option Value) (h : Heap) (L : List Loc) : Prop := v = none ∧ Fr n0 L ∧ h = h0
theorem d_jdk_30_method_1_0 : decode jdk_30_method_1_code 0 = .ok (.aload_n 0, 1) := by decide +kernel
theorem d_jdk_30_method_1_1 : decode jdk_30_method_1_code 1 = .ok (.invokespecial 1, 3) := by decide +kernel
theorem d_jdk_30_method_1_4 : decode jdk_30_method_1_code 4 = .ok (.return_, 1) := by decide +kernel
theorem ef_rm_Qrec (m : MethodId) (x0 : Addr) : entryFrame m #[(.ref x0)] 1 = mkF m 0 #[.val (.ref x0)] [] := by first | (simp [entryFrame, mkF, argsToLocals, Value.category]; done) | rfl
theorem pn_java_lang_Record : plainName "java/lang/Record" = true := by first | (simp [plainName, overriddenIn]; done) | decide +kernel
set_option maxRecDepth 65536 in
set_option maxHeartbeats 40000000 in
theorem rm_Qrec (l : Launch) (Z : State) (a0 : Array Value) (hw : ∀ d ∈ tables_1, d.before a0 Z = true) (ws : List Jvm.Cond) (o : Addr) (h0 : Heap) (n0 : Nat) (Z0 : n0 ≤ h0.size) :
    MetFree l (⟨"java/lang/Record", "<init>", "()V"⟩ : MethodName) (head1 (Jvm.Cond.code (⟨"java/lang/Record", "<init>", "()V"⟩ : MethodName) jdk_30_method_1_code 1 none :: ws) ({ frames := 1, cells := 0, slots := 0, locals := 12 } : Room)) (fun aa_ UU_ => aa_ = #[(.ref o)] ∧ Z.Warmed39 UU_.vm ∧ UU_.heap = h0) (fun _ _ _ _ _ => True) (fun _ UU_ oo_ VV_ => ∃ vv_ LL_, oo_ = .returned vv_ ∧ Qrec Z o h0 n0 vv_ VV_.heap LL_ ∧ FrameEnd UU_ oo_ VV_ LL_ ({ frames := 1, cells := 0, slots := 0, locals := 12 } : Room).cells ({ frames := 1, cells := 0, slots := 0, locals := 12 } : Room).slots) := by
  refine MetFree.of_bodySF (plainFor_of_name pn_java_lang_Record) hisR ?_
  intro p e s m args below meth c s₁ Bd hml0 hP hK
  obtain ⟨rfl, hZ, hh⟩ := hP
  have hx := Bd.exec
  have hby := Bd.bytes
  have hml : c.maxLocals = 1 := hml0
  have hown : s.vm.findClass "java/lang/Record" = some m.cls := findClass_of_methodNamed Bd.named
  have hnm := (name_of_methodNamed Bd.named Bd.method).1
  have hlk : meth.locks = false := Bd.notSynchronized
  have X0 : Stand p l e ({ frames := 1, cells := 0, slots := 0, locals := 12 } : Room) s m #[(.ref o)] below meth c s₁ [] 0 0 := Stand.of_body Bd
  have e0 : s₁.heap = h0 := by rw [← hh, Bd.state]; rfl
  have N0 := Fr.nil n0
  have K0 := Keep.refl h0 []
  show own_G p e below s (Qrec Z o h0 n0) _ _ (s₁.setTop (entryFrame m #[(.ref o)] 1))
  rw [ef_rm_Qrec m o]
  refine own_via (U' := s₁.setTop (mkF m 1 #[.val (.ref o)] [(.ref o)])) (fun t k => XS.aloadN X0.here hx rfl (hb hby d_jdk_30_method_1_0) rfl rfl k) ?_
  obtain ⟨T1, X1, e1, st1⟩ := initO X0 hx hZ hown (hw _ (List.mem_of_getElem? (i := 11) rfl)) (hw _ (List.mem_of_getElem? (i := 12) rfl)) (hw _ (List.mem_of_getElem? (i := 13) rfl)) e0 (g := (mkF m 1 #[.val (.ref o)] [(.ref o)])) rfl (by rw [hml]; rfl) rfl (hb hby d_jdk_30_method_1_1) (by decide) (W := 0) (by show 2 * 0 + _ ≤ _; exact Nat.le_of_eq rfl) (by decide)
  refine own_via (U' := T1.setTop (mkF m 4 #[.val (.ref o)] [])) (fun t k => st1 t k) ?_
  exact own_ret X1 (v := none) (fun _ => rfl) hlk (fun fs hr => X1.returnOut hx Bd.returns (hb hby d_jdk_30_method_1_4) hr) (by rw [e1]; exact ⟨rfl, N0, rfl⟩) (by decide) (by decide)
theorem own_box (x : Int64) (h1 : ¬ x < (-128 : Int64)) (h2 : ¬ (127 : Int64) < x) : ¬ (((x.toInt32) + (128 : Int32)) < 0 ∨ 256 ≤ ((x.toInt32) + (128 : Int32)).toNatClampNeg) := by
  have e1 : (-128 : Int64).toInt = -128 := by decide
  have e2 : (127 : Int64).toInt = 127 := by decide
  have e3 : (128 : Int32).toInt = 128 := by decide
  have e0 : (0 : Int32).toInt = 0 := by decide
  rw [Int64.lt_iff_toInt_lt] at h1 h2
  have k1 := c_l2i x
  have k2 := c_iadd x.toInt32 128
  have r1 := rng32 x.toInt32
  have r2 := rng32 (x.toInt32 + 128)
  rw [Int32.lt_iff_toInt_lt]
  simp only [Int32.toNatClampNeg]
  omega
theorem own_256 : (256 : Int32).toNatClampNeg = 256 := by decide
def Qnum (Z : State) (o : Addr) (h0 : Heap) (n0 : Nat) (v : Option Value) (h : Heap) (L : List Loc) : Prop := v = none ∧ Fr n0 L ∧ h = h0
theorem d_jdk_18_method_1_0 : decode jdk_18_method_1_code 0 = .ok (.aload_n 0, 1) := by decide +kernel
theorem d_jdk_18_method_1_1 : decode jdk_18_method_1_code 1 = .ok (.invokespecial 1, 3) := by decide +kernel
theorem d_jdk_18_method_1_4 : decode jdk_18_method_1_code 4 = .ok (.return_, 1) := by decide +kernel
theorem ef_rm_Qnum (m : MethodId) (x0 : Addr) : entryFrame m #[(.ref x0)] 1 = mkF m 0 #[.val (.ref x0)] [] := by first | (simp [entryFrame, mkF, argsToLocals, Value.category]; done) | rfl
theorem pn_java_lang_Number : plainName "java/lang/Number" = true := by first | (simp [plainName, overriddenIn]; done) | decide +kernel
set_option maxRecDepth 65536 in
set_option maxHeartbeats 40000000 in
theorem rm_Qnum (l : Launch) (Z : State) (a0 : Array Value) (hw : ∀ d ∈ tables_1, d.before a0 Z = true) (ws : List Jvm.Cond) (o : Addr) (h0 : Heap) (n0 : Nat) (Z0 : n0 ≤ h0.size) :
    MetFree l (⟨"java/lang/Number", "<init>", "()V"⟩ : MethodName) (head1 (Jvm.Cond.code (⟨"java/lang/Number", "<init>", "()V"⟩ : MethodName) jdk_18_method_1_code 1 none :: ws) ({ frames := 1, cells := 0, slots := 0, locals := 12 } : Room)) (fun aa_ UU_ => aa_ = #[(.ref o)] ∧ Z.Warmed39 UU_.vm ∧ UU_.heap = h0) (fun _ _ _ _ _ => True) (fun _ UU_ oo_ VV_ => ∃ vv_ LL_, oo_ = .returned vv_ ∧ Qnum Z o h0 n0 vv_ VV_.heap LL_ ∧ FrameEnd UU_ oo_ VV_ LL_ ({ frames := 1, cells := 0, slots := 0, locals := 12 } : Room).cells ({ frames := 1, cells := 0, slots := 0, locals := 12 } : Room).slots) := by
  refine MetFree.of_bodySF (plainFor_of_name pn_java_lang_Number) hisR ?_
  intro p e s m args below meth c s₁ Bd hml0 hP hK
  obtain ⟨rfl, hZ, hh⟩ := hP
  have hx := Bd.exec
  have hby := Bd.bytes
  have hml : c.maxLocals = 1 := hml0
  have hown : s.vm.findClass "java/lang/Number" = some m.cls := findClass_of_methodNamed Bd.named
  have hnm := (name_of_methodNamed Bd.named Bd.method).1
  have hlk : meth.locks = false := Bd.notSynchronized
  have X0 : Stand p l e ({ frames := 1, cells := 0, slots := 0, locals := 12 } : Room) s m #[(.ref o)] below meth c s₁ [] 0 0 := Stand.of_body Bd
  have e0 : s₁.heap = h0 := by rw [← hh, Bd.state]; rfl
  have N0 := Fr.nil n0
  have K0 := Keep.refl h0 []
  show own_G p e below s (Qnum Z o h0 n0) _ _ (s₁.setTop (entryFrame m #[(.ref o)] 1))
  rw [ef_rm_Qnum m o]
  refine own_via (U' := s₁.setTop (mkF m 1 #[.val (.ref o)] [(.ref o)])) (fun t k => XS.aloadN X0.here hx rfl (hb hby d_jdk_18_method_1_0) rfl rfl k) ?_
  obtain ⟨T1, X1, e1, st1⟩ := initO X0 hx hZ hown (hw _ (List.mem_of_getElem? (i := 52) rfl)) (hw _ (List.mem_of_getElem? (i := 12) rfl)) (hw _ (List.mem_of_getElem? (i := 13) rfl)) e0 (g := (mkF m 1 #[.val (.ref o)] [(.ref o)])) rfl (by rw [hml]; rfl) rfl (hb hby d_jdk_18_method_1_1) (by decide) (W := 0) (by show 2 * 0 + _ ≤ _; exact Nat.le_of_eq rfl) (by decide)
  refine own_via (U' := T1.setTop (mkF m 4 #[.val (.ref o)] [])) (fun t k => st1 t k) ?_
  exact own_ret X1 (v := none) (fun _ => rfl) hlk (fun fs hr => X1.returnOut hx Bd.returns (hb hby d_jdk_18_method_1_4) hr) (by rw [e1]; exact ⟨rfl, N0, rfl⟩) (by decide) (by decide)
def Qli (Z : State) (o : Addr) (x1 : Int64) (h0 : Heap) (n0 : Nat) (v : Option Value) (h : Heap) (L : List Loc) : Prop := v = none ∧ Fr n0 L ∧ Keep h0 h [o] ∧ Exa Z h o "java/lang/Long" ∧ Fld Z h o "java/lang/Long" "value" "J" (.long x1)
theorem d_jdk_35_method_26_0 : decode jdk_35_method_26_code 0 = .ok (.aload_n 0, 1) := by decide +kernel
theorem pd___V : parseMethodDescriptor "()V" = some ⟨[], none⟩ := by decide +kernel
theorem d_jdk_35_method_26_1 : decode jdk_35_method_26_code 1 = .ok (.invokespecial 270, 3) := by decide +kernel
theorem d_jdk_35_method_26_4 : decode jdk_35_method_26_code 4 = .ok (.aload_n 0, 1) := by decide +kernel
theorem d_jdk_35_method_26_5 : decode jdk_35_method_26_code 5 = .ok (.lload_n 1, 1) := by decide +kernel
theorem d_jdk_35_method_26_6 : decode jdk_35_method_26_code 6 = .ok (.putfield 273, 3) := by decide +kernel
theorem d_jdk_35_method_26_9 : decode jdk_35_method_26_code 9 = .ok (.return_, 1) := by decide +kernel
theorem ef_rm_Qli (m : MethodId) (x0 : Addr) (x1 : Int64) : entryFrame m #[(.ref x0), (.long x1)] 3 = mkF m 0 #[.val (.ref x0), .val (.long x1), .second] [] := by first | (simp [entryFrame, mkF, argsToLocals, Value.category]; done) | rfl
theorem pn_java_lang_Long : plainName "java/lang/Long" = true := by first | (simp [plainName, overriddenIn]; done) | decide +kernel
set_option maxRecDepth 65536 in
set_option maxHeartbeats 40000000 in
theorem rm_Qli (l : Launch) (Z : State) (a0 : Array Value) (hw : ∀ d ∈ tables_1, d.before a0 Z = true) (ws : List Jvm.Cond) (o : Addr) (x1 : Int64) (h0 : Heap) (n0 : Nat) (Z0 : n0 ≤ h0.size) (Eo : Exa Z h0 o "java/lang/Long") (F_value : Fld Z h0 o "java/lang/Long" "value" "J" (.long (0 : Int64))) (gn_o : n0 ≤ o) :
    MetFree l (⟨"java/lang/Long", "<init>", "(J)V"⟩ : MethodName) (head1 (Jvm.Cond.code (⟨"java/lang/Long", "<init>", "(J)V"⟩ : MethodName) jdk_35_method_26_code 3 none :: ws) ({ frames := 2, cells := 0, slots := 0, locals := 24 } : Room)) (fun aa_ UU_ => aa_ = #[(.ref o), (.long x1)] ∧ Z.Warmed39 UU_.vm ∧ UU_.heap = h0) (fun _ _ _ _ _ => True) (fun _ UU_ oo_ VV_ => ∃ vv_ LL_, oo_ = .returned vv_ ∧ Qli Z o x1 h0 n0 vv_ VV_.heap LL_ ∧ FrameEnd UU_ oo_ VV_ LL_ ({ frames := 2, cells := 0, slots := 0, locals := 24 } : Room).cells ({ frames := 2, cells := 0, slots := 0, locals := 24 } : Room).slots) := by
  refine MetFree.of_bodySF (plainFor_of_name pn_java_lang_Long) hisR ?_
  intro p e s m args below meth c s₁ Bd hml0 hP hK
  obtain ⟨rfl, hZ, hh⟩ := hP
  have hx := Bd.exec
  have hby := Bd.bytes
  have hml : c.maxLocals = 3 := hml0
  have hown : s.vm.findClass "java/lang/Long" = some m.cls := findClass_of_methodNamed Bd.named
  have hnm := (name_of_methodNamed Bd.named Bd.method).1
  have hlk : meth.locks = false := Bd.notSynchronized
  have X0 : Stand p l e ({ frames := 2, cells := 0, slots := 0, locals := 24 } : Room) s m #[(.ref o), (.long x1)] below meth c s₁ [] 0 0 := Stand.of_body Bd
  have e0 : s₁.heap = h0 := by rw [← hh, Bd.state]; rfl
  have N0 := Fr.nil n0
  have K0 := Keep.refl h0 [o]
  show own_G p e below s (Qli Z o x1 h0 n0) _ _ (s₁.setTop (entryFrame m #[(.ref o), (.long x1)] 3))
  rw [ef_rm_Qli m o x1]
  refine own_via (U' := s₁.setTop (mkF m 1 #[.val (.ref o), .val (.long x1), .second] [(.ref o)])) (fun t k => XS.aloadN X0.here hx rfl (hb hby d_jdk_35_method_26_0) rfl rfl k) ?_
  obtain ⟨_, T1, L1, X1, hQ1, st1⟩ := own_callI X0 hx hZ (y := (⟨"java/lang/Number", "<init>", "()V"⟩ : MethodName)) rfl (W := 0) hown (hw _ (List.mem_of_getElem? (i := 46) rfl)) (hw _ (List.mem_of_getElem? (i := 47) rfl)) (hw _ (List.mem_of_getElem? (i := 50) rfl)) (hw _ (List.mem_of_getElem? (i := 51) rfl)) (by decide) (rm_Qnum l Z a0 hw [] o h0 n0 Z0) (by decide) (by decide) e0 (a := o) (g := (mkF m 1 #[.val (.ref o), .val (.long x1), .second] [(.ref o)])) rfl (by rw [hml]; rfl) (argsL := []) (rest := []) rfl (lenOf pd___V rfl) rfl (by show 2 * 0 + _ ≤ _; exact Nat.le_of_eq rfl) (hb hby d_jdk_35_method_26_1) (by decide) (by decide)
  obtain ⟨rfl, N1q, e1⟩ := hQ1
  have N1 := Fr.app N0 N1q
  refine own_via (U' := T1.setTop (mkF m 4 #[.val (.ref o), .val (.long x1), .second] [])) (fun t k => st1 t k) ?_
  refine own_via (U' := T1.setTop (mkF m 5 #[.val (.ref o), .val (.long x1), .second] [(.ref o)])) (fun t k => XS.aloadN X1.here hx rfl (hb hby d_jdk_35_method_26_4) rfl rfl k) ?_
  refine own_via (U' := T1.setTop (mkF m 6 #[.val (.ref o), .val (.long x1), .second] [(.long x1), (.ref o)])) (fun t k => XS.lloadN X1.here hx rfl (hb hby d_jdk_35_method_26_5) rfl k) ?_
  obtain ⟨T2, h2, X2, e2, W2, st2⟩ := putF (host := "") X1 hx hZ hown (Or.inl (hw _ (List.mem_of_getElem? (i := 53) rfl))) Via.refl e1 F_value Eo (Or.inr ⟨(hw _ (List.mem_of_getElem? (i := 54) rfl)), rfl, hnm⟩) (hw _ (List.mem_of_getElem? (i := 41) rfl)) (ty := .long) (by decide) rfl rfl (g := (mkF m 6 #[.val (.ref o), .val (.long x1), .second] [(.long x1), (.ref o)])) rfl rfl (hb hby d_jdk_35_method_26_6)
  have f2w := F_value.same W2
  have f3 := Eo.wr W2
  have Z4 : n0 ≤ h2.size := Nat.le_trans Z0 (Keep.of_wr W2).1
  have K4 := K0.wr W2 (Or.inl (List.mem_of_getElem? (i := 0) rfl))
  have N2 := Fr.snoc X2 N1 gn_o
  refine own_via (U' := T2.setTop (mkF m 9 #[.val (.ref o), .val (.long x1), .second] [])) (fun t k => st2 t k) ?_
  exact own_ret X2 (v := none) (fun _ => rfl) hlk (fun fs hr => X2.returnOut hx Bd.returns (hb hby d_jdk_35_method_26_9) hr) (by rw [e2]; exact ⟨rfl, N2, K4, f3, f2w⟩) (by decide) (by decide)
def Qvo (Z : State) (x1 : Int64) (ca : Addr) (cl : Cell) (h0 : Heap) (n0 : Nat) (v : Option Value) (h : Heap) (L : List Loc) : Prop := ∃ b : Addr, v = some (.ref b) ∧ Fr n0 L ∧ Keep h0 h [] ∧ Exa Z h b "java/lang/Long"
theorem d_jdk_35_method_24_0 : decode jdk_35_method_24_code 0 = .ok (.sipush 128, 3) := by decide +kernel
theorem d_jdk_35_method_24_3 : decode jdk_35_method_24_code 3 = .ok (.istore_n 2, 1) := by decide +kernel
theorem d_jdk_35_method_24_4 : decode jdk_35_method_24_code 4 = .ok (.lload_n 0, 1) := by decide +kernel
theorem d_jdk_35_method_24_5 : decode jdk_35_method_24_code 5 = .ok (.ldc2_w 230, 3) := by decide +kernel
theorem d_jdk_35_method_24_8 : decode jdk_35_method_24_code 8 = .ok (.lcmp, 1) := by decide +kernel
theorem d_jdk_35_method_24_9 : decode jdk_35_method_24_code 9 = .ok (.ifCond .lt 22, 3) := by decide +kernel
theorem d_jdk_35_method_24_31 : decode jdk_35_method_24_code 31 = .ok (.new 1, 3) := by decide +kernel
theorem d_jdk_35_method_24_34 : decode jdk_35_method_24_code 34 = .ok (.dup, 1) := by decide +kernel
theorem d_jdk_35_method_24_35 : decode jdk_35_method_24_code 35 = .ok (.lload_n 0, 1) := by decide +kernel
theorem pd_J__V : parseMethodDescriptor "(J)V" = some ⟨[.long], none⟩ := by decide +kernel
theorem d_jdk_35_method_24_36 : decode jdk_35_method_24_code 36 = .ok (.invokespecial 240, 3) := by decide +kernel
theorem d_jdk_35_method_24_39 : decode jdk_35_method_24_code 39 = .ok (.areturn, 1) := by decide +kernel
theorem d_jdk_35_method_24_12 : decode jdk_35_method_24_code 12 = .ok (.lload_n 0, 1) := by decide +kernel
theorem d_jdk_35_method_24_13 : decode jdk_35_method_24_code 13 = .ok (.ldc2_w 232, 3) := by decide +kernel
theorem d_jdk_35_method_24_16 : decode jdk_35_method_24_code 16 = .ok (.lcmp, 1) := by decide +kernel
theorem d_jdk_35_method_24_17 : decode jdk_35_method_24_code 17 = .ok (.ifCond .gt 14, 3) := by decide +kernel
theorem d_jdk_35_method_24_20 : decode jdk_35_method_24_code 20 = .ok (.getstatic 234, 3) := by decide +kernel
theorem d_jdk_35_method_24_23 : decode jdk_35_method_24_code 23 = .ok (.lload_n 0, 1) := by decide +kernel
theorem d_jdk_35_method_24_24 : decode jdk_35_method_24_code 24 = .ok (.l2i, 1) := by decide +kernel
theorem d_jdk_35_method_24_25 : decode jdk_35_method_24_code 25 = .ok (.sipush 128, 3) := by decide +kernel
theorem d_jdk_35_method_24_28 : decode jdk_35_method_24_code 28 = .ok (.iadd, 1) := by decide +kernel
theorem d_jdk_35_method_24_29 : decode jdk_35_method_24_code 29 = .ok (.aaload, 1) := by decide +kernel
theorem d_jdk_35_method_24_30 : decode jdk_35_method_24_code 30 = .ok (.areturn, 1) := by decide +kernel
theorem ef_rm_Qvo (m : MethodId) (x0 : Int64) : entryFrame m #[(.long x0)] 3 = mkF m 0 #[.val (.long x0), .second, .unset] [] := by first | (simp [entryFrame, mkF, argsToLocals, Value.category]; done) | rfl
set_option maxRecDepth 65536 in
set_option maxHeartbeats 40000000 in
theorem rm_Qvo (l : Launch) (Z : State) (a0 : Array Value) (hw : ∀ d ∈ tables_1, d.before a0 Z = true) (ws : List Jvm.Cond) (x1 : Int64) (ca : Addr) (cl : Cell) (h0 : Heap) (n0 : Nat) (Z0 : n0 ≤ h0.size) (Od : Old Z n0 h0) (Sc : Sta Z Z.heap "java/lang/Long$LongCache" "cache" "[Ljava/lang/Long;" (.ref ca)) (Bx : Bxs Z ca cl "java/lang/Long" "J" (256 : Int32) (fun j => .long ((j - (128 : Int32)).toInt64))) :
    MetFree l (⟨"java/lang/Long", "valueOf", "(J)Ljava/lang/Long;"⟩ : MethodName) (head1 (Jvm.Cond.code (⟨"java/lang/Long", "valueOf", "(J)Ljava/lang/Long;"⟩ : MethodName) jdk_35_method_24_code 3 (some (.object "java/lang/Long")) :: ws) ({ frames := 3, cells := 1, slots := 1, locals := 39 } : Room)) (fun aa_ UU_ => aa_ = #[(.long x1)] ∧ Z.Warmed39 UU_.vm ∧ UU_.heap = h0) (fun _ _ _ _ _ => True) (fun _ UU_ oo_ VV_ => ∃ vv_ LL_, oo_ = .returned vv_ ∧ Qvo Z x1 ca cl h0 n0 vv_ VV_.heap LL_ ∧ FrameEnd UU_ oo_ VV_ LL_ ({ frames := 3, cells := 1, slots := 1, locals := 39 } : Room).cells ({ frames := 3, cells := 1, slots := 1, locals := 39 } : Room).slots) := by
  refine MetFree.of_bodySF (plainFor_of_name pn_java_lang_Long) hisR ?_
  intro p e s m args below meth c s₁ Bd hml0 hP hK
  obtain ⟨rfl, hZ, hh⟩ := hP
  have hx := Bd.exec
  have hby := Bd.bytes
  have hml : c.maxLocals = 3 := hml0
  have hown : s.vm.findClass "java/lang/Long" = some m.cls := findClass_of_methodNamed Bd.named
  have hnm := (name_of_methodNamed Bd.named Bd.method).1
  have hlk : meth.locks = false := Bd.notSynchronized
  have X0 : Stand p l e ({ frames := 3, cells := 1, slots := 1, locals := 39 } : Room) s m #[(.long x1)] below meth c s₁ [] 0 0 := Stand.of_body Bd
  have e0 : s₁.heap = h0 := by rw [← hh, Bd.state]; rfl
  have N0 := Fr.nil n0
  have K0 := Keep.refl h0 []
  show own_G p e below s (Qvo Z x1 ca cl h0 n0) _ _ (s₁.setTop (entryFrame m #[(.long x1)] 3))
  rw [ef_rm_Qvo m x1]
  have Sc0 := Sc.ext Od.2
  obtain ⟨Ac0, Az0, -⟩ := Bx.ext Od.2
  refine own_via (U' := s₁.setTop (mkF m 3 #[.val (.long x1), .second, .unset] [(.int (128 : Int32))])) (fun t k => XS.sipush X0.here hx rfl (hb hby d_jdk_35_method_24_0) k) ?_
  refine own_via (U' := s₁.setTop (mkF m 4 #[.val (.long x1), .second, .val (.int (128 : Int32))] [])) (fun t k => XS.istoreN X0.here hx rfl (hb hby d_jdk_35_method_24_3) rfl (l' := #[.val (.long x1), .second, .val (.int (128 : Int32))]) rfl k) ?_
  refine own_via (U' := s₁.setTop (mkF m 5 #[.val (.long x1), .second, .val (.int (128 : Int32))] [(.long x1)])) (fun t k => XS.lloadN X0.here hx rfl (hb hby d_jdk_35_method_24_4) rfl k) ?_
  refine own_via (U' := s₁.setTop (mkF m 8 #[.val (.long x1), .second, .val (.int (128 : Int32))] [(.long (-128 : Int64)), (.long x1)])) (fun t k => X0.ldc2Long hx hown (mvT hZ (hw _ (List.mem_of_getElem? (i := 26) rfl))) (g := (mkF m 5 #[.val (.long x1), .second, .val (.int (128 : Int32))] [(.long x1)])) rfl (hb hby d_jdk_35_method_24_5) _ k) ?_
  refine own_via (U' := s₁.setTop (mkF m 9 #[.val (.long x1), .second, .val (.int (128 : Int32))] [(.int (lcmpW x1 (-128 : Int64)))])) (fun t k => XS.lcmp X0.here hx rfl (hb hby d_jdk_35_method_24_8) rfl k) ?_
  by_cases hc1 : x1 < (-128 : Int64)
  case pos =>
    refine own_via (U' := s₁.setTop (mkF m 31 #[.val (.long x1), .second, .val (.int (128 : Int32))] [])) (fun t k => XS.ifYes X0.here hx rfl (pc0 := 9) (pc' := 31) rfl (hb hby d_jdk_35_method_24_9) rfl (own_jlt hc1).1 (by decide) (by decide) k) ?_
    obtain ⟨T2, h2, X2, e2, E2, A2, D2, -, st2⟩ := newO X0 hx hZ hown (hw _ (List.mem_of_getElem? (i := 40) rfl)) (hw _ (List.mem_of_getElem? (i := 41) rfl)) (hw _ (List.mem_of_getElem? (i := 24) rfl)) e0 (g := (mkF m 31 #[.val (.long x1), .second, .val (.int (128 : Int32))] [])) rfl (hb hby d_jdk_35_method_24_31) (by decide) (by decide)
    obtain ⟨b2, g2⟩ : ∃ z, z = h0.size := ⟨_, rfl⟩
    rw [← g2] at A2 D2 st2
    have gn_b2 : n0 ≤ b2 := Nat.le_trans Z0 (Nat.le_of_eq g2.symm)
    have sz_b2 : h0.size ≤ b2 := Nat.le_trans K0.1 (Nat.le_of_eq g2.symm)
    have f3 := Sc0.ext E2
    have f4 : Fld Z h2 b2 "java/lang/Long" "value" "J" (.long (0 : Int64)) := D2 (Or.inr (hw _ (List.mem_of_getElem? (i := 54) rfl))) (ty := .long) (by decide)
    have Z5 : n0 ≤ h2.size := Nat.le_trans Z0 E2.1
    have K5 := K0.ext E2
    refine own_via (U' := T2.setTop (mkF m 34 #[.val (.long x1), .second, .val (.int (128 : Int32))] [(.ref b2)])) (fun t k => st2 t k) ?_
    refine own_via (U' := T2.setTop (mkF m 35 #[.val (.long x1), .second, .val (.int (128 : Int32))] [(.ref b2), (.ref b2)])) (fun t k => XS.dup X2.here hx rfl (hb hby d_jdk_35_method_24_34) rfl rfl k) ?_
    refine own_via (U' := T2.setTop (mkF m 36 #[.val (.long x1), .second, .val (.int (128 : Int32))] [(.long x1), (.ref b2), (.ref b2)])) (fun t k => XS.lloadN X2.here hx rfl (hb hby d_jdk_35_method_24_35) rfl k) ?_
    obtain ⟨_, T6, L6, X6, hQ6, st6⟩ := own_callI X2 hx hZ (y := (⟨"java/lang/Long", "<init>", "(J)V"⟩ : MethodName)) rfl (W := 1) hown (hw _ (List.mem_of_getElem? (i := 42) rfl)) (hw _ (List.mem_of_getElem? (i := 43) rfl)) (hw _ (List.mem_of_getElem? (i := 24) rfl)) (hw _ (List.mem_of_getElem? (i := 45) rfl)) (by decide) (rm_Qli l Z a0 hw [] b2 x1 h2 n0 Z5 A2 f4 gn_b2) (by decide) (by decide) e2 (a := b2) (g := (mkF m 36 #[.val (.long x1), .second, .val (.int (128 : Int32))] [(.long x1), (.ref b2), (.ref b2)])) rfl (by rw [hml]; rfl) (argsL := [(.long x1)]) (rest := [(.ref b2)]) rfl (lenOf pd_J__V rfl) rfl (by show 2 * 0 + _ ≤ _; exact Nat.le_of_eq rfl) (hb hby d_jdk_35_method_24_36) (by decide) (by decide)
    obtain ⟨rfl, N6q, K6q, E6q, F6q0⟩ := hQ6
    have N6 := Fr.app N0 N6q
    have f7 := own_sta_keep f3 K6q (allS (own_exa_ns A2) all0)
    have f8 := A2.keep K6q
    have Z9 : n0 ≤ T6.heap.size := Nat.le_trans Z5 K6q.1
    have K9 := K5.trans K6q (allS (Or.inr sz_b2) all0)
    refine own_via (U' := T6.setTop (mkF m 39 #[.val (.long x1), .second, .val (.int (128 : Int32))] [(.ref b2)])) (fun t k => st6 t k) ?_
    exact own_ret X6 (v := some (.ref b2)) (fun h => by rw [Bd.returns] at h; cases h) hlk (fun fs hr => retOut X6 hx (t := (.object "java/lang/Long")) Bd.returns rfl (Or.inr (Or.inr (Or.inr (Or.inr ⟨rfl, rfl, rfl⟩)))) (hb hby d_jdk_35_method_24_39) hr) (by exact ⟨b2, rfl, N6, K9, E6q⟩) (by decide) (by decide)
  case neg =>
    refine own_via (U' := s₁.setTop (mkF m 12 #[.val (.long x1), .second, .val (.int (128 : Int32))] [])) (fun t k => XS.ifNo X0.here hx rfl (hb hby d_jdk_35_method_24_9) rfl (own_jnlt hc1).1 k) ?_
    refine own_via (U' := s₁.setTop (mkF m 13 #[.val (.long x1), .second, .val (.int (128 : Int32))] [(.long x1)])) (fun t k => XS.lloadN X0.here hx rfl (hb hby d_jdk_35_method_24_12) rfl k) ?_
    refine own_via (U' := s₁.setTop (mkF m 16 #[.val (.long x1), .second, .val (.int (128 : Int32))] [(.long (127 : Int64)), (.long x1)])) (fun t k => X0.ldc2Long hx hown (mvT hZ (hw _ (List.mem_of_getElem? (i := 27) rfl))) (g := (mkF m 13 #[.val (.long x1), .second, .val (.int (128 : Int32))] [(.long x1)])) rfl (hb hby d_jdk_35_method_24_13) _ k) ?_
    refine own_via (U' := s₁.setTop (mkF m 17 #[.val (.long x1), .second, .val (.int (128 : Int32))] [(.int (lcmpW x1 (127 : Int64)))])) (fun t k => XS.lcmp X0.here hx rfl (hb hby d_jdk_35_method_24_16) rfl k) ?_
    by_cases hc10 : (127 : Int64) < x1
    case pos =>
      refine own_via (U' := s₁.setTop (mkF m 31 #[.val (.long x1), .second, .val (.int (128 : Int32))] [])) (fun t k => XS.ifYes X0.here hx rfl (pc0 := 17) (pc' := 31) rfl (hb hby d_jdk_35_method_24_17) rfl (own_jgt hc10).1 (by decide) (by decide) k) ?_
      obtain ⟨T11, h11, X11, e11, E11, A11, D11, -, st11⟩ := newO X0 hx hZ hown (hw _ (List.mem_of_getElem? (i := 40) rfl)) (hw _ (List.mem_of_getElem? (i := 41) rfl)) (hw _ (List.mem_of_getElem? (i := 24) rfl)) e0 (g := (mkF m 31 #[.val (.long x1), .second, .val (.int (128 : Int32))] [])) rfl (hb hby d_jdk_35_method_24_31) (by decide) (by decide)
      obtain ⟨b11, g11⟩ : ∃ z, z = h0.size := ⟨_, rfl⟩
      rw [← g11] at A11 D11 st11
      have gn_b11 : n0 ≤ b11 := Nat.le_trans Z0 (Nat.le_of_eq g11.symm)
      have sz_b11 : h0.size ≤ b11 := Nat.le_trans K0.1 (Nat.le_of_eq g11.symm)
      have f12 := Sc0.ext E11
      have f13 : Fld Z h11 b11 "java/lang/Long" "value" "J" (.long (0 : Int64)) := D11 (Or.inr (hw _ (List.mem_of_getElem? (i := 54) rfl))) (ty := .long) (by decide)
      have Z14 : n0 ≤ h11.size := Nat.le_trans Z0 E11.1
      have K14 := K0.ext E11
      refine own_via (U' := T11.setTop (mkF m 34 #[.val (.long x1), .second, .val (.int (128 : Int32))] [(.ref b11)])) (fun t k => st11 t k) ?_
      refine own_via (U' := T11.setTop (mkF m 35 #[.val (.long x1), .second, .val (.int (128 : Int32))] [(.ref b11), (.ref b11)])) (fun t k => XS.dup X11.here hx rfl (hb hby d_jdk_35_method_24_34) rfl rfl k) ?_
      refine own_via (U' := T11.setTop (mkF m 36 #[.val (.long x1), .second, .val (.int (128 : Int32))] [(.long x1), (.ref b11), (.ref b11)])) (fun t k => XS.lloadN X11.here hx rfl (hb hby d_jdk_35_method_24_35) rfl k) ?_
      obtain ⟨_, T15, L15, X15, hQ15, st15⟩ := own_callI X11 hx hZ (y := (⟨"java/lang/Long", "<init>", "(J)V"⟩ : MethodName)) rfl (W := 1) hown (hw _ (List.mem_of_getElem? (i := 42) rfl)) (hw _ (List.mem_of_getElem? (i := 43) rfl)) (hw _ (List.mem_of_getElem? (i := 24) rfl)) (hw _ (List.mem_of_getElem? (i := 45) rfl)) (by decide) (rm_Qli l Z a0 hw [] b11 x1 h11 n0 Z14 A11 f13 gn_b11) (by decide) (by decide) e11 (a := b11) (g := (mkF m 36 #[.val (.long x1), .second, .val (.int (128 : Int32))] [(.long x1), (.ref b11), (.ref b11)])) rfl (by rw [hml]; rfl) (argsL := [(.long x1)]) (rest := [(.ref b11)]) rfl (lenOf pd_J__V rfl) rfl (by show 2 * 0 + _ ≤ _; exact Nat.le_of_eq rfl) (hb hby d_jdk_35_method_24_36) (by decide) (by decide)
      obtain ⟨rfl, N15q, K15q, E15q, F15q0⟩ := hQ15
      have N15 := Fr.app N0 N15q
      have f16 := own_sta_keep f12 K15q (allS (own_exa_ns A11) all0)
      have f17 := A11.keep K15q
      have Z18 : n0 ≤ T15.heap.size := Nat.le_trans Z14 K15q.1
      have K18 := K14.trans K15q (allS (Or.inr sz_b11) all0)
      refine own_via (U' := T15.setTop (mkF m 39 #[.val (.long x1), .second, .val (.int (128 : Int32))] [(.ref b11)])) (fun t k => st15 t k) ?_
      exact own_ret X15 (v := some (.ref b11)) (fun h => by rw [Bd.returns] at h; cases h) hlk (fun fs hr => retOut X15 hx (t := (.object "java/lang/Long")) Bd.returns rfl (Or.inr (Or.inr (Or.inr (Or.inr ⟨rfl, rfl, rfl⟩)))) (hb hby d_jdk_35_method_24_39) hr) (by exact ⟨b11, rfl, N15, K18, E15q⟩) (by decide) (by decide)
    case neg =>
      refine own_via (U' := s₁.setTop (mkF m 20 #[.val (.long x1), .second, .val (.int (128 : Int32))] [])) (fun t k => XS.ifNo X0.here hx rfl (hb hby d_jdk_35_method_24_17) rfl (own_jngt hc10).1 k) ?_
      obtain ⟨T19, X19, e19, st19⟩ := getS2 (host := "") X0 hx hZ hown (Or.inl (hw _ (List.mem_of_getElem? (i := 28) rfl))) Via.refl e0 Sc0 (g := (mkF m 20 #[.val (.long x1), .second, .val (.int (128 : Int32))] [])) rfl (hb hby d_jdk_35_method_24_20)
      refine own_via (U' := T19.setTop (mkF m 23 #[.val (.long x1), .second, .val (.int (128 : Int32))] [(.ref ca)])) (fun t k => st19 t k) ?_
      refine own_via (U' := T19.setTop (mkF m 24 #[.val (.long x1), .second, .val (.int (128 : Int32))] [(.long x1), (.ref ca)])) (fun t k => XS.lloadN X19.here hx rfl (hb hby d_jdk_35_method_24_23) rfl k) ?_
      refine own_via (U' := T19.setTop (mkF m 25 #[.val (.long x1), .second, .val (.int (128 : Int32))] [(.int (x1.toInt32)), (.ref ca)])) (fun t k => XS.l2i X19.here hx rfl (hb hby d_jdk_35_method_24_24) rfl k) ?_
      refine own_via (U' := T19.setTop (mkF m 28 #[.val (.long x1), .second, .val (.int (128 : Int32))] [(.int (128 : Int32)), (.int (x1.toInt32)), (.ref ca)])) (fun t k => XS.sipush X19.here hx rfl (hb hby d_jdk_35_method_24_25) k) ?_
      refine own_via (U' := T19.setTop (mkF m 29 #[.val (.long x1), .second, .val (.int (128 : Int32))] [(.int ((x1.toInt32) + (128 : Int32))), (.ref ca)])) (fun t k => XS.iadd X19.here hx rfl (hb hby d_jdk_35_method_24_28) rfl k) ?_
      have hin : ¬ (((x1.toInt32) + (128 : Int32)) < 0 ∨ cl.slots.size ≤ ((x1.toInt32) + (128 : Int32)).toNatClampNeg) := by rw [Az0, own_256]; exact own_box x1 hc1 hc10
      obtain ⟨bx, hat, Ebx, -⟩ := Bx.2.2.2 ((x1.toInt32) + (128 : Int32)) hin
      have Ebx0 := Ebx.ext Od.2
      refine own_via (U' := T19.setTop (mkF m 30 #[.val (.long x1), .second, .val (.int (128 : Int32))] [(.ref bx)])) (fun t k => X19.aaload hx (j := ((x1.toInt32) + (128 : Int32))) (v := (.ref bx)) (by rw [e19]; exact Ac0.1) (State.isArrayOf_alike hZ.alike Ac0.2.1) rfl Ac0.2.2 hin hat (g := (mkF m 29 #[.val (.long x1), .second, .val (.int (128 : Int32))] [(.int ((x1.toInt32) + (128 : Int32))), (.ref ca)])) rfl rfl (hb hby d_jdk_35_method_24_29) _ k) ?_
      exact own_ret X19 (v := some (.ref bx)) (fun h => by rw [Bd.returns] at h; cases h) hlk (fun fs hr => retOut X19 hx (t := (.object "java/lang/Long")) Bd.returns rfl (Or.inr (Or.inr (Or.inr (Or.inr ⟨rfl, rfl, rfl⟩)))) (hb hby d_jdk_35_method_24_30) hr) (by rw [e19]; exact ⟨bx, rfl, N0, K0, Ebx0⟩) (by decide) (by decide)
def Qci (Z : State) (o : Addr) (x1 x2 x3 x4 : Int64) (h0 : Heap) (n0 : Nat) (v : Option Value) (h : Heap) (L : List Loc) : Prop := v = none ∧ Fr n0 L ∧ Keep h0 h [o] ∧ Exa Z h o "com/example/gridloom/gridloom/index/Counter" ∧ Fld Z h o "com/example/gridloom/gridloom/index/Counter" "x" "J" (.long x1) ∧ Fld Z h o "com/example/gridloom/gridloom/index/Counter" "y" "J" (.long x2) ∧ Fld Z h o "com/example/gridloom/gridloom/index/Counter" "z" "J" (.long x3) ∧ Fld Z h o "com/example/gridloom/gridloom/index/Counter" "type" "J" (.long x4)
theorem d_prog_143_method_1_0 : decode prog_143_method_1_code 0 = .ok (.aload_n 0, 1) := by decide +kernel
theorem d_prog_143_method_1_1 : decode prog_143_method_1_code 1 = .ok (.invokespecial 1, 3) := by decide +kernel
theorem d_prog_143_method_1_4 : decode prog_143_method_1_code 4 = .ok (.aload_n 0, 1) := by decide +kernel
theorem d_prog_143_method_1_5 : decode prog_143_method_1_code 5 = .ok (.lload_n 1, 1) := by decide +kernel
theorem d_prog_143_method_1_6 : decode prog_143_method_1_code 6 = .ok (.putfield 7, 3) := by decide +kernel
theorem d_prog_143_method_1_9 : decode prog_143_method_1_code 9 = .ok (.aload_n 0, 1) := by decide +kernel
theorem d_prog_143_method_1_10 : decode prog_143_method_1_code 10 = .ok (.lload_n 3, 1) := by decide +kernel
theorem d_prog_143_method_1_11 : decode prog_143_method_1_code 11 = .ok (.putfield 13, 3) := by decide +kernel
theorem d_prog_143_method_1_14 : decode prog_143_method_1_code 14 = .ok (.aload_n 0, 1) := by decide +kernel
theorem d_prog_143_method_1_15 : decode prog_143_method_1_code 15 = .ok (.lload 5, 2) := by decide +kernel
theorem d_prog_143_method_1_17 : decode prog_143_method_1_code 17 = .ok (.putfield 16, 3) := by decide +kernel
theorem d_prog_143_method_1_20 : decode prog_143_method_1_code 20 = .ok (.aload_n 0, 1) := by decide +kernel
theorem d_prog_143_method_1_21 : decode prog_143_method_1_code 21 = .ok (.lload 7, 2) := by decide +kernel
theorem d_prog_143_method_1_23 : decode prog_143_method_1_code 23 = .ok (.putfield 19, 3) := by decide +kernel
theorem d_prog_143_method_1_26 : decode prog_143_method_1_code 26 = .ok (.return_, 1) := by decide +kernel
theorem ef_rm_Qci (m : MethodId) (x0 : Addr) (x1 : Int64) (x2 : Int64) (x3 : Int64) (x4 : Int64) : entryFrame m #[(.ref x0), (.long x1), (.long x2), (.long x3), (.long x4)] 9 = mkF m 0 #[.val (.ref x0), .val (.long x1), .second, .val (.long x2), .second, .val (.long x3), .second, .val (.long x4), .second] [] := by first | (simp [entryFrame, mkF, argsToLocals, Value.category]; done) | rfl
theorem pn_com_example_gridloom_gridloom_index_Counter : plainName "com/example/gridloom/gridloom/index/Counter" = true := by first | (simp [plainName, overriddenIn]; done) | decide +kernel
set_option maxRecDepth 65536 in
set_option maxHeartbeats 40000000 in
theorem rm_Qci (l : Launch) (Z : State) (a0 : Array Value) (hw : ∀ d ∈ tables_1, d.before a0 Z = true) (ws : List Jvm.Cond) (o : Addr) (x1 x2 x3 x4 : Int64) (h0 : Heap) (n0 : Nat) (Z0 : n0 ≤ h0.size) (Eo : Exa Z h0 o "com/example/gridloom/gridloom/index/Counter") (F_x : Fld Z h0 o "com/example/gridloom/gridloom/index/Counter" "x" "J" (.long (0 : Int64))) (F_y : Fld Z h0 o "com/example/gridloom/gridloom/index/Counter" "y" "J" (.long (0 : Int64))) (F_z : Fld Z h0 o "com/example/gridloom/gridloom/index/Counter" "z" "J" (.long (0 : Int64))) (F_type : Fld Z h0 o "com/example/gridloom/gridloom/index/Counter" "type" "J" (.long (0 : Int64))) (gn_o : n0 ≤ o) :
    MetFree l (⟨"com/example/gridloom/gridloom/index/Counter", "<init>", "(JJJJ)V"⟩ : MethodName) (head1 (Jvm.Cond.code (⟨"com/example/gridloom/gridloom/index/Counter", "<init>", "(JJJJ)V"⟩ : MethodName) prog_143_method_1_code 9 none :: ws) ({ frames := 2, cells := 0, slots := 0, locals := 24 } : Room)) (fun aa_ UU_ => aa_ = #[(.ref o), (.long x1), (.long x2), (.long x3), (.long x4)] ∧ Z.Warmed39 UU_.vm ∧ UU_.heap = h0) (fun _ _ _ _ _ => True) (fun _ UU_ oo_ VV_ => ∃ vv_ LL_, oo_ = .returned vv_ ∧ Qci Z o x1 x2 x3 x4 h0 n0 vv_ VV_.heap LL_ ∧ FrameEnd UU_ oo_ VV_ LL_ ({ frames := 2, cells := 0, slots := 0, locals := 24 } : Room).cells ({ frames := 2, cells := 0, slots := 0, locals := 24 } : Room).slots) := by
  refine MetFree.of_bodySF (plainFor_of_name pn_com_example_gridloom_gridloom_index_Counter) hisR ?_
  intro p e s m args below meth c s₁ Bd hml0 hP hK
  obtain ⟨rfl, hZ, hh⟩ := hP
  have hx := Bd.exec
  have hby := Bd.bytes
  have hml : c.maxLocals = 9 := hml0
  have hown : s.vm.findClass "com/example/gridloom/gridloom/index/Counter" = some m.cls := findClass_of_methodNamed Bd.named
  have hnm := (name_of_methodNamed Bd.named Bd.method).1
  have hlk : meth.locks = false := Bd.notSynchronized
  have X0 : Stand p l e ({ frames := 2, cells := 0, slots := 0, locals := 24 } : Room) s m #[(.ref o), (.long x1), (.long x2), (.long x3), (.long x4)] below meth c s₁ [] 0 0 := Stand.of_body Bd
  have e0 : s₁.heap = h0 := by rw [← hh, Bd.state]; rfl
  have N0 := Fr.nil n0
  have K0 := Keep.refl h0 [o]
  show own_G p e below s (Qci Z o x1 x2 x3 x4 h0 n0) _ _ (s₁.setTop (entryFrame m #[(.ref o), (.long x1), (.long x2), (.long x3), (.long x4)] 9))
  rw [ef_rm_Qci m o x1 x2 x3 x4]
  refine own_via (U' := s₁.setTop (mkF m 1 #[.val (.ref o), .val (.long x1), .second, .val (.long x2), .second, .val (.long x3), .second, .val (.long x4), .second] [(.ref o)])) (fun t k => XS.aloadN X0.here hx rfl (hb hby d_prog_143_method_1_0) rfl rfl k) ?_
  obtain ⟨_, T1, L1, X1, hQ1, st1⟩ := own_callI X0 hx hZ (y := (⟨"java/lang/Record", "<init>", "()V"⟩ : MethodName)) rfl (W := 0) hown (hw _ (List.mem_of_getElem? (i := 6) rfl)) (hw _ (List.mem_of_getElem? (i := 7) rfl)) (hw _ (List.mem_of_getElem? (i := 9) rfl)) (hw _ (List.mem_of_getElem? (i := 10) rfl)) (by decide) (rm_Qrec l Z a0 hw [] o h0 n0 Z0) (by decide) (by decide) e0 (a := o) (g := (mkF m 1 #[.val (.ref o), .val (.long x1), .second, .val (.long x2), .second, .val (.long x3), .second, .val (.long x4), .second] [(.ref o)])) rfl (by rw [hml]; rfl) (argsL := []) (rest := []) rfl (lenOf pd___V rfl) rfl (by show 2 * 0 + _ ≤ _; exact Nat.le_of_eq rfl) (hb hby d_prog_143_method_1_1) (by decide) (by decide)
  obtain ⟨rfl, N1q, e1⟩ := hQ1
  have N1 := Fr.app N0 N1q
  refine own_via (U' := T1.setTop (mkF m 4 #[.val (.ref o), .val (.long x1), .second, .val (.long x2), .second, .val (.long x3), .second, .val (.long x4), .second] [])) (fun t k => st1 t k) ?_
  refine own_via (U' := T1.setTop (mkF m 5 #[.val (.ref o), .val (.long x1), .second, .val (.long x2), .second, .val (.long x3), .second, .val (.long x4), .second] [(.ref o)])) (fun t k => XS.aloadN X1.here hx rfl (hb hby d_prog_143_method_1_4) rfl rfl k) ?_
  refine own_via (U' := T1.setTop (mkF m 6 #[.val (.ref o), .val (.long x1), .second, .val (.long x2), .second, .val (.long x3), .second, .val (.long x4), .second] [(.long x1), (.ref o)])) (fun t k => XS.lloadN X1.here hx rfl (hb hby d_prog_143_method_1_5) rfl k) ?_
  obtain ⟨T2, h2, X2, e2, W2, st2⟩ := putF (host := "") X1 hx hZ hown (Or.inl (hw _ (List.mem_of_getElem? (i := 14) rfl))) Via.refl e1 F_x Eo (Or.inr ⟨(hw _ (List.mem_of_getElem? (i := 15) rfl)), rfl, hnm⟩) (hw _ (List.mem_of_getElem? (i := 1) rfl)) (ty := .long) (by decide) rfl rfl (g := (mkF m 6 #[.val (.ref o), .val (.long x1), .second, .val (.long x2), .second, .val (.long x3), .second, .val (.long x4), .second] [(.long x1), (.ref o)])) rfl rfl (hb hby d_prog_143_method_1_6)
  have f2w := F_x.same W2
  have f3 := Eo.wr W2
  have f4 := F_y.other W2 (Or.inr (slot_ne (Or.inr (hw _ (List.mem_of_getElem? (i := 17) rfl))) (Or.inr (hw _ (List.mem_of_getElem? (i := 15) rfl))) (by decide) (t := .long) (t' := .long) (by decide) (by decide)))
  have f5 := F_z.other W2 (Or.inr (slot_ne (Or.inr (hw _ (List.mem_of_getElem? (i := 19) rfl))) (Or.inr (hw _ (List.mem_of_getElem? (i := 15) rfl))) (by decide) (t := .long) (t' := .long) (by decide) (by decide)))
  have f6 := F_type.other W2 (Or.inr (slot_ne (Or.inr (hw _ (List.mem_of_getElem? (i := 21) rfl))) (Or.inr (hw _ (List.mem_of_getElem? (i := 15) rfl))) (by decide) (t := .long) (t' := .long) (by decide) (by decide)))
  have Z7 : n0 ≤ h2.size := Nat.le_trans Z0 (Keep.of_wr W2).1
  have K7 := K0.wr W2 (Or.inl (List.mem_of_getElem? (i := 0) rfl))
  have N2 := Fr.snoc X2 N1 gn_o
  refine own_via (U' := T2.setTop (mkF m 9 #[.val (.ref o), .val (.long x1), .second, .val (.long x2), .second, .val (.long x3), .second, .val (.long x4), .second] [])) (fun t k => st2 t k) ?_
  refine own_via (U' := T2.setTop (mkF m 10 #[.val (.ref o), .val (.long x1), .second, .val (.long x2), .second, .val (.long x3), .second, .val (.long x4), .second] [(.ref o)])) (fun t k => XS.aloadN X2.here hx rfl (hb hby d_prog_143_method_1_9) rfl rfl k) ?_
  refine own_via (U' := T2.setTop (mkF m 11 #[.val (.ref o), .val (.long x1), .second, .val (.long x2), .second, .val (.long x3), .second, .val (.long x4), .second] [(.long x2), (.ref o)])) (fun t k => XS.lloadN X2.here hx rfl (hb hby d_prog_143_method_1_10) rfl k) ?_
  obtain ⟨T8, h8, X8, e8, W8, st8⟩ := putF (host := "") X2 hx hZ hown (Or.inl (hw _ (List.mem_of_getElem? (i := 16) rfl))) Via.refl e2 f4 f3 (Or.inr ⟨(hw _ (List.mem_of_getElem? (i := 17) rfl)), rfl, hnm⟩) (hw _ (List.mem_of_getElem? (i := 1) rfl)) (ty := .long) (by decide) rfl rfl (g := (mkF m 11 #[.val (.ref o), .val (.long x1), .second, .val (.long x2), .second, .val (.long x3), .second, .val (.long x4), .second] [(.long x2), (.ref o)])) rfl rfl (hb hby d_prog_143_method_1_11)
  have f8w := f4.same W8
  have f9 := f3.wr W8
  have f10 := f5.other W8 (Or.inr (slot_ne (Or.inr (hw _ (List.mem_of_getElem? (i := 19) rfl))) (Or.inr (hw _ (List.mem_of_getElem? (i := 17) rfl))) (by decide) (t := .long) (t' := .long) (by decide) (by decide)))
  have f11 := f6.other W8 (Or.inr (slot_ne (Or.inr (hw _ (List.mem_of_getElem? (i := 21) rfl))) (Or.inr (hw _ (List.mem_of_getElem? (i := 17) rfl))) (by decide) (t := .long) (t' := .long) (by decide) (by decide)))
  have f12 := f2w.other W8 (Or.inr (slot_ne (Or.inr (hw _ (List.mem_of_getElem? (i := 15) rfl))) (Or.inr (hw _ (List.mem_of_getElem? (i := 17) rfl))) (by decide) (t := .long) (t' := .long) (by decide) (by decide)))
  have Z13 : n0 ≤ h8.size := Nat.le_trans Z7 (Keep.of_wr W8).1
  have K13 := K7.wr W8 (Or.inl (List.mem_of_getElem? (i := 0) rfl))
  have N8 := Fr.snoc X8 N2 gn_o
  refine own_via (U' := T8.setTop (mkF m 14 #[.val (.ref o), .val (.long x1), .second, .val (.long x2), .second, .val (.long x3), .second, .val (.long x4), .second] [])) (fun t k => st8 t k) ?_
  refine own_via (U' := T8.setTop (mkF m 15 #[.val (.ref o), .val (.long x1), .second, .val (.long x2), .second, .val (.long x3), .second, .val (.long x4), .second] [(.ref o)])) (fun t k => XS.aloadN X8.here hx rfl (hb hby d_prog_143_method_1_14) rfl rfl k) ?_
  refine own_via (U' := T8.setTop (mkF m 17 #[.val (.ref o), .val (.long x1), .second, .val (.long x2), .second, .val (.long x3), .second, .val (.long x4), .second] [(.long x3), (.ref o)])) (fun t k => XS.lload X8.here hx rfl (hb hby d_prog_143_method_1_15) rfl k) ?_
  obtain ⟨T14, h14, X14, e14, W14, st14⟩ := putF (host := "") X8 hx hZ hown (Or.inl (hw _ (List.mem_of_getElem? (i := 18) rfl))) Via.refl e8 f10 f9 (Or.inr ⟨(hw _ (List.mem_of_getElem? (i := 19) rfl)), rfl, hnm⟩) (hw _ (List.mem_of_getElem? (i := 1) rfl)) (ty := .long) (by decide) rfl rfl (g := (mkF m 17 #[.val (.ref o), .val (.long x1), .second, .val (.long x2), .second, .val (.long x3), .second, .val (.long x4), .second] [(.long x3), (.ref o)])) rfl rfl (hb hby d_prog_143_method_1_17)
  have f14w := f10.same W14
  have f15 := f9.wr W14
  have f16 := f11.other W14 (Or.inr (slot_ne (Or.inr (hw _ (List.mem_of_getElem? (i := 21) rfl))) (Or.inr (hw _ (List.mem_of_getElem? (i := 19) rfl))) (by decide) (t := .long) (t' := .long) (by decide) (by decide)))
  have f17 := f12.other W14 (Or.inr (slot_ne (Or.inr (hw _ (List.mem_of_getElem? (i := 15) rfl))) (Or.inr (hw _ (List.mem_of_getElem? (i := 19) rfl))) (by decide) (t := .long) (t' := .long) (by decide) (by decide)))
  have f18 := f8w.other W14 (Or.inr (slot_ne (Or.inr (hw _ (List.mem_of_getElem? (i := 17) rfl))) (Or.inr (hw _ (List.mem_of_getElem? (i := 19) rfl))) (by decide) (t := .long) (t' := .long) (by decide) (by decide)))
  have Z19 : n0 ≤ h14.size := Nat.le_trans Z13 (Keep.of_wr W14).1
  have K19 := K13.wr W14 (Or.inl (List.mem_of_getElem? (i := 0) rfl))
  have N14 := Fr.snoc X14 N8 gn_o
  refine own_via (U' := T14.setTop (mkF m 20 #[.val (.ref o), .val (.long x1), .second, .val (.long x2), .second, .val (.long x3), .second, .val (.long x4), .second] [])) (fun t k => st14 t k) ?_
  refine own_via (U' := T14.setTop (mkF m 21 #[.val (.ref o), .val (.long x1), .second, .val (.long x2), .second, .val (.long x3), .second, .val (.long x4), .second] [(.ref o)])) (fun t k => XS.aloadN X14.here hx rfl (hb hby d_prog_143_method_1_20) rfl rfl k) ?_
  refine own_via (U' := T14.setTop (mkF m 23 #[.val (.ref o), .val (.long x1), .second, .val (.long x2), .second, .val (.long x3), .second, .val (.long x4), .second] [(.long x4), (.ref o)])) (fun t k => XS.lload X14.here hx rfl (hb hby d_prog_143_method_1_21) rfl k) ?_
  obtain ⟨T20, h20, X20, e20, W20, st20⟩ := putF (host := "") X14 hx hZ hown (Or.inl (hw _ (List.mem_of_getElem? (i := 20) rfl))) Via.refl e14 f16 f15 (Or.inr ⟨(hw _ (List.mem_of_getElem? (i := 21) rfl)), rfl, hnm⟩) (hw _ (List.mem_of_getElem? (i := 1) rfl)) (ty := .long) (by decide) rfl rfl (g := (mkF m 23 #[.val (.ref o), .val (.long x1), .second, .val (.long x2), .second, .val (.long x3), .second, .val (.long x4), .second] [(.long x4), (.ref o)])) rfl rfl (hb hby d_prog_143_method_1_23)
  have f20w := f16.same W20
  have f21 := f15.wr W20
  have f22 := f17.other W20 (Or.inr (slot_ne (Or.inr (hw _ (List.mem_of_getElem? (i := 15) rfl))) (Or.inr (hw _ (List.mem_of_getElem? (i := 21) rfl))) (by decide) (t := .long) (t' := .long) (by decide) (by decide)))
  have f23 := f18.other W20 (Or.inr (slot_ne (Or.inr (hw _ (List.mem_of_getElem? (i := 17) rfl))) (Or.inr (hw _ (List.mem_of_getElem? (i := 21) rfl))) (by decide) (t := .long) (t' := .long) (by decide) (by decide)))
  have f24 := f14w.other W20 (Or.inr (slot_ne (Or.inr (hw _ (List.mem_of_getElem? (i := 19) rfl))) (Or.inr (hw _ (List.mem_of_getElem? (i := 21) rfl))) (by decide) (t := .long) (t' := .long) (by decide) (by decide)))
  have Z25 : n0 ≤ h20.size := Nat.le_trans Z19 (Keep.of_wr W20).1
  have K25 := K19.wr W20 (Or.inl (List.mem_of_getElem? (i := 0) rfl))
  have N20 := Fr.snoc X20 N14 gn_o
  refine own_via (U' := T20.setTop (mkF m 26 #[.val (.ref o), .val (.long x1), .second, .val (.long x2), .second, .val (.long x3), .second, .val (.long x4), .second] [])) (fun t k => st20 t k) ?_
  exact own_ret X20 (v := none) (fun _ => rfl) hlk (fun fs hr => X20.returnOut hx Bd.returns (hb hby d_prog_143_method_1_26) hr) (by rw [e20]; exact ⟨rfl, N20, K25, f21, f22, f23, f24, f20w⟩) (by decide) (by decide)
def Qe1 (Z : State) (o q : Addr) (u1 u2 u3 u4 v1 v2 v3 v4 : Int64) (h0 : Heap) (n0 : Nat) (v : Option Value) (h : Heap) (L : List Loc) : Prop := v = some (.int (if u1 = v1 then (if u2 = v2 then (if u3 = v3 then (if u4 = v4 then (1 : Int32) else (0 : Int32)) else (0 : Int32)) else (0 : Int32)) else (0 : Int32))) ∧ Fr n0 L ∧ h = h0
theorem d_prog_143_method_2_0 : decode prog_143_method_2_code 0 = .ok (.aload_n 1, 1) := by decide +kernel
theorem d_prog_143_method_2_1 : decode prog_143_method_2_code 1 = .ok (.instanceof 8, 3) := by decide +kernel
theorem d_prog_143_method_2_4 : decode prog_143_method_2_code 4 = .ok (.ifCond .eq 60, 3) := by decide +kernel
theorem d_prog_143_method_2_7 : decode prog_143_method_2_code 7 = .ok (.aload_n 1, 1) := by decide +kernel
theorem d_prog_143_method_2_8 : decode prog_143_method_2_code 8 = .ok (.checkcast 8, 3) := by decide +kernel
theorem d_prog_143_method_2_11 : decode prog_143_method_2_code 11 = .ok (.astore_n 2, 1) := by decide +kernel
theorem d_prog_143_method_2_12 : decode prog_143_method_2_code 12 = .ok (.aload_n 0, 1) := by decide +kernel
theorem d_prog_143_method_2_13 : decode prog_143_method_2_code 13 = .ok (.getfield 7, 3) := by decide +kernel
theorem d_prog_143_method_2_16 : decode prog_143_method_2_code 16 = .ok (.aload_n 2, 1) := by decide +kernel
theorem d_prog_143_method_2_17 : decode prog_143_method_2_code 17 = .ok (.getfield 7, 3) := by decide +kernel
theorem d_prog_143_method_2_20 : decode prog_143_method_2_code 20 = .ok (.lcmp, 1) := by decide +kernel
theorem d_prog_143_method_2_21 : decode prog_143_method_2_code 21 = .ok (.ifCond .ne 43, 3) := by decide +kernel
theorem d_prog_143_method_2_24 : decode prog_143_method_2_code 24 = .ok (.aload_n 0, 1) := by decide +kernel
theorem d_prog_143_method_2_25 : decode prog_143_method_2_code 25 = .ok (.getfield 13, 3) := by decide +kernel
theorem d_prog_143_method_2_28 : decode prog_143_method_2_code 28 = .ok (.aload_n 2, 1) := by decide +kernel
theorem d_prog_143_method_2_29 : decode prog_143_method_2_code 29 = .ok (.getfield 13, 3) := by decide +kernel
theorem d_prog_143_method_2_32 : decode prog_143_method_2_code 32 = .ok (.lcmp, 1) := by decide +kernel
theorem d_prog_143_method_2_33 : decode prog_143_method_2_code 33 = .ok (.ifCond .ne 31, 3) := by decide +kernel
theorem d_prog_143_method_2_36 : decode prog_143_method_2_code 36 = .ok (.aload_n 0, 1) := by decide +kernel
theorem d_prog_143_method_2_37 : decode prog_143_method_2_code 37 = .ok (.getfield 16, 3) := by decide +kernel
theorem d_prog_143_method_2_40 : decode prog_143_method_2_code 40 = .ok (.aload_n 2, 1) := by decide +kernel
theorem d_prog_143_method_2_41 : decode prog_143_method_2_code 41 = .ok (.getfield 16, 3) := by decide +kernel
theorem d_prog_143_method_2_44 : decode prog_143_method_2_code 44 = .ok (.lcmp, 1) := by decide +kernel
theorem d_prog_143_method_2_45 : decode prog_143_method_2_code 45 = .ok (.ifCond .ne 19, 3) := by decide +kernel
theorem d_prog_143_method_2_48 : decode prog_143_method_2_code 48 = .ok (.aload_n 0, 1) := by decide +kernel
theorem d_prog_143_method_2_49 : decode prog_143_method_2_code 49 = .ok (.getfield 19, 3) := by decide +kernel
theorem d_prog_143_method_2_52 : decode prog_143_method_2_code 52 = .ok (.aload_n 2, 1) := by decide +kernel
theorem d_prog_143_method_2_53 : decode prog_143_method_2_code 53 = .ok (.getfield 19, 3) := by decide +kernel
theorem d_prog_143_method_2_56 : decode prog_143_method_2_code 56 = .ok (.lcmp, 1) := by decide +kernel
theorem d_prog_143_method_2_57 : decode prog_143_method_2_code 57 = .ok (.ifCond .ne 7, 3) := by decide +kernel
theorem d_prog_143_method_2_60 : decode prog_143_method_2_code 60 = .ok (.iconst 1, 1) := by decide +kernel
theorem d_prog_143_method_2_61 : decode prog_143_method_2_code 61 = .ok (.goto 4, 3) := by decide +kernel
theorem d_prog_143_method_2_65 : decode prog_143_method_2_code 65 = .ok (.ireturn, 1) := by decide +kernel
theorem d_prog_143_method_2_64 : decode prog_143_method_2_code 64 = .ok (.iconst 0, 1) := by decide +kernel
theorem ef_rm_Qe1 (m : MethodId) (x0 : Addr) (x1 : Addr) : entryFrame m #[(.ref x0), (.ref x1)] 3 = mkF m 0 #[.val (.ref x0), .val (.ref x1), .unset] [] := by first | (simp [entryFrame, mkF, argsToLocals, Value.category]; done) | rfl
set_option maxRecDepth 65536 in
set_option maxHeartbeats 40000000 in
theorem rm_Qe1 (l : Launch) (Z : State) (a0 : Array Value) (hw : ∀ d ∈ tables_1, d.before a0 Z = true) (ws : List Jvm.Cond) (o q : Addr) (u1 u2 u3 u4 v1 v2 v3 v4 : Int64) (h0 : Heap) (n0 : Nat) (Z0 : n0 ≤ h0.size) (Eq : Exa Z h0 q "com/example/gridloom/gridloom/index/Counter") (Fo_0 : Fld Z h0 o "com/example/gridloom/gridloom/index/Counter" "x" "J" (.long u1)) (Fo_1 : Fld Z h0 o "com/example/gridloom/gridloom/index/Counter" "y" "J" (.long u2)) (Fo_2 : Fld Z h0 o "com/example/gridloom/gridloom/index/Counter" "z" "J" (.long u3)) (Fo_3 : Fld Z h0 o "com/example/gridloom/gridloom/index/Counter" "type" "J" (.long u4)) (Fq_0 : Fld Z h0 q "com/example/gridloom/gridloom/index/Counter" "x" "J" (.long v1)) (Fq_1 : Fld Z h0 q "com/example/gridloom/gridloom/index/Counter" "y" "J" (.long v2)) (Fq_2 : Fld Z h0 q "com/example/gridloom/gridloom/index/Counter" "z" "J" (.long v3)) (Fq_3 : Fld Z h0 q "com/example/gridloom/gridloom/index/Counter" "type" "J" (.long v4)) :
    MetFree l (⟨"com/example/gridloom/gridloom/index/Counter", "equals", "(Ljava/lang/Object;)Z"⟩ : MethodName) (head1 (Jvm.Cond.code (⟨"com/example/gridloom/gridloom/index/Counter", "equals", "(Ljava/lang/Object;)Z"⟩ : MethodName) prog_143_method_2_code 3 (some .boolean) :: ws) ({ frames := 0, cells := 0, slots := 0, locals := 0 } : Room)) (fun aa_ UU_ => aa_ = #[(.ref o), (.ref q)] ∧ Z.Warmed39 UU_.vm ∧ UU_.heap = h0) (fun _ _ _ _ _ => True) (fun _ UU_ oo_ VV_ => ∃ vv_ LL_, oo_ = .returned vv_ ∧ Qe1 Z o q u1 u2 u3 u4 v1 v2 v3 v4 h0 n0 vv_ VV_.heap LL_ ∧ FrameEnd UU_ oo_ VV_ LL_ ({ frames := 0, cells := 0, slots := 0, locals := 0 } : Room).cells ({ frames := 0, cells := 0, slots := 0, locals := 0 } : Room).slots) := by
  refine MetFree.of_bodySF (plainFor_of_name pn_com_example_gridloom_gridloom_index_Counter) hisR ?_
  intro p e s m args below meth c s₁ Bd hml0 hP hK
  obtain ⟨rfl, hZ, hh⟩ := hP
  have hx := Bd.exec
  have hby := Bd.bytes
  have hml : c.maxLocals = 3 := hml0
  have hown : s.vm.findClass "com/example/gridloom/gridloom/index/Counter" = some m.cls := findClass_of_methodNamed Bd.named
  have hnm := (name_of_methodNamed Bd.named Bd.method).1
  have hlk : meth.locks = false := Bd.notSynchronized
  have X0 : Stand p l e ({ frames := 0, cells := 0, slots := 0, locals := 0 } : Room) s m #[(.ref o), (.ref q)] below meth c s₁ [] 0 0 := Stand.of_body Bd
  have e0 : s₁.heap = h0 := by rw [← hh, Bd.state]; rfl
  have N0 := Fr.nil n0
  have K0 := Keep.refl h0 []
  show own_G p e below s (Qe1 Z o q u1 u2 u3 u4 v1 v2 v3 v4 h0 n0) _ _ (s₁.setTop (entryFrame m #[(.ref o), (.ref q)] 3))
  rw [ef_rm_Qe1 m o q]
  refine own_via (U' := s₁.setTop (mkF m 1 #[.val (.ref o), .val (.ref q), .unset] [(.ref q)])) (fun t k => XS.aloadN X0.here hx rfl (hb hby d_prog_143_method_2_0) rfl rfl k) ?_
  obtain ⟨T1, X1, e1, st1⟩ := instY X0 hx hZ hown (hw _ (List.mem_of_getElem? (i := 35) rfl)) e0 (Ins.self Eq) (g := (mkF m 1 #[.val (.ref o), .val (.ref q), .unset] [(.ref q)])) rfl rfl (hb hby d_prog_143_method_2_1)
  refine own_via (U' := T1.setTop (mkF m 4 #[.val (.ref o), .val (.ref q), .unset] [(.int (1 : Int32))])) (fun t k => st1 t k) ?_
  refine own_via (U' := T1.setTop (mkF m 7 #[.val (.ref o), .val (.ref q), .unset] [])) (fun t k => XS.ifNo X1.here hx rfl (hb hby d_prog_143_method_2_4) rfl ((if0 _ _).trans (feq (by decide : ¬ ((1 : Int32) = (0 : Int32)))).1) k) ?_
  refine own_via (U' := T1.setTop (mkF m 8 #[.val (.ref o), .val (.ref q), .unset] [(.ref q)])) (fun t k => XS.aloadN X1.here hx rfl (hb hby d_prog_143_method_2_7) rfl rfl k) ?_
  obtain ⟨T2, X2, e2, st2⟩ := castY X1 hx hZ hown (hw _ (List.mem_of_getElem? (i := 35) rfl)) e1 (Ins.self Eq) (g := (mkF m 8 #[.val (.ref o), .val (.ref q), .unset] [(.ref q)])) rfl rfl (hb hby d_prog_143_method_2_8)
  refine own_via (U' := T2.setTop (mkF m 11 #[.val (.ref o), .val (.ref q), .unset] [(.ref q)])) (fun t k => st2 t k) ?_
  refine own_via (U' := T2.setTop (mkF m 12 #[.val (.ref o), .val (.ref q), .val (.ref q)] [])) (fun t k => XS.astoreN X2.here hx rfl (hb hby d_prog_143_method_2_11) rfl rfl (l' := #[.val (.ref o), .val (.ref q), .val (.ref q)]) rfl k) ?_
  refine own_via (U' := T2.setTop (mkF m 13 #[.val (.ref o), .val (.ref q), .val (.ref q)] [(.ref o)])) (fun t k => XS.aloadN X2.here hx rfl (hb hby d_prog_143_method_2_12) rfl rfl k) ?_
  obtain ⟨T3, X3, e3, st3⟩ := getF (host := "") X2 hx hZ hown (Or.inl (hw _ (List.mem_of_getElem? (i := 14) rfl))) Via.refl e2 Fo_0 (g := (mkF m 13 #[.val (.ref o), .val (.ref q), .val (.ref q)] [(.ref o)])) rfl rfl (hb hby d_prog_143_method_2_13)
  refine own_via (U' := T3.setTop (mkF m 16 #[.val (.ref o), .val (.ref q), .val (.ref q)] [(.long u1)])) (fun t k => st3 t k) ?_
  refine own_via (U' := T3.setTop (mkF m 17 #[.val (.ref o), .val (.ref q), .val (.ref q)] [(.ref q), (.long u1)])) (fun t k => XS.aloadN X3.here hx rfl (hb hby d_prog_143_method_2_16) rfl rfl k) ?_
  obtain ⟨T4, X4, e4, st4⟩ := getF (host := "") X3 hx hZ hown (Or.inl (hw _ (List.mem_of_getElem? (i := 14) rfl))) Via.refl e3 Fq_0 (g := (mkF m 17 #[.val (.ref o), .val (.ref q), .val (.ref q)] [(.ref q), (.long u1)])) rfl rfl (hb hby d_prog_143_method_2_17)
  refine own_via (U' := T4.setTop (mkF m 20 #[.val (.ref o), .val (.ref q), .val (.ref q)] [(.long v1), (.long u1)])) (fun t k => st4 t k) ?_
  refine own_via (U' := T4.setTop (mkF m 21 #[.val (.ref o), .val (.ref q), .val (.ref q)] [(.int (lcmpW u1 v1))])) (fun t k => XS.lcmp X4.here hx rfl (hb hby d_prog_143_method_2_20) rfl k) ?_
  by_cases hc5 : u1 = v1
  case pos =>
    refine own_via (U' := T4.setTop (mkF m 24 #[.val (.ref o), .val (.ref q), .val (.ref q)] [])) (fun t k => XS.ifNo X4.here hx rfl (hb hby d_prog_143_method_2_21) rfl (own_jeq hc5).2 k) ?_
    refine own_via (U' := T4.setTop (mkF m 25 #[.val (.ref o), .val (.ref q), .val (.ref q)] [(.ref o)])) (fun t k => XS.aloadN X4.here hx rfl (hb hby d_prog_143_method_2_24) rfl rfl k) ?_
    obtain ⟨T6, X6, e6, st6⟩ := getF (host := "") X4 hx hZ hown (Or.inl (hw _ (List.mem_of_getElem? (i := 16) rfl))) Via.refl e4 Fo_1 (g := (mkF m 25 #[.val (.ref o), .val (.ref q), .val (.ref q)] [(.ref o)])) rfl rfl (hb hby d_prog_143_method_2_25)
    refine own_via (U' := T6.setTop (mkF m 28 #[.val (.ref o), .val (.ref q), .val (.ref q)] [(.long u2)])) (fun t k => st6 t k) ?_
    refine own_via (U' := T6.setTop (mkF m 29 #[.val (.ref o), .val (.ref q), .val (.ref q)] [(.ref q), (.long u2)])) (fun t k => XS.aloadN X6.here hx rfl (hb hby d_prog_143_method_2_28) rfl rfl k) ?_
    obtain ⟨T7, X7, e7, st7⟩ := getF (host := "") X6 hx hZ hown (Or.inl (hw _ (List.mem_of_getElem? (i := 16) rfl))) Via.refl e6 Fq_1 (g := (mkF m 29 #[.val (.ref o), .val (.ref q), .val (.ref q)] [(.ref q), (.long u2)])) rfl rfl (hb hby d_prog_143_method_2_29)
    refine own_via (U' := T7.setTop (mkF m 32 #[.val (.ref o), .val (.ref q), .val (.ref q)] [(.long v2), (.long u2)])) (fun t k => st7 t k) ?_
    refine own_via (U' := T7.setTop (mkF m 33 #[.val (.ref o), .val (.ref q), .val (.ref q)] [(.int (lcmpW u2 v2))])) (fun t k => XS.lcmp X7.here hx rfl (hb hby d_prog_143_method_2_32) rfl k) ?_
    by_cases hc8 : u2 = v2
    case pos =>
      refine own_via (U' := T7.setTop (mkF m 36 #[.val (.ref o), .val (.ref q), .val (.ref q)] [])) (fun t k => XS.ifNo X7.here hx rfl (hb hby d_prog_143_method_2_33) rfl (own_jeq hc8).2 k) ?_
      refine own_via (U' := T7.setTop (mkF m 37 #[.val (.ref o), .val (.ref q), .val (.ref q)] [(.ref o)])) (fun t k => XS.aloadN X7.here hx rfl (hb hby d_prog_143_method_2_36) rfl rfl k) ?_
      obtain ⟨T9, X9, e9, st9⟩ := getF (host := "") X7 hx hZ hown (Or.inl (hw _ (List.mem_of_getElem? (i := 18) rfl))) Via.refl e7 Fo_2 (g := (mkF m 37 #[.val (.ref o), .val (.ref q), .val (.ref q)] [(.ref o)])) rfl rfl (hb hby d_prog_143_method_2_37)
      refine own_via (U' := T9.setTop (mkF m 40 #[.val (.ref o), .val (.ref q), .val (.ref q)] [(.long u3)])) (fun t k => st9 t k) ?_
      refine own_via (U' := T9.setTop (mkF m 41 #[.val (.ref o), .val (.ref q), .val (.ref q)] [(.ref q), (.long u3)])) (fun t k => XS.aloadN X9.here hx rfl (hb hby d_prog_143_method_2_40) rfl rfl k) ?_
      obtain ⟨T10, X10, e10, st10⟩ := getF (host := "") X9 hx hZ hown (Or.inl (hw _ (List.mem_of_getElem? (i := 18) rfl))) Via.refl e9 Fq_2 (g := (mkF m 41 #[.val (.ref o), .val (.ref q), .val (.ref q)] [(.ref q), (.long u3)])) rfl rfl (hb hby d_prog_143_method_2_41)
      refine own_via (U' := T10.setTop (mkF m 44 #[.val (.ref o), .val (.ref q), .val (.ref q)] [(.long v3), (.long u3)])) (fun t k => st10 t k) ?_
      refine own_via (U' := T10.setTop (mkF m 45 #[.val (.ref o), .val (.ref q), .val (.ref q)] [(.int (lcmpW u3 v3))])) (fun t k => XS.lcmp X10.here hx rfl (hb hby d_prog_143_method_2_44) rfl k) ?_
      by_cases hc11 : u3 = v3
      case pos =>
        refine own_via (U' := T10.setTop (mkF m 48 #[.val (.ref o), .val (.ref q), .val (.ref q)] [])) (fun t k => XS.ifNo X10.here hx rfl (hb hby d_prog_143_method_2_45) rfl (own_jeq hc11).2 k) ?_
        refine own_via (U' := T10.setTop (mkF m 49 #[.val (.ref o), .val (.ref q), .val (.ref q)] [(.ref o)])) (fun t k => XS.aloadN X10.here hx rfl (hb hby d_prog_143_method_2_48) rfl rfl k) ?_
        obtain ⟨T12, X12, e12, st12⟩ := getF (host := "") X10 hx hZ hown (Or.inl (hw _ (List.mem_of_getElem? (i := 20) rfl))) Via.refl e10 Fo_3 (g := (mkF m 49 #[.val (.ref o), .val (.ref q), .val (.ref q)] [(.ref o)])) rfl rfl (hb hby d_prog_143_method_2_49)
        refine own_via (U' := T12.setTop (mkF m 52 #[.val (.ref o), .val (.ref q), .val (.ref q)] [(.long u4)])) (fun t k => st12 t k) ?_
        refine own_via (U' := T12.setTop (mkF m 53 #[.val (.ref o), .val (.ref q), .val (.ref q)] [(.ref q), (.long u4)])) (fun t k => XS.aloadN X12.here hx rfl (hb hby d_prog_143_method_2_52) rfl rfl k) ?_
        obtain ⟨T13, X13, e13, st13⟩ := getF (host := "") X12 hx hZ hown (Or.inl (hw _ (List.mem_of_getElem? (i := 20) rfl))) Via.refl e12 Fq_3 (g := (mkF m 53 #[.val (.ref o), .val (.ref q), .val (.ref q)] [(.ref q), (.long u4)])) rfl rfl (hb hby d_prog_143_method_2_53)
        refine own_via (U' := T13.setTop (mkF m 56 #[.val (.ref o), .val (.ref q), .val (.ref q)] [(.long v4), (.long u4)])) (fun t k => st13 t k) ?_
        refine own_via (U' := T13.setTop (mkF m 57 #[.val (.ref o), .val (.ref q), .val (.ref q)] [(.int (lcmpW u4 v4))])) (fun t k => XS.lcmp X13.here hx rfl (hb hby d_prog_143_method_2_56) rfl k) ?_
        by_cases hc14 : u4 = v4
        case pos =>
          refine own_via (U' := T13.setTop (mkF m 60 #[.val (.ref o), .val (.ref q), .val (.ref q)] [])) (fun t k => XS.ifNo X13.here hx rfl (hb hby d_prog_143_method_2_57) rfl (own_jeq hc14).2 k) ?_
          refine own_via (U' := T13.setTop (mkF m 61 #[.val (.ref o), .val (.ref q), .val (.ref q)] [(.int (1 : Int32))])) (fun t k => XS.iconst X13.here hx rfl (hb hby d_prog_143_method_2_60) k) ?_
          refine own_via (U' := T13.setTop (mkF m 65 #[.val (.ref o), .val (.ref q), .val (.ref q)] [(.int (1 : Int32))])) (fun t k => XS.goto X13.here hx rfl (pc0 := 61) (pc' := 65) rfl (hb hby d_prog_143_method_2_61) (by decide) (by decide) k) ?_
          exact own_ret X13 (v := some (.int (1 : Int32))) (fun h => by rw [Bd.returns] at h; cases h) hlk (fun fs hr => retN X13 hx (t := .boolean) Bd.returns (by simp) (hb hby d_prog_143_method_2_65) hr) (by rw [e13]; exact ⟨by first | rfl | (simp only [if_pos hc5, if_pos hc8, if_pos hc11, if_pos hc14]), N0, rfl⟩) (by decide) (by decide)
        case neg =>
          refine own_via (U' := T13.setTop (mkF m 64 #[.val (.ref o), .val (.ref q), .val (.ref q)] [])) (fun t k => XS.ifYes X13.here hx rfl (pc0 := 57) (pc' := 64) rfl (hb hby d_prog_143_method_2_57) rfl (own_jne hc14).2 (by decide) (by decide) k) ?_
          refine own_via (U' := T13.setTop (mkF m 65 #[.val (.ref o), .val (.ref q), .val (.ref q)] [(.int (0 : Int32))])) (fun t k => XS.iconst X13.here hx rfl (hb hby d_prog_143_method_2_64) k) ?_
          exact own_ret X13 (v := some (.int (0 : Int32))) (fun h => by rw [Bd.returns] at h; cases h) hlk (fun fs hr => retN X13 hx (t := .boolean) Bd.returns (by simp) (hb hby d_prog_143_method_2_65) hr) (by rw [e13]; exact ⟨by first | rfl | (simp only [if_pos hc5, if_pos hc8, if_pos hc11, if_neg hc14]), N0, rfl⟩) (by decide) (by decide)
      case neg =>
        refine own_via (U' := T10.setTop (mkF m 64 #[.val (.ref o), .val (.ref q), .val (.ref q)] [])) (fun t k => XS.ifYes X10.here hx rfl (pc0 := 45) (pc' := 64) rfl (hb hby d_prog_143_method_2_45) rfl (own_jne hc11).2 (by decide) (by decide) k) ?_
        refine own_via (U' := T10.setTop (mkF m 65 #[.val (.ref o), .val (.ref q), .val (.ref q)] [(.int (0 : Int32))])) (fun t k => XS.iconst X10.here hx rfl (hb hby d_prog_143_method_2_64) k) ?_
        exact own_ret X10 (v := some (.int (0 : Int32))) (fun h => by rw [Bd.returns] at h; cases h) hlk (fun fs hr => retN X10 hx (t := .boolean) Bd.returns (by simp) (hb hby d_prog_143_method_2_65) hr) (by rw [e10]; exact ⟨by first | rfl | (simp only [if_pos hc5, if_pos hc8, if_neg hc11]), N0, rfl⟩) (by decide) (by decide)
    case neg =>
      refine own_via (U' := T7.setTop (mkF m 64 #[.val (.ref o), .val (.ref q), .val (.ref q)] [])) (fun t k => XS.ifYes X7.here hx rfl (pc0 := 33) (pc' := 64) rfl (hb hby d_prog_143_method_2_33) rfl (own_jne hc8).2 (by decide) (by decide) k) ?_
      refine own_via (U' := T7.setTop (mkF m 65 #[.val (.ref o), .val (.ref q), .val (.ref q)] [(.int (0 : Int32))])) (fun t k => XS.iconst X7.here hx rfl (hb hby d_prog_143_method_2_64) k) ?_
      exact own_ret X7 (v := some (.int (0 : Int32))) (fun h => by rw [Bd.returns] at h; cases h) hlk (fun fs hr => retN X7 hx (t := .boolean) Bd.returns (by simp) (hb hby d_prog_143_method_2_65) hr) (by rw [e7]; exact ⟨by first | rfl | (simp only [if_pos hc5, if_neg hc8]), N0, rfl⟩) (by decide) (by decide)
  case neg =>
    refine own_via (U' := T4.setTop (mkF m 64 #[.val (.ref o), .val (.ref q), .val (.ref q)] [])) (fun t k => XS.ifYes X4.here hx rfl (pc0 := 21) (pc' := 64) rfl (hb hby d_prog_143_method_2_21) rfl (own_jne hc5).2 (by decide) (by decide) k) ?_
    refine own_via (U' := T4.setTop (mkF m 65 #[.val (.ref o), .val (.ref q), .val (.ref q)] [(.int (0 : Int32))])) (fun t k => XS.iconst X4.here hx rfl (hb hby d_prog_143_method_2_64) k) ?_
    exact own_ret X4 (v := some (.int (0 : Int32))) (fun h => by rw [Bd.returns] at h; cases h) hlk (fun fs hr => retN X4 hx (t := .boolean) Bd.returns (by simp) (hb hby d_prog_143_method_2_65) hr) (by rw [e4]; exact ⟨by first | rfl | (simp only [if_neg hc5]), N0, rfl⟩) (by decide) (by decide)
def Qe2 (Z : State) (o : Addr) (h0 : Heap) (n0 : Nat) (v : Option Value) (h : Heap) (L : List Loc) : Prop := v = some (.int (0 : Int32)) ∧ Fr n0 L ∧ h = h0
theorem ef_rm_Qe2 (m : MethodId) (x0 : Addr) : entryFrame m #[(.ref x0), .null] 3 = mkF m 0 #[.val (.ref x0), .val .null, .unset] [] := by first | (simp [entryFrame, mkF, argsToLocals, Value.category]; done) | rfl
set_option maxRecDepth 65536 in
set_option maxHeartbeats 40000000 in
theorem rm_Qe2 (l : Launch) (Z : State) (a0 : Array Value) (hw : ∀ d ∈ tables_1, d.before a0 Z = true) (ws : List Jvm.Cond) (o : Addr) (h0 : Heap) (n0 : Nat) (Z0 : n0 ≤ h0.size) :
    MetFree l (⟨"com/example/gridloom/gridloom/index/Counter", "equals", "(Ljava/lang/Object;)Z"⟩ : MethodName) (head1 (Jvm.Cond.code (⟨"com/example/gridloom/gridloom/index/Counter", "equals", "(Ljava/lang/Object;)Z"⟩ : MethodName) prog_143_method_2_code 3 (some .boolean) :: ws) ({ frames := 0, cells := 0, slots := 0, locals := 0 } : Room)) (fun aa_ UU_ => aa_ = #[(.ref o), .null] ∧ Z.Warmed39 UU_.vm ∧ UU_.heap = h0) (fun _ _ _ _ _ => True) (fun _ UU_ oo_ VV_ => ∃ vv_ LL_, oo_ = .returned vv_ ∧ Qe2 Z o h0 n0 vv_ VV_.heap LL_ ∧ FrameEnd UU_ oo_ VV_ LL_ ({ frames := 0, cells := 0, slots := 0, locals := 0 } : Room).cells ({ frames := 0, cells := 0, slots := 0, locals := 0 } : Room).slots) := by
  refine MetFree.of_bodySF (plainFor_of_name pn_com_example_gridloom_gridloom_index_Counter) hisR ?_
  intro p e s m args below meth c s₁ Bd hml0 hP hK
  obtain ⟨rfl, hZ, hh⟩ := hP
  have hx := Bd.exec
  have hby := Bd.bytes
  have hml : c.maxLocals = 3 := hml0
  have hown : s.vm.findClass "com/example/gridloom/gridloom/index/Counter" = some m.cls := findClass_of_methodNamed Bd.named
  have hnm := (name_of_methodNamed Bd.named Bd.method).1
  have hlk : meth.locks = false := Bd.notSynchronized
  have X0 : Stand p l e ({ frames := 0, cells := 0, slots := 0, locals := 0 } : Room) s m #[(.ref o), .null] below meth c s₁ [] 0 0 := Stand.of_body Bd
  have e0 : s₁.heap = h0 := by rw [← hh, Bd.state]; rfl
  have N0 := Fr.nil n0
  have K0 := Keep.refl h0 []
  show own_G p e below s (Qe2 Z o h0 n0) _ _ (s₁.setTop (entryFrame m #[(.ref o), .null] 3))
  rw [ef_rm_Qe2 m o]
  refine own_via (U' := s₁.setTop (mkF m 1 #[.val (.ref o), .val .null, .unset] [.null])) (fun t k => XS.aloadN X0.here hx rfl (hb hby d_prog_143_method_2_0) rfl rfl k) ?_
  refine own_via (U' := s₁.setTop (mkF m 4 #[.val (.ref o), .val .null, .unset] [(.int (0 : Int32))])) (fun t k => X0.instanceofNull hx (g := (mkF m 1 #[.val (.ref o), .val .null, .unset] [.null])) rfl rfl (hb hby d_prog_143_method_2_1) _ k) ?_
  refine own_via (U' := s₁.setTop (mkF m 64 #[.val (.ref o), .val .null, .unset] [])) (fun t k => XS.ifYes X0.here hx rfl (pc0 := 4) (pc' := 64) rfl (hb hby d_prog_143_method_2_4) rfl ((if0 _ _).trans (teq (by decide : ((0 : Int32) = (0 : Int32)))).1) (by decide) (by decide) k) ?_
  refine own_via (U' := s₁.setTop (mkF m 65 #[.val (.ref o), .val .null, .unset] [(.int (0 : Int32))])) (fun t k => XS.iconst X0.here hx rfl (hb hby d_prog_143_method_2_64) k) ?_
  exact own_ret X0 (v := some (.int (0 : Int32))) (fun h => by rw [Bd.returns] at h; cases h) hlk (fun fs hr => retN X0 hx (t := .boolean) Bd.returns (by simp) (hb hby d_prog_143_method_2_65) hr) (by rw [e0]; exact ⟨rfl, N0, rfl⟩) (by decide) (by decide)
def Qe3 (Z : State) (o q : Addr) (h0 : Heap) (n0 : Nat) (v : Option Value) (h : Heap) (L : List Loc) : Prop := v = some (.int (0 : Int32)) ∧ Fr n0 L ∧ h = h0
theorem ef_rm_Qe3 (m : MethodId) (x0 : Addr) (x1 : Addr) : entryFrame m #[(.ref x0), (.ref x1)] 3 = mkF m 0 #[.val (.ref x0), .val (.ref x1), .unset] [] := by first | (simp [entryFrame, mkF, argsToLocals, Value.category]; done) | rfl
set_option maxRecDepth 65536 in
set_option maxHeartbeats 40000000 in
theorem rm_Qe3 (l : Launch) (Z : State) (a0 : Array Value) (hw : ∀ d ∈ tables_1, d.before a0 Z = true) (ws : List Jvm.Cond) (o q : Addr) (h0 : Heap) (n0 : Nat) (Z0 : n0 ≤ h0.size) (Eq : Exa Z h0 q "java/lang/Long") :
    MetFree l (⟨"com/example/gridloom/gridloom/index/Counter", "equals", "(Ljava/lang/Object;)Z"⟩ : MethodName) (head1 (Jvm.Cond.code (⟨"com/example/gridloom/gridloom/index/Counter", "equals", "(Ljava/lang/Object;)Z"⟩ : MethodName) prog_143_method_2_code 3 (some .boolean) :: ws) ({ frames := 0, cells := 0, slots := 0, locals := 0 } : Room)) (fun aa_ UU_ => aa_ = #[(.ref o), (.ref q)] ∧ Z.Warmed39 UU_.vm ∧ UU_.heap = h0) (fun _ _ _ _ _ => True) (fun _ UU_ oo_ VV_ => ∃ vv_ LL_, oo_ = .returned vv_ ∧ Qe3 Z o q h0 n0 vv_ VV_.heap LL_ ∧ FrameEnd UU_ oo_ VV_ LL_ ({ frames := 0, cells := 0, slots := 0, locals := 0 } : Room).cells ({ frames := 0, cells := 0, slots := 0, locals := 0 } : Room).slots) := by
  refine MetFree.of_bodySF (plainFor_of_name pn_com_example_gridloom_gridloom_index_Counter) hisR ?_
  intro p e s m args below meth c s₁ Bd hml0 hP hK
  obtain ⟨rfl, hZ, hh⟩ := hP
  have hx := Bd.exec
  have hby := Bd.bytes
  have hml : c.maxLocals = 3 := hml0
  have hown : s.vm.findClass "com/example/gridloom/gridloom/index/Counter" = some m.cls := findClass_of_methodNamed Bd.named
  have hnm := (name_of_methodNamed Bd.named Bd.method).1
  have hlk : meth.locks = false := Bd.notSynchronized
  have X0 : Stand p l e ({ frames := 0, cells := 0, slots := 0, locals := 0 } : Room) s m #[(.ref o), (.ref q)] below meth c s₁ [] 0 0 := Stand.of_body Bd
  have e0 : s₁.heap = h0 := by rw [← hh, Bd.state]; rfl
  have N0 := Fr.nil n0
  have K0 := Keep.refl h0 []
  show own_G p e below s (Qe3 Z o q h0 n0) _ _ (s₁.setTop (entryFrame m #[(.ref o), (.ref q)] 3))
  rw [ef_rm_Qe3 m o q]
  refine own_via (U' := s₁.setTop (mkF m 1 #[.val (.ref o), .val (.ref q), .unset] [(.ref q)])) (fun t k => XS.aloadN X0.here hx rfl (hb hby d_prog_143_method_2_0) rfl rfl k) ?_
  obtain ⟨T1, X1, e1, st1⟩ := instNo X0 hx hZ hown (hw _ (List.mem_of_getElem? (i := 35) rfl)) e0 Eq (own_NSno (hw _ (List.mem_of_getElem? (i := 37) rfl)) (hw _ (List.mem_of_getElem? (i := 1) rfl)) (NS.step (hw _ (List.mem_of_getElem? (i := 37) rfl)) (NS.step (hw _ (List.mem_of_getElem? (i := 38) rfl)) (own_NSroot (hw _ (List.mem_of_getElem? (i := 39) rfl)) (hw _ (List.mem_of_getElem? (i := 1) rfl)) (by decide)) (by decide)) (by decide)) (by decide)) (g := (mkF m 1 #[.val (.ref o), .val (.ref q), .unset] [(.ref q)])) rfl rfl (hb hby d_prog_143_method_2_1)
  refine own_via (U' := T1.setTop (mkF m 4 #[.val (.ref o), .val (.ref q), .unset] [(.int (0 : Int32))])) (fun t k => st1 t k) ?_
  refine own_via (U' := T1.setTop (mkF m 64 #[.val (.ref o), .val (.ref q), .unset] [])) (fun t k => XS.ifYes X1.here hx rfl (pc0 := 4) (pc' := 64) rfl (hb hby d_prog_143_method_2_4) rfl ((if0 _ _).trans (teq (by decide : ((0 : Int32) = (0 : Int32)))).1) (by decide) (by decide) k) ?_
  refine own_via (U' := T1.setTop (mkF m 65 #[.val (.ref o), .val (.ref q), .unset] [(.int (0 : Int32))])) (fun t k => XS.iconst X1.here hx rfl (hb hby d_prog_143_method_2_64) k) ?_
  exact own_ret X1 (v := some (.int (0 : Int32))) (fun h => by rw [Bd.returns] at h; cases h) hlk (fun fs hr => retN X1 hx (t := .boolean) Bd.returns (by simp) (hb hby d_prog_143_method_2_65) hr) (by rw [e1]; exact ⟨rfl, N0, rfl⟩) (by decide) (by decide)
def Q0 (Z : State) (x1 x2 x3 x4 x5 : Int64) (x6 : Int32) (ca : Addr) (cl : Cell) (h0 : Heap) (n0 : Nat) (v : Option Value) (h : Heap) (L : List Loc) : Prop := v = some (.int 1) ∧ Fr n0 L
theorem pd_JJJJ__V : parseMethodDescriptor "(JJJJ)V" = some ⟨[.long, .long, .long, .long], none⟩ := by decide +kernel
theorem pd_J__Ljava_lang_Long_ : parseMethodDescriptor "(J)Ljava/lang/Long;" = some ⟨[.long], some (.object "java/lang/Long")⟩ := by decide +kernel
theorem pd_Ljava_lang_Object___Z : parseMethodDescriptor "(Ljava/lang/Object;)Z" = some ⟨[(.object "java/lang/Object")], some .boolean⟩ := by decide +kernel
theorem ef_rm_Q0 (m : MethodId) (x0 : Int64) (x1 : Int64) (x2 : Int64) (x3 : Int64) (x4 : Int64) (x5 : Int32) : entryFrame m #[(.long x0), (.long x1), (.long x2), (.long x3), (.long x4), (.int x5)] maxLocals = mkF m 0 #[.val (.long x0), .second, .val (.long x1), .second, .val (.long x2), .second, .val (.long x3), .second, .val (.long x4), .second, .val (.int x5), .unset, .unset, .unset, .unset, .unset, .unset, .unset, .unset, .unset, .unset, .unset, .unset] [] := by first | (simp [entryFrame, mkF, argsToLocals, Value.category, maxLocals]; done) | rfl
theorem pn_com_example_gridloom_gridloom_index_CounterEqualsPinLaw : plainName "com/example/gridloom/gridloom/index/CounterEqualsPinLaw" = true := by first | (simp [plainName, overriddenIn]; done) | decide +kernel
set_option maxRecDepth 65536 in
set_option maxHeartbeats 40000000 in
theorem rm_Q0 (l : Launch) (Z : State) (a0 : Array Value) (hw : ∀ d ∈ tables_1, d.before a0 Z = true) (ws : List Jvm.Cond) (x1 x2 x3 x4 x5 : Int64) (x6 : Int32) (ca : Addr) (cl : Cell) (h0 : Heap) (n0 : Nat) (Z0 : n0 ≤ h0.size) (Od : Old Z n0 h0) (Sc : Sta Z Z.heap "java/lang/Long$LongCache" "cache" "[Ljava/lang/Long;" (.ref ca)) (Bx : Bxs Z ca cl "java/lang/Long" "J" (256 : Int32) (fun j => .long ((j - (128 : Int32)).toInt64))) :
    MetFree l x (head1 (Jvm.Cond.code x code maxLocals ret :: ws) room_1) (fun aa_ UU_ => aa_ = #[(.long x1), (.long x2), (.long x3), (.long x4), (.long x5), (.int x6)] ∧ Z.Warmed39 UU_.vm ∧ UU_.heap = h0) (fun _ _ _ _ _ => True) (fun _ UU_ oo_ VV_ => ∃ vv_ LL_, oo_ = .returned vv_ ∧ Q0 Z x1 x2 x3 x4 x5 x6 ca cl h0 n0 vv_ VV_.heap LL_ ∧ FrameEnd UU_ oo_ VV_ LL_ room_1.cells room_1.slots) := by
  refine MetFree.of_bodySF (plainFor_of_name pn_com_example_gridloom_gridloom_index_CounterEqualsPinLaw) hisR ?_
  intro p e s m args below meth c s₁ Bd hml0 hP hK
  obtain ⟨rfl, hZ, hh⟩ := hP
  have hx := Bd.exec
  have hby := Bd.bytes
  have hml : c.maxLocals = 23 := hml0
  have hown : s.vm.findClass "com/example/gridloom/gridloom/index/CounterEqualsPinLaw" = some m.cls := findClass_of_methodNamed Bd.named
  have hnm := (name_of_methodNamed Bd.named Bd.method).1
  have hlk : meth.locks = false := Bd.notSynchronized
  have X0 : Stand p l e room_1 s m #[(.long x1), (.long x2), (.long x3), (.long x4), (.long x5), (.int x6)] below meth c s₁ [] 0 0 := Stand.of_body Bd
  have e0 : s₁.heap = h0 := by rw [← hh, Bd.state]; rfl
  have N0 := Fr.nil n0
  have K0 := Keep.refl h0 []
  show own_G p e below s (Q0 Z x1 x2 x3 x4 x5 x6 ca cl h0 n0) _ _ (s₁.setTop (entryFrame m #[(.long x1), (.long x2), (.long x3), (.long x4), (.long x5), (.int x6)] maxLocals))
  rw [ef_rm_Q0 m x1 x2 x3 x4 x5 x6]
  refine own_via (U' := s₁.setTop (mkF m 2 #[.val (.long x1), .second, .val (.long x2), .second, .val (.long x3), .second, .val (.long x4), .second, .val (.long x5), .second, .val (.int x6), .unset, .unset, .unset, .unset, .unset, .unset, .unset, .unset, .unset, .unset, .unset, .unset] [(.int x6)])) (fun t k => XS.iload X0.here hx rfl (hb hby at_0) rfl k) ?_
  refine own_via (U' := s₁.setTop (mkF m 3 #[.val (.long x1), .second, .val (.long x2), .second, .val (.long x3), .second, .val (.long x4), .second, .val (.long x5), .second, .val (.int x6), .unset, .unset, .unset, .unset, .unset, .unset, .unset, .unset, .unset, .unset, .unset, .unset] [(.int (1 : Int32)), (.int x6)])) (fun t k => XS.iconst X0.here hx rfl (hb hby at_2) k) ?_
  refine own_via (U' := s₁.setTop (mkF m 4 #[.val (.long x1), .second, .val (.long x2), .second, .val (.long x3), .second, .val (.long x4), .second, .val (.long x5), .second, .val (.int x6), .unset, .unset, .unset, .unset, .unset, .unset, .unset, .unset, .unset, .unset, .unset, .unset] [(.int (x6 &&& (1 : Int32)))])) (fun t k => XS.iand X0.here hx rfl (hb hby at_3) rfl k) ?_
  refine own_via (U' := s₁.setTop (mkF m 13 #[.val (.long x1), .second, .val (.long x2), .second, .val (.long x3), .second, .val (.long x4), .second, .val (.long x5), .second, .val (.int x6), .unset, .unset, .unset, .unset, .unset, .unset, .unset, .unset, .unset, .unset, .unset, .unset] [(.long (if (x6 &&& (1 : Int32)) = (0 : Int32) then x1 else x5))])) (fun t k => ?_) ?_
  · by_cases hc1 : (x6 &&& (1 : Int32)) = (0 : Int32)
    case pos =>
      simp only [if_pos hc1] at k
      refine XS.ifYes X0.here hx rfl (pc0 := 4) (pc' := 12) rfl (hb hby at_4) rfl ((if0 _ _).trans (teq hc1).1) (by decide) (by decide) ?_
      show Steps p.tables e below (s₁.setTop (mkF m 12 #[.val (.long x1), .second, .val (.long x2), .second, .val (.long x3), .second, .val (.long x4), .second, .val (.long x5), .second, .val (.int x6), .unset, .unset, .unset, .unset, .unset, .unset, .unset, .unset, .unset, .unset, .unset, .unset] [])) _
      refine XS.lloadN X0.here hx rfl (hb hby at_12) rfl ?_
      show Steps p.tables e below (s₁.setTop (mkF m 13 #[.val (.long x1), .second, .val (.long x2), .second, .val (.long x3), .second, .val (.long x4), .second, .val (.long x5), .second, .val (.int x6), .unset, .unset, .unset, .unset, .unset, .unset, .unset, .unset, .unset, .unset, .unset, .unset] [(.long x1)])) _
      exact k
    case neg =>
      simp only [if_neg hc1] at k
      refine XS.ifNo X0.here hx rfl (hb hby at_4) rfl ((if0 _ _).trans (feq hc1).1) ?_
      show Steps p.tables e below (s₁.setTop (mkF m 7 #[.val (.long x1), .second, .val (.long x2), .second, .val (.long x3), .second, .val (.long x4), .second, .val (.long x5), .second, .val (.int x6), .unset, .unset, .unset, .unset, .unset, .unset, .unset, .unset, .unset, .unset, .unset, .unset] [])) _
      refine XS.lload X0.here hx rfl (hb hby at_7) rfl ?_
      show Steps p.tables e below (s₁.setTop (mkF m 9 #[.val (.long x1), .second, .val (.long x2), .second, .val (.long x3), .second, .val (.long x4), .second, .val (.long x5), .second, .val (.int x6), .unset, .unset, .unset, .unset, .unset, .unset, .unset, .unset, .unset, .unset, .unset, .unset] [(.long x5)])) _
      refine XS.goto X0.here hx rfl (pc0 := 9) (pc' := 13) rfl (hb hby at_9) (by decide) (by decide) ?_
      show Steps p.tables e below (s₁.setTop (mkF m 13 #[.val (.long x1), .second, .val (.long x2), .second, .val (.long x3), .second, .val (.long x4), .second, .val (.long x5), .second, .val (.int x6), .unset, .unset, .unset, .unset, .unset, .unset, .unset, .unset, .unset, .unset, .unset, .unset] [(.long x5)])) _
      exact k
  refine own_via (U' := s₁.setTop (mkF m 15 #[.val (.long x1), .second, .val (.long x2), .second, .val (.long x3), .second, .val (.long x4), .second, .val (.long x5), .second, .val (.int x6), .val (.long (if (x6 &&& (1 : Int32)) = (0 : Int32) then x1 else x5)), .second, .unset, .unset, .unset, .unset, .unset, .unset, .unset, .unset, .unset, .unset] [])) (fun t k => XS.lstore X0.here hx rfl (hb hby at_13) rfl (l' := #[.val (.long x1), .second, .val (.long x2), .second, .val (.long x3), .second, .val (.long x4), .second, .val (.long x5), .second, .val (.int x6), .val (.long (if (x6 &&& (1 : Int32)) = (0 : Int32) then x1 else x5)), .second, .unset, .unset, .unset, .unset, .unset, .unset, .unset, .unset, .unset, .unset]) rfl k) ?_
  generalize (if (x6 &&& (1 : Int32)) = (0 : Int32) then x1 else x5) = b1_
  refine own_via (U' := s₁.setTop (mkF m 17 #[.val (.long x1), .second, .val (.long x2), .second, .val (.long x3), .second, .val (.long x4), .second, .val (.long x5), .second, .val (.int x6), .val (.long b1_), .second, .unset, .unset, .unset, .unset, .unset, .unset, .unset, .unset, .unset, .unset] [(.int x6)])) (fun t k => XS.iload X0.here hx rfl (hb hby at_15) rfl k) ?_
  refine own_via (U' := s₁.setTop (mkF m 18 #[.val (.long x1), .second, .val (.long x2), .second, .val (.long x3), .second, .val (.long x4), .second, .val (.long x5), .second, .val (.int x6), .val (.long b1_), .second, .unset, .unset, .unset, .unset, .unset, .unset, .unset, .unset, .unset, .unset] [(.int (2 : Int32)), (.int x6)])) (fun t k => XS.iconst X0.here hx rfl (hb hby at_17) k) ?_
  refine own_via (U' := s₁.setTop (mkF m 19 #[.val (.long x1), .second, .val (.long x2), .second, .val (.long x3), .second, .val (.long x4), .second, .val (.long x5), .second, .val (.int x6), .val (.long b1_), .second, .unset, .unset, .unset, .unset, .unset, .unset, .unset, .unset, .unset, .unset] [(.int (x6 &&& (2 : Int32)))])) (fun t k => XS.iand X0.here hx rfl (hb hby at_18) rfl k) ?_
  refine own_via (U' := s₁.setTop (mkF m 28 #[.val (.long x1), .second, .val (.long x2), .second, .val (.long x3), .second, .val (.long x4), .second, .val (.long x5), .second, .val (.int x6), .val (.long b1_), .second, .unset, .unset, .unset, .unset, .unset, .unset, .unset, .unset, .unset, .unset] [(.long (if (x6 &&& (2 : Int32)) = (0 : Int32) then x2 else x5))])) (fun t k => ?_) ?_
  · by_cases hc2 : (x6 &&& (2 : Int32)) = (0 : Int32)
    case pos =>
      simp only [if_pos hc2] at k
      refine XS.ifYes X0.here hx rfl (pc0 := 19) (pc' := 27) rfl (hb hby at_19) rfl ((if0 _ _).trans (teq hc2).1) (by decide) (by decide) ?_
      show Steps p.tables e below (s₁.setTop (mkF m 27 #[.val (.long x1), .second, .val (.long x2), .second, .val (.long x3), .second, .val (.long x4), .second, .val (.long x5), .second, .val (.int x6), .val (.long b1_), .second, .unset, .unset, .unset, .unset, .unset, .unset, .unset, .unset, .unset, .unset] [])) _
      refine XS.lloadN X0.here hx rfl (hb hby at_27) rfl ?_
      show Steps p.tables e below (s₁.setTop (mkF m 28 #[.val (.long x1), .second, .val (.long x2), .second, .val (.long x3), .second, .val (.long x4), .second, .val (.long x5), .second, .val (.int x6), .val (.long b1_), .second, .unset, .unset, .unset, .unset, .unset, .unset, .unset, .unset, .unset, .unset] [(.long x2)])) _
      exact k
    case neg =>
      simp only [if_neg hc2] at k
      refine XS.ifNo X0.here hx rfl (hb hby at_19) rfl ((if0 _ _).trans (feq hc2).1) ?_
      show Steps p.tables e below (s₁.setTop (mkF m 22 #[.val (.long x1), .second, .val (.long x2), .second, .val (.long x3), .second, .val (.long x4), .second, .val (.long x5), .second, .val (.int x6), .val (.long b1_), .second, .unset, .unset, .unset, .unset, .unset, .unset, .unset, .unset, .unset, .unset] [])) _
      refine XS.lload X0.here hx rfl (hb hby at_22) rfl ?_
      show Steps p.tables e below (s₁.setTop (mkF m 24 #[.val (.long x1), .second, .val (.long x2), .second, .val (.long x3), .second, .val (.long x4), .second, .val (.long x5), .second, .val (.int x6), .val (.long b1_), .second, .unset, .unset, .unset, .unset, .unset, .unset, .unset, .unset, .unset, .unset] [(.long x5)])) _
      refine XS.goto X0.here hx rfl (pc0 := 24) (pc' := 28) rfl (hb hby at_24) (by decide) (by decide) ?_
      show Steps p.tables e below (s₁.setTop (mkF m 28 #[.val (.long x1), .second, .val (.long x2), .second, .val (.long x3), .second, .val (.long x4), .second, .val (.long x5), .second, .val (.int x6), .val (.long b1_), .second, .unset, .unset, .unset, .unset, .unset, .unset, .unset, .unset, .unset, .unset] [(.long x5)])) _
      exact k
  refine own_via (U' := s₁.setTop (mkF m 30 #[.val (.long x1), .second, .val (.long x2), .second, .val (.long x3), .second, .val (.long x4), .second, .val (.long x5), .second, .val (.int x6), .val (.long b1_), .second, .val (.long (if (x6 &&& (2 : Int32)) = (0 : Int32) then x2 else x5)), .second, .unset, .unset, .unset, .unset, .unset, .unset, .unset, .unset] [])) (fun t k => XS.lstore X0.here hx rfl (hb hby at_28) rfl (l' := #[.val (.long x1), .second, .val (.long x2), .second, .val (.long x3), .second, .val (.long x4), .second, .val (.long x5), .second, .val (.int x6), .val (.long b1_), .second, .val (.long (if (x6 &&& (2 : Int32)) = (0 : Int32) then x2 else x5)), .second, .unset, .unset, .unset, .unset, .unset, .unset, .unset, .unset]) rfl k) ?_
  generalize (if (x6 &&& (2 : Int32)) = (0 : Int32) then x2 else x5) = b2_
  refine own_via (U' := s₁.setTop (mkF m 32 #[.val (.long x1), .second, .val (.long x2), .second, .val (.long x3), .second, .val (.long x4), .second, .val (.long x5), .second, .val (.int x6), .val (.long b1_), .second, .val (.long b2_), .second, .unset, .unset, .unset, .unset, .unset, .unset, .unset, .unset] [(.int x6)])) (fun t k => XS.iload X0.here hx rfl (hb hby at_30) rfl k) ?_
  refine own_via (U' := s₁.setTop (mkF m 33 #[.val (.long x1), .second, .val (.long x2), .second, .val (.long x3), .second, .val (.long x4), .second, .val (.long x5), .second, .val (.int x6), .val (.long b1_), .second, .val (.long b2_), .second, .unset, .unset, .unset, .unset, .unset, .unset, .unset, .unset] [(.int (4 : Int32)), (.int x6)])) (fun t k => XS.iconst X0.here hx rfl (hb hby at_32) k) ?_
  refine own_via (U' := s₁.setTop (mkF m 34 #[.val (.long x1), .second, .val (.long x2), .second, .val (.long x3), .second, .val (.long x4), .second, .val (.long x5), .second, .val (.int x6), .val (.long b1_), .second, .val (.long b2_), .second, .unset, .unset, .unset, .unset, .unset, .unset, .unset, .unset] [(.int (x6 &&& (4 : Int32)))])) (fun t k => XS.iand X0.here hx rfl (hb hby at_33) rfl k) ?_
  refine own_via (U' := s₁.setTop (mkF m 44 #[.val (.long x1), .second, .val (.long x2), .second, .val (.long x3), .second, .val (.long x4), .second, .val (.long x5), .second, .val (.int x6), .val (.long b1_), .second, .val (.long b2_), .second, .unset, .unset, .unset, .unset, .unset, .unset, .unset, .unset] [(.long (if (x6 &&& (4 : Int32)) = (0 : Int32) then x3 else x5))])) (fun t k => ?_) ?_
  · by_cases hc3 : (x6 &&& (4 : Int32)) = (0 : Int32)
    case pos =>
      simp only [if_pos hc3] at k
      refine XS.ifYes X0.here hx rfl (pc0 := 34) (pc' := 42) rfl (hb hby at_34) rfl ((if0 _ _).trans (teq hc3).1) (by decide) (by decide) ?_
      show Steps p.tables e below (s₁.setTop (mkF m 42 #[.val (.long x1), .second, .val (.long x2), .second, .val (.long x3), .second, .val (.long x4), .second, .val (.long x5), .second, .val (.int x6), .val (.long b1_), .second, .val (.long b2_), .second, .unset, .unset, .unset, .unset, .unset, .unset, .unset, .unset] [])) _
      refine XS.lload X0.here hx rfl (hb hby at_42) rfl ?_
      show Steps p.tables e below (s₁.setTop (mkF m 44 #[.val (.long x1), .second, .val (.long x2), .second, .val (.long x3), .second, .val (.long x4), .second, .val (.long x5), .second, .val (.int x6), .val (.long b1_), .second, .val (.long b2_), .second, .unset, .unset, .unset, .unset, .unset, .unset, .unset, .unset] [(.long x3)])) _
      exact k
    case neg =>
      simp only [if_neg hc3] at k
      refine XS.ifNo X0.here hx rfl (hb hby at_34) rfl ((if0 _ _).trans (feq hc3).1) ?_
      show Steps p.tables e below (s₁.setTop (mkF m 37 #[.val (.long x1), .second, .val (.long x2), .second, .val (.long x3), .second, .val (.long x4), .second, .val (.long x5), .second, .val (.int x6), .val (.long b1_), .second, .val (.long b2_), .second, .unset, .unset, .unset, .unset, .unset, .unset, .unset, .unset] [])) _
      refine XS.lload X0.here hx rfl (hb hby at_37) rfl ?_
      show Steps p.tables e below (s₁.setTop (mkF m 39 #[.val (.long x1), .second, .val (.long x2), .second, .val (.long x3), .second, .val (.long x4), .second, .val (.long x5), .second, .val (.int x6), .val (.long b1_), .second, .val (.long b2_), .second, .unset, .unset, .unset, .unset, .unset, .unset, .unset, .unset] [(.long x5)])) _
      refine XS.goto X0.here hx rfl (pc0 := 39) (pc' := 44) rfl (hb hby at_39) (by decide) (by decide) ?_
      show Steps p.tables e below (s₁.setTop (mkF m 44 #[.val (.long x1), .second, .val (.long x2), .second, .val (.long x3), .second, .val (.long x4), .second, .val (.long x5), .second, .val (.int x6), .val (.long b1_), .second, .val (.long b2_), .second, .unset, .unset, .unset, .unset, .unset, .unset, .unset, .unset] [(.long x5)])) _
      exact k
  refine own_via (U' := s₁.setTop (mkF m 46 #[.val (.long x1), .second, .val (.long x2), .second, .val (.long x3), .second, .val (.long x4), .second, .val (.long x5), .second, .val (.int x6), .val (.long b1_), .second, .val (.long b2_), .second, .val (.long (if (x6 &&& (4 : Int32)) = (0 : Int32) then x3 else x5)), .second, .unset, .unset, .unset, .unset, .unset, .unset] [])) (fun t k => XS.lstore X0.here hx rfl (hb hby at_44) rfl (l' := #[.val (.long x1), .second, .val (.long x2), .second, .val (.long x3), .second, .val (.long x4), .second, .val (.long x5), .second, .val (.int x6), .val (.long b1_), .second, .val (.long b2_), .second, .val (.long (if (x6 &&& (4 : Int32)) = (0 : Int32) then x3 else x5)), .second, .unset, .unset, .unset, .unset, .unset, .unset]) rfl k) ?_
  generalize (if (x6 &&& (4 : Int32)) = (0 : Int32) then x3 else x5) = b3_
  refine own_via (U' := s₁.setTop (mkF m 48 #[.val (.long x1), .second, .val (.long x2), .second, .val (.long x3), .second, .val (.long x4), .second, .val (.long x5), .second, .val (.int x6), .val (.long b1_), .second, .val (.long b2_), .second, .val (.long b3_), .second, .unset, .unset, .unset, .unset, .unset, .unset] [(.int x6)])) (fun t k => XS.iload X0.here hx rfl (hb hby at_46) rfl k) ?_
  refine own_via (U' := s₁.setTop (mkF m 50 #[.val (.long x1), .second, .val (.long x2), .second, .val (.long x3), .second, .val (.long x4), .second, .val (.long x5), .second, .val (.int x6), .val (.long b1_), .second, .val (.long b2_), .second, .val (.long b3_), .second, .unset, .unset, .unset, .unset, .unset, .unset] [(.int (8 : Int32)), (.int x6)])) (fun t k => XS.bipush X0.here hx rfl (hb hby at_48) k) ?_
  refine own_via (U' := s₁.setTop (mkF m 51 #[.val (.long x1), .second, .val (.long x2), .second, .val (.long x3), .second, .val (.long x4), .second, .val (.long x5), .second, .val (.int x6), .val (.long b1_), .second, .val (.long b2_), .second, .val (.long b3_), .second, .unset, .unset, .unset, .unset, .unset, .unset] [(.int (x6 &&& (8 : Int32)))])) (fun t k => XS.iand X0.here hx rfl (hb hby at_50) rfl k) ?_
  refine own_via (U' := s₁.setTop (mkF m 61 #[.val (.long x1), .second, .val (.long x2), .second, .val (.long x3), .second, .val (.long x4), .second, .val (.long x5), .second, .val (.int x6), .val (.long b1_), .second, .val (.long b2_), .second, .val (.long b3_), .second, .unset, .unset, .unset, .unset, .unset, .unset] [(.long (if (x6 &&& (8 : Int32)) = (0 : Int32) then x4 else x5))])) (fun t k => ?_) ?_
  · by_cases hc4 : (x6 &&& (8 : Int32)) = (0 : Int32)
    case pos =>
      simp only [if_pos hc4] at k
      refine XS.ifYes X0.here hx rfl (pc0 := 51) (pc' := 59) rfl (hb hby at_51) rfl ((if0 _ _).trans (teq hc4).1) (by decide) (by decide) ?_
      show Steps p.tables e below (s₁.setTop (mkF m 59 #[.val (.long x1), .second, .val (.long x2), .second, .val (.long x3), .second, .val (.long x4), .second, .val (.long x5), .second, .val (.int x6), .val (.long b1_), .second, .val (.long b2_), .second, .val (.long b3_), .second, .unset, .unset, .unset, .unset, .unset, .unset] [])) _
      refine XS.lload X0.here hx rfl (hb hby at_59) rfl ?_
      show Steps p.tables e below (s₁.setTop (mkF m 61 #[.val (.long x1), .second, .val (.long x2), .second, .val (.long x3), .second, .val (.long x4), .second, .val (.long x5), .second, .val (.int x6), .val (.long b1_), .second, .val (.long b2_), .second, .val (.long b3_), .second, .unset, .unset, .unset, .unset, .unset, .unset] [(.long x4)])) _
      exact k
    case neg =>
      simp only [if_neg hc4] at k
      refine XS.ifNo X0.here hx rfl (hb hby at_51) rfl ((if0 _ _).trans (feq hc4).1) ?_
      show Steps p.tables e below (s₁.setTop (mkF m 54 #[.val (.long x1), .second, .val (.long x2), .second, .val (.long x3), .second, .val (.long x4), .second, .val (.long x5), .second, .val (.int x6), .val (.long b1_), .second, .val (.long b2_), .second, .val (.long b3_), .second, .unset, .unset, .unset, .unset, .unset, .unset] [])) _
      refine XS.lload X0.here hx rfl (hb hby at_54) rfl ?_
      show Steps p.tables e below (s₁.setTop (mkF m 56 #[.val (.long x1), .second, .val (.long x2), .second, .val (.long x3), .second, .val (.long x4), .second, .val (.long x5), .second, .val (.int x6), .val (.long b1_), .second, .val (.long b2_), .second, .val (.long b3_), .second, .unset, .unset, .unset, .unset, .unset, .unset] [(.long x5)])) _
      refine XS.goto X0.here hx rfl (pc0 := 56) (pc' := 61) rfl (hb hby at_56) (by decide) (by decide) ?_
      show Steps p.tables e below (s₁.setTop (mkF m 61 #[.val (.long x1), .second, .val (.long x2), .second, .val (.long x3), .second, .val (.long x4), .second, .val (.long x5), .second, .val (.int x6), .val (.long b1_), .second, .val (.long b2_), .second, .val (.long b3_), .second, .unset, .unset, .unset, .unset, .unset, .unset] [(.long x5)])) _
      exact k
  refine own_via (U' := s₁.setTop (mkF m 63 #[.val (.long x1), .second, .val (.long x2), .second, .val (.long x3), .second, .val (.long x4), .second, .val (.long x5), .second, .val (.int x6), .val (.long b1_), .second, .val (.long b2_), .second, .val (.long b3_), .second, .val (.long (if (x6 &&& (8 : Int32)) = (0 : Int32) then x4 else x5)), .second, .unset, .unset, .unset, .unset] [])) (fun t k => XS.lstore X0.here hx rfl (hb hby at_61) rfl (l' := #[.val (.long x1), .second, .val (.long x2), .second, .val (.long x3), .second, .val (.long x4), .second, .val (.long x5), .second, .val (.int x6), .val (.long b1_), .second, .val (.long b2_), .second, .val (.long b3_), .second, .val (.long (if (x6 &&& (8 : Int32)) = (0 : Int32) then x4 else x5)), .second, .unset, .unset, .unset, .unset]) rfl k) ?_
  generalize (if (x6 &&& (8 : Int32)) = (0 : Int32) then x4 else x5) = b4_
  obtain ⟨T5, h5, X5, e5, E5, A5, D5, -, st5⟩ := newO X0 hx hZ hown (hw _ (List.mem_of_getElem? (i := 0) rfl)) (hw _ (List.mem_of_getElem? (i := 1) rfl)) (hw _ (List.mem_of_getElem? (i := 2) rfl)) e0 (g := (mkF m 63 #[.val (.long x1), .second, .val (.long x2), .second, .val (.long x3), .second, .val (.long x4), .second, .val (.long x5), .second, .val (.int x6), .val (.long b1_), .second, .val (.long b2_), .second, .val (.long b3_), .second, .val (.long b4_), .second, .unset, .unset, .unset, .unset] [])) rfl (hb hby at_63) (by decide) (by decide)
  obtain ⟨b5, g5⟩ : ∃ z, z = h0.size := ⟨_, rfl⟩
  rw [← g5] at A5 D5 st5
  have gn_b5 : n0 ≤ b5 := Nat.le_trans Z0 (Nat.le_of_eq g5.symm)
  have sz_b5 : h0.size ≤ b5 := Nat.le_trans K0.1 (Nat.le_of_eq g5.symm)
  have f6 := Od.ext E5
  have f7 : Fld Z h5 b5 "com/example/gridloom/gridloom/index/Counter" "x" "J" (.long (0 : Int64)) := D5 (Or.inr (hw _ (List.mem_of_getElem? (i := 15) rfl))) (ty := .long) (by decide)
  have f8 : Fld Z h5 b5 "com/example/gridloom/gridloom/index/Counter" "y" "J" (.long (0 : Int64)) := D5 (Or.inr (hw _ (List.mem_of_getElem? (i := 17) rfl))) (ty := .long) (by decide)
  have f9 : Fld Z h5 b5 "com/example/gridloom/gridloom/index/Counter" "z" "J" (.long (0 : Int64)) := D5 (Or.inr (hw _ (List.mem_of_getElem? (i := 19) rfl))) (ty := .long) (by decide)
  have f10 : Fld Z h5 b5 "com/example/gridloom/gridloom/index/Counter" "type" "J" (.long (0 : Int64)) := D5 (Or.inr (hw _ (List.mem_of_getElem? (i := 21) rfl))) (ty := .long) (by decide)
  have Z11 : n0 ≤ h5.size := Nat.le_trans Z0 E5.1
  have K11 := K0.ext E5
  refine own_via (U' := T5.setTop (mkF m 66 #[.val (.long x1), .second, .val (.long x2), .second, .val (.long x3), .second, .val (.long x4), .second, .val (.long x5), .second, .val (.int x6), .val (.long b1_), .second, .val (.long b2_), .second, .val (.long b3_), .second, .val (.long b4_), .second, .unset, .unset, .unset, .unset] [(.ref b5)])) (fun t k => st5 t k) ?_
  refine own_via (U' := T5.setTop (mkF m 67 #[.val (.long x1), .second, .val (.long x2), .second, .val (.long x3), .second, .val (.long x4), .second, .val (.long x5), .second, .val (.int x6), .val (.long b1_), .second, .val (.long b2_), .second, .val (.long b3_), .second, .val (.long b4_), .second, .unset, .unset, .unset, .unset] [(.ref b5), (.ref b5)])) (fun t k => XS.dup X5.here hx rfl (hb hby at_66) rfl rfl k) ?_
  refine own_via (U' := T5.setTop (mkF m 68 #[.val (.long x1), .second, .val (.long x2), .second, .val (.long x3), .second, .val (.long x4), .second, .val (.long x5), .second, .val (.int x6), .val (.long b1_), .second, .val (.long b2_), .second, .val (.long b3_), .second, .val (.long b4_), .second, .unset, .unset, .unset, .unset] [(.long x1), (.ref b5), (.ref b5)])) (fun t k => XS.lloadN X5.here hx rfl (hb hby at_67) rfl k) ?_
  refine own_via (U' := T5.setTop (mkF m 69 #[.val (.long x1), .second, .val (.long x2), .second, .val (.long x3), .second, .val (.long x4), .second, .val (.long x5), .second, .val (.int x6), .val (.long b1_), .second, .val (.long b2_), .second, .val (.long b3_), .second, .val (.long b4_), .second, .unset, .unset, .unset, .unset] [(.long x2), (.long x1), (.ref b5), (.ref b5)])) (fun t k => XS.lloadN X5.here hx rfl (hb hby at_68) rfl k) ?_
  refine own_via (U' := T5.setTop (mkF m 71 #[.val (.long x1), .second, .val (.long x2), .second, .val (.long x3), .second, .val (.long x4), .second, .val (.long x5), .second, .val (.int x6), .val (.long b1_), .second, .val (.long b2_), .second, .val (.long b3_), .second, .val (.long b4_), .second, .unset, .unset, .unset, .unset] [(.long x3), (.long x2), (.long x1), (.ref b5), (.ref b5)])) (fun t k => XS.lload X5.here hx rfl (hb hby at_69) rfl k) ?_
  refine own_via (U' := T5.setTop (mkF m 73 #[.val (.long x1), .second, .val (.long x2), .second, .val (.long x3), .second, .val (.long x4), .second, .val (.long x5), .second, .val (.int x6), .val (.long b1_), .second, .val (.long b2_), .second, .val (.long b3_), .second, .val (.long b4_), .second, .unset, .unset, .unset, .unset] [(.long x4), (.long x3), (.long x2), (.long x1), (.ref b5), (.ref b5)])) (fun t k => XS.lload X5.here hx rfl (hb hby at_71) rfl k) ?_
  obtain ⟨_, T12, L12, X12, hQ12, st12⟩ := own_callI X5 hx hZ (y := (⟨"com/example/gridloom/gridloom/index/Counter", "<init>", "(JJJJ)V"⟩ : MethodName)) rfl (W := 1) hown (hw _ (List.mem_of_getElem? (i := 3) rfl)) (hw _ (List.mem_of_getElem? (i := 4) rfl)) (hw _ (List.mem_of_getElem? (i := 2) rfl)) (hw _ (List.mem_of_getElem? (i := 5) rfl)) (by decide) (rm_Qci l Z a0 hw [] b5 x1 x2 x3 x4 h5 n0 Z11 A5 f7 f8 f9 f10 gn_b5) (by decide) (by decide) e5 (a := b5) (g := (mkF m 73 #[.val (.long x1), .second, .val (.long x2), .second, .val (.long x3), .second, .val (.long x4), .second, .val (.long x5), .second, .val (.int x6), .val (.long b1_), .second, .val (.long b2_), .second, .val (.long b3_), .second, .val (.long b4_), .second, .unset, .unset, .unset, .unset] [(.long x4), (.long x3), (.long x2), (.long x1), (.ref b5), (.ref b5)])) rfl (by rw [hml]; rfl) (argsL := [(.long x1), (.long x2), (.long x3), (.long x4)]) (rest := [(.ref b5)]) rfl (lenOf pd_JJJJ__V rfl) rfl (by show 2 * 0 + _ ≤ _; exact Nat.le_of_eq rfl) (hb hby at_73) (by decide) (by decide)
  obtain ⟨rfl, N12q, K12q, E12q, F12q0, F12q1, F12q2, F12q3⟩ := hQ12
  have N12 := Fr.app N0 N12q
  have f13 := f6.keep K12q (allS gn_b5 all0)
  have f14 := A5.keep K12q
  have Z15 : n0 ≤ T12.heap.size := Nat.le_trans Z11 K12q.1
  have K15 := K11.trans K12q (allS (Or.inr sz_b5) all0)
  refine own_via (U' := T12.setTop (mkF m 76 #[.val (.long x1), .second, .val (.long x2), .second, .val (.long x3), .second, .val (.long x4), .second, .val (.long x5), .second, .val (.int x6), .val (.long b1_), .second, .val (.long b2_), .second, .val (.long b3_), .second, .val (.long b4_), .second, .unset, .unset, .unset, .unset] [(.ref b5)])) (fun t k => st12 t k) ?_
  refine own_via (U' := T12.setTop (mkF m 78 #[.val (.long x1), .second, .val (.long x2), .second, .val (.long x3), .second, .val (.long x4), .second, .val (.long x5), .second, .val (.int x6), .val (.long b1_), .second, .val (.long b2_), .second, .val (.long b3_), .second, .val (.long b4_), .second, .val (.ref b5), .unset, .unset, .unset] [])) (fun t k => XS.astore X12.here hx rfl (hb hby at_76) rfl rfl (l' := #[.val (.long x1), .second, .val (.long x2), .second, .val (.long x3), .second, .val (.long x4), .second, .val (.long x5), .second, .val (.int x6), .val (.long b1_), .second, .val (.long b2_), .second, .val (.long b3_), .second, .val (.long b4_), .second, .val (.ref b5), .unset, .unset, .unset]) rfl k) ?_
  obtain ⟨T16, h16, X16, e16, E16, A16, D16, -, st16⟩ := newO X12 hx hZ hown (hw _ (List.mem_of_getElem? (i := 0) rfl)) (hw _ (List.mem_of_getElem? (i := 1) rfl)) (hw _ (List.mem_of_getElem? (i := 2) rfl)) rfl (g := (mkF m 78 #[.val (.long x1), .second, .val (.long x2), .second, .val (.long x3), .second, .val (.long x4), .second, .val (.long x5), .second, .val (.int x6), .val (.long b1_), .second, .val (.long b2_), .second, .val (.long b3_), .second, .val (.long b4_), .second, .val (.ref b5), .unset, .unset, .unset] [])) rfl (hb hby at_78) (by decide) (by decide)
  obtain ⟨b16, g16⟩ : ∃ z, z = T12.heap.size := ⟨_, rfl⟩
  rw [← g16] at A16 D16 st16
  have ne17 : b5 ≠ b16 := Nat.ne_of_lt (Nat.lt_of_lt_of_le E12q.lt (Nat.le_of_eq g16.symm))
  have gn_b16 : n0 ≤ b16 := Nat.le_trans Z15 (Nat.le_of_eq g16.symm)
  have sz_b16 : h0.size ≤ b16 := Nat.le_trans K15.1 (Nat.le_of_eq g16.symm)
  have f18 := f13.ext E16
  have f19 := E12q.ext E16
  have f20 := F12q0.ext E16
  have f21 := F12q1.ext E16
  have f22 := F12q2.ext E16
  have f23 := F12q3.ext E16
  have f24 : Fld Z h16 b16 "com/example/gridloom/gridloom/index/Counter" "x" "J" (.long (0 : Int64)) := D16 (Or.inr (hw _ (List.mem_of_getElem? (i := 15) rfl))) (ty := .long) (by decide)
  have f25 : Fld Z h16 b16 "com/example/gridloom/gridloom/index/Counter" "y" "J" (.long (0 : Int64)) := D16 (Or.inr (hw _ (List.mem_of_getElem? (i := 17) rfl))) (ty := .long) (by decide)
  have f26 : Fld Z h16 b16 "com/example/gridloom/gridloom/index/Counter" "z" "J" (.long (0 : Int64)) := D16 (Or.inr (hw _ (List.mem_of_getElem? (i := 19) rfl))) (ty := .long) (by decide)
  have f27 : Fld Z h16 b16 "com/example/gridloom/gridloom/index/Counter" "type" "J" (.long (0 : Int64)) := D16 (Or.inr (hw _ (List.mem_of_getElem? (i := 21) rfl))) (ty := .long) (by decide)
  have Z28 : n0 ≤ h16.size := Nat.le_trans Z15 E16.1
  have K28 := K15.ext E16
  refine own_via (U' := T16.setTop (mkF m 81 #[.val (.long x1), .second, .val (.long x2), .second, .val (.long x3), .second, .val (.long x4), .second, .val (.long x5), .second, .val (.int x6), .val (.long b1_), .second, .val (.long b2_), .second, .val (.long b3_), .second, .val (.long b4_), .second, .val (.ref b5), .unset, .unset, .unset] [(.ref b16)])) (fun t k => st16 t k) ?_
  refine own_via (U' := T16.setTop (mkF m 82 #[.val (.long x1), .second, .val (.long x2), .second, .val (.long x3), .second, .val (.long x4), .second, .val (.long x5), .second, .val (.int x6), .val (.long b1_), .second, .val (.long b2_), .second, .val (.long b3_), .second, .val (.long b4_), .second, .val (.ref b5), .unset, .unset, .unset] [(.ref b16), (.ref b16)])) (fun t k => XS.dup X16.here hx rfl (hb hby at_81) rfl rfl k) ?_
  refine own_via (U' := T16.setTop (mkF m 84 #[.val (.long x1), .second, .val (.long x2), .second, .val (.long x3), .second, .val (.long x4), .second, .val (.long x5), .second, .val (.int x6), .val (.long b1_), .second, .val (.long b2_), .second, .val (.long b3_), .second, .val (.long b4_), .second, .val (.ref b5), .unset, .unset, .unset] [(.long b1_), (.ref b16), (.ref b16)])) (fun t k => XS.lload X16.here hx rfl (hb hby at_82) rfl k) ?_
  refine own_via (U' := T16.setTop (mkF m 86 #[.val (.long x1), .second, .val (.long x2), .second, .val (.long x3), .second, .val (.long x4), .second, .val (.long x5), .second, .val (.int x6), .val (.long b1_), .second, .val (.long b2_), .second, .val (.long b3_), .second, .val (.long b4_), .second, .val (.ref b5), .unset, .unset, .unset] [(.long b2_), (.long b1_), (.ref b16), (.ref b16)])) (fun t k => XS.lload X16.here hx rfl (hb hby at_84) rfl k) ?_
  refine own_via (U' := T16.setTop (mkF m 88 #[.val (.long x1), .second, .val (.long x2), .second, .val (.long x3), .second, .val (.long x4), .second, .val (.long x5), .second, .val (.int x6), .val (.long b1_), .second, .val (.long b2_), .second, .val (.long b3_), .second, .val (.long b4_), .second, .val (.ref b5), .unset, .unset, .unset] [(.long b3_), (.long b2_), (.long b1_), (.ref b16), (.ref b16)])) (fun t k => XS.lload X16.here hx rfl (hb hby at_86) rfl k) ?_
  refine own_via (U' := T16.setTop (mkF m 90 #[.val (.long x1), .second, .val (.long x2), .second, .val (.long x3), .second, .val (.long x4), .second, .val (.long x5), .second, .val (.int x6), .val (.long b1_), .second, .val (.long b2_), .second, .val (.long b3_), .second, .val (.long b4_), .second, .val (.ref b5), .unset, .unset, .unset] [(.long b4_), (.long b3_), (.long b2_), (.long b1_), (.ref b16), (.ref b16)])) (fun t k => XS.lload X16.here hx rfl (hb hby at_88) rfl k) ?_
  obtain ⟨_, T29, L29, X29, hQ29, st29⟩ := own_callI X16 hx hZ (y := (⟨"com/example/gridloom/gridloom/index/Counter", "<init>", "(JJJJ)V"⟩ : MethodName)) rfl (W := 1) hown (hw _ (List.mem_of_getElem? (i := 3) rfl)) (hw _ (List.mem_of_getElem? (i := 4) rfl)) (hw _ (List.mem_of_getElem? (i := 2) rfl)) (hw _ (List.mem_of_getElem? (i := 5) rfl)) (by decide) (rm_Qci l Z a0 hw [] b16 b1_ b2_ b3_ b4_ h16 n0 Z28 A16 f24 f25 f26 f27 gn_b16) (by decide) (by decide) e16 (a := b16) (g := (mkF m 90 #[.val (.long x1), .second, .val (.long x2), .second, .val (.long x3), .second, .val (.long x4), .second, .val (.long x5), .second, .val (.int x6), .val (.long b1_), .second, .val (.long b2_), .second, .val (.long b3_), .second, .val (.long b4_), .second, .val (.ref b5), .unset, .unset, .unset] [(.long b4_), (.long b3_), (.long b2_), (.long b1_), (.ref b16), (.ref b16)])) rfl (by rw [hml]; rfl) (argsL := [(.long b1_), (.long b2_), (.long b3_), (.long b4_)]) (rest := [(.ref b16)]) rfl (lenOf pd_JJJJ__V rfl) rfl (by show 2 * 0 + _ ≤ _; exact Nat.le_of_eq rfl) (hb hby at_90) (by decide) (by decide)
  obtain ⟨rfl, N29q, K29q, E29q, F29q0, F29q1, F29q2, F29q3⟩ := hQ29
  have N29 := Fr.app N12 N29q
  have f30 := f18.keep K29q (allS gn_b16 all0)
  have f31 := f19.keep K29q
  have f32 := f20.keep K29q (ninS ne17 nin0)
  have f33 := f21.keep K29q (ninS ne17 nin0)
  have f34 := f22.keep K29q (ninS ne17 nin0)
  have f35 := f23.keep K29q (ninS ne17 nin0)
  have f36 := A16.keep K29q
  have Z37 : n0 ≤ T29.heap.size := Nat.le_trans Z28 K29q.1
  have K37 := K28.trans K29q (allS (Or.inr sz_b16) all0)
  refine own_via (U' := T29.setTop (mkF m 93 #[.val (.long x1), .second, .val (.long x2), .second, .val (.long x3), .second, .val (.long x4), .second, .val (.long x5), .second, .val (.int x6), .val (.long b1_), .second, .val (.long b2_), .second, .val (.long b3_), .second, .val (.long b4_), .second, .val (.ref b5), .unset, .unset, .unset] [(.ref b16)])) (fun t k => st29 t k) ?_
  refine own_via (U' := T29.setTop (mkF m 95 #[.val (.long x1), .second, .val (.long x2), .second, .val (.long x3), .second, .val (.long x4), .second, .val (.long x5), .second, .val (.int x6), .val (.long b1_), .second, .val (.long b2_), .second, .val (.long b3_), .second, .val (.long b4_), .second, .val (.ref b5), .val (.ref b16), .unset, .unset] [])) (fun t k => XS.astore X29.here hx rfl (hb hby at_93) rfl rfl (l' := #[.val (.long x1), .second, .val (.long x2), .second, .val (.long x3), .second, .val (.long x4), .second, .val (.long x5), .second, .val (.int x6), .val (.long b1_), .second, .val (.long b2_), .second, .val (.long b3_), .second, .val (.long b4_), .second, .val (.ref b5), .val (.ref b16), .unset, .unset]) rfl k) ?_
  refine own_via (U' := T29.setTop (mkF m 97 #[.val (.long x1), .second, .val (.long x2), .second, .val (.long x3), .second, .val (.long x4), .second, .val (.long x5), .second, .val (.int x6), .val (.long b1_), .second, .val (.long b2_), .second, .val (.long b3_), .second, .val (.long b4_), .second, .val (.ref b5), .val (.ref b16), .unset, .unset] [(.long b1_)])) (fun t k => XS.lload X29.here hx rfl (hb hby at_95) rfl k) ?_
  refine own_via (U' := T29.setTop (mkF m 98 #[.val (.long x1), .second, .val (.long x2), .second, .val (.long x3), .second, .val (.long x4), .second, .val (.long x5), .second, .val (.int x6), .val (.long b1_), .second, .val (.long b2_), .second, .val (.long b3_), .second, .val (.long b4_), .second, .val (.ref b5), .val (.ref b16), .unset, .unset] [(.long x1), (.long b1_)])) (fun t k => XS.lloadN X29.here hx rfl (hb hby at_97) rfl k) ?_
  refine own_via (U' := T29.setTop (mkF m 99 #[.val (.long x1), .second, .val (.long x2), .second, .val (.long x3), .second, .val (.long x4), .second, .val (.long x5), .second, .val (.int x6), .val (.long b1_), .second, .val (.long b2_), .second, .val (.long b3_), .second, .val (.long b4_), .second, .val (.ref b5), .val (.ref b16), .unset, .unset] [(.int (lcmpW b1_ x1))])) (fun t k => XS.lcmp X29.here hx rfl (hb hby at_98) rfl k) ?_
  by_cases hc38 : b1_ = x1
  case pos =>
    refine own_via (U' := T29.setTop (mkF m 102 #[.val (.long x1), .second, .val (.long x2), .second, .val (.long x3), .second, .val (.long x4), .second, .val (.long x5), .second, .val (.int x6), .val (.long b1_), .second, .val (.long b2_), .second, .val (.long b3_), .second, .val (.long b4_), .second, .val (.ref b5), .val (.ref b16), .unset, .unset] [])) (fun t k => XS.ifNo X29.here hx rfl (hb hby at_99) rfl (own_jeq hc38).2 k) ?_
    refine own_via (U' := T29.setTop (mkF m 104 #[.val (.long x1), .second, .val (.long x2), .second, .val (.long x3), .second, .val (.long x4), .second, .val (.long x5), .second, .val (.int x6), .val (.long b1_), .second, .val (.long b2_), .second, .val (.long b3_), .second, .val (.long b4_), .second, .val (.ref b5), .val (.ref b16), .unset, .unset] [(.long b2_)])) (fun t k => XS.lload X29.here hx rfl (hb hby at_102) rfl k) ?_
    refine own_via (U' := T29.setTop (mkF m 105 #[.val (.long x1), .second, .val (.long x2), .second, .val (.long x3), .second, .val (.long x4), .second, .val (.long x5), .second, .val (.int x6), .val (.long b1_), .second, .val (.long b2_), .second, .val (.long b3_), .second, .val (.long b4_), .second, .val (.ref b5), .val (.ref b16), .unset, .unset] [(.long x2), (.long b2_)])) (fun t k => XS.lloadN X29.here hx rfl (hb hby at_104) rfl k) ?_
    refine own_via (U' := T29.setTop (mkF m 106 #[.val (.long x1), .second, .val (.long x2), .second, .val (.long x3), .second, .val (.long x4), .second, .val (.long x5), .second, .val (.int x6), .val (.long b1_), .second, .val (.long b2_), .second, .val (.long b3_), .second, .val (.long b4_), .second, .val (.ref b5), .val (.ref b16), .unset, .unset] [(.int (lcmpW b2_ x2))])) (fun t k => XS.lcmp X29.here hx rfl (hb hby at_105) rfl k) ?_
    by_cases hc39 : b2_ = x2
    case pos =>
      refine own_via (U' := T29.setTop (mkF m 109 #[.val (.long x1), .second, .val (.long x2), .second, .val (.long x3), .second, .val (.long x4), .second, .val (.long x5), .second, .val (.int x6), .val (.long b1_), .second, .val (.long b2_), .second, .val (.long b3_), .second, .val (.long b4_), .second, .val (.ref b5), .val (.ref b16), .unset, .unset] [])) (fun t k => XS.ifNo X29.here hx rfl (hb hby at_106) rfl (own_jeq hc39).2 k) ?_
      refine own_via (U' := T29.setTop (mkF m 111 #[.val (.long x1), .second, .val (.long x2), .second, .val (.long x3), .second, .val (.long x4), .second, .val (.long x5), .second, .val (.int x6), .val (.long b1_), .second, .val (.long b2_), .second, .val (.long b3_), .second, .val (.long b4_), .second, .val (.ref b5), .val (.ref b16), .unset, .unset] [(.long b3_)])) (fun t k => XS.lload X29.here hx rfl (hb hby at_109) rfl k) ?_
      refine own_via (U' := T29.setTop (mkF m 113 #[.val (.long x1), .second, .val (.long x2), .second, .val (.long x3), .second, .val (.long x4), .second, .val (.long x5), .second, .val (.int x6), .val (.long b1_), .second, .val (.long b2_), .second, .val (.long b3_), .second, .val (.long b4_), .second, .val (.ref b5), .val (.ref b16), .unset, .unset] [(.long x3), (.long b3_)])) (fun t k => XS.lload X29.here hx rfl (hb hby at_111) rfl k) ?_
      refine own_via (U' := T29.setTop (mkF m 114 #[.val (.long x1), .second, .val (.long x2), .second, .val (.long x3), .second, .val (.long x4), .second, .val (.long x5), .second, .val (.int x6), .val (.long b1_), .second, .val (.long b2_), .second, .val (.long b3_), .second, .val (.long b4_), .second, .val (.ref b5), .val (.ref b16), .unset, .unset] [(.int (lcmpW b3_ x3))])) (fun t k => XS.lcmp X29.here hx rfl (hb hby at_113) rfl k) ?_
      by_cases hc40 : b3_ = x3
      case pos =>
        refine own_via (U' := T29.setTop (mkF m 117 #[.val (.long x1), .second, .val (.long x2), .second, .val (.long x3), .second, .val (.long x4), .second, .val (.long x5), .second, .val (.int x6), .val (.long b1_), .second, .val (.long b2_), .second, .val (.long b3_), .second, .val (.long b4_), .second, .val (.ref b5), .val (.ref b16), .unset, .unset] [])) (fun t k => XS.ifNo X29.here hx rfl (hb hby at_114) rfl (own_jeq hc40).2 k) ?_
        refine own_via (U' := T29.setTop (mkF m 119 #[.val (.long x1), .second, .val (.long x2), .second, .val (.long x3), .second, .val (.long x4), .second, .val (.long x5), .second, .val (.int x6), .val (.long b1_), .second, .val (.long b2_), .second, .val (.long b3_), .second, .val (.long b4_), .second, .val (.ref b5), .val (.ref b16), .unset, .unset] [(.long b4_)])) (fun t k => XS.lload X29.here hx rfl (hb hby at_117) rfl k) ?_
        refine own_via (U' := T29.setTop (mkF m 121 #[.val (.long x1), .second, .val (.long x2), .second, .val (.long x3), .second, .val (.long x4), .second, .val (.long x5), .second, .val (.int x6), .val (.long b1_), .second, .val (.long b2_), .second, .val (.long b3_), .second, .val (.long b4_), .second, .val (.ref b5), .val (.ref b16), .unset, .unset] [(.long x4), (.long b4_)])) (fun t k => XS.lload X29.here hx rfl (hb hby at_119) rfl k) ?_
        refine own_via (U' := T29.setTop (mkF m 122 #[.val (.long x1), .second, .val (.long x2), .second, .val (.long x3), .second, .val (.long x4), .second, .val (.long x5), .second, .val (.int x6), .val (.long b1_), .second, .val (.long b2_), .second, .val (.long b3_), .second, .val (.long b4_), .second, .val (.ref b5), .val (.ref b16), .unset, .unset] [(.int (lcmpW b4_ x4))])) (fun t k => XS.lcmp X29.here hx rfl (hb hby at_121) rfl k) ?_
        by_cases hc41 : b4_ = x4
        case pos =>
          refine own_via (U' := T29.setTop (mkF m 125 #[.val (.long x1), .second, .val (.long x2), .second, .val (.long x3), .second, .val (.long x4), .second, .val (.long x5), .second, .val (.int x6), .val (.long b1_), .second, .val (.long b2_), .second, .val (.long b3_), .second, .val (.long b4_), .second, .val (.ref b5), .val (.ref b16), .unset, .unset] [])) (fun t k => XS.ifNo X29.here hx rfl (hb hby at_122) rfl (own_jeq hc41).2 k) ?_
          refine own_via (U' := T29.setTop (mkF m 126 #[.val (.long x1), .second, .val (.long x2), .second, .val (.long x3), .second, .val (.long x4), .second, .val (.long x5), .second, .val (.int x6), .val (.long b1_), .second, .val (.long b2_), .second, .val (.long b3_), .second, .val (.long b4_), .second, .val (.ref b5), .val (.ref b16), .unset, .unset] [(.int (1 : Int32))])) (fun t k => XS.iconst X29.here hx rfl (hb hby at_125) k) ?_
          refine own_via (U' := T29.setTop (mkF m 130 #[.val (.long x1), .second, .val (.long x2), .second, .val (.long x3), .second, .val (.long x4), .second, .val (.long x5), .second, .val (.int x6), .val (.long b1_), .second, .val (.long b2_), .second, .val (.long b3_), .second, .val (.long b4_), .second, .val (.ref b5), .val (.ref b16), .unset, .unset] [(.int (1 : Int32))])) (fun t k => XS.goto X29.here hx rfl (pc0 := 126) (pc' := 130) rfl (hb hby at_126) (by decide) (by decide) k) ?_
          refine own_via (U' := T29.setTop (mkF m 132 #[.val (.long x1), .second, .val (.long x2), .second, .val (.long x3), .second, .val (.long x4), .second, .val (.long x5), .second, .val (.int x6), .val (.long b1_), .second, .val (.long b2_), .second, .val (.long b3_), .second, .val (.long b4_), .second, .val (.ref b5), .val (.ref b16), .val (.int (1 : Int32)), .unset] [])) (fun t k => XS.istore X29.here hx rfl (hb hby at_130) rfl (l' := #[.val (.long x1), .second, .val (.long x2), .second, .val (.long x3), .second, .val (.long x4), .second, .val (.long x5), .second, .val (.int x6), .val (.long b1_), .second, .val (.long b2_), .second, .val (.long b3_), .second, .val (.long b4_), .second, .val (.ref b5), .val (.ref b16), .val (.int (1 : Int32)), .unset]) rfl k) ?_
          refine own_via (U' := T29.setTop (mkF m 134 #[.val (.long x1), .second, .val (.long x2), .second, .val (.long x3), .second, .val (.long x4), .second, .val (.long x5), .second, .val (.int x6), .val (.long b1_), .second, .val (.long b2_), .second, .val (.long b3_), .second, .val (.long b4_), .second, .val (.ref b5), .val (.ref b16), .val (.int (1 : Int32)), .unset] [(.int x6)])) (fun t k => XS.iload X29.here hx rfl (hb hby at_132) rfl k) ?_
          refine own_via (U' := T29.setTop (mkF m 136 #[.val (.long x1), .second, .val (.long x2), .second, .val (.long x3), .second, .val (.long x4), .second, .val (.long x5), .second, .val (.int x6), .val (.long b1_), .second, .val (.long b2_), .second, .val (.long b3_), .second, .val (.long b4_), .second, .val (.ref b5), .val (.ref b16), .val (.int (1 : Int32)), .unset] [(.int (16 : Int32)), (.int x6)])) (fun t k => XS.bipush X29.here hx rfl (hb hby at_134) k) ?_
          refine own_via (U' := T29.setTop (mkF m 137 #[.val (.long x1), .second, .val (.long x2), .second, .val (.long x3), .second, .val (.long x4), .second, .val (.long x5), .second, .val (.int x6), .val (.long b1_), .second, .val (.long b2_), .second, .val (.long b3_), .second, .val (.long b4_), .second, .val (.ref b5), .val (.ref b16), .val (.int (1 : Int32)), .unset] [(.int (x6 &&& (16 : Int32)))])) (fun t k => XS.iand X29.here hx rfl (hb hby at_136) rfl k) ?_
          by_cases hc42 : (x6 &&& (16 : Int32)) = (0 : Int32)
          case pos =>
            refine own_via (U' := T29.setTop (mkF m 144 #[.val (.long x1), .second, .val (.long x2), .second, .val (.long x3), .second, .val (.long x4), .second, .val (.long x5), .second, .val (.int x6), .val (.long b1_), .second, .val (.long b2_), .second, .val (.long b3_), .second, .val (.long b4_), .second, .val (.ref b5), .val (.ref b16), .val (.int (1 : Int32)), .unset] [])) (fun t k => XS.ifYes X29.here hx rfl (pc0 := 137) (pc' := 144) rfl (hb hby at_137) rfl ((if0 _ _).trans (teq hc42).1) (by decide) (by decide) k) ?_
            refine own_via (U' := T29.setTop (mkF m 145 #[.val (.long x1), .second, .val (.long x2), .second, .val (.long x3), .second, .val (.long x4), .second, .val (.long x5), .second, .val (.int x6), .val (.long b1_), .second, .val (.long b2_), .second, .val (.long b3_), .second, .val (.long b4_), .second, .val (.ref b5), .val (.ref b16), .val (.int (1 : Int32)), .unset] [(.long x1)])) (fun t k => XS.lloadN X29.here hx rfl (hb hby at_144) rfl k) ?_
            obtain ⟨_, T43, L43, X43, hQ43, st43⟩ := own_callS X29 hx hZ (y := (⟨"java/lang/Long", "valueOf", "(J)Ljava/lang/Long;"⟩ : MethodName)) (W := 0) hown (hw _ (List.mem_of_getElem? (i := 22) rfl)) (hw _ (List.mem_of_getElem? (i := 23) rfl)) (hw _ (List.mem_of_getElem? (i := 24) rfl)) (hw _ (List.mem_of_getElem? (i := 25) rfl)) (by decide) (rm_Qvo l Z a0 hw [] x1 ca cl T29.heap n0 Z37 f30 Sc Bx) (by decide) (by decide) rfl (g := (mkF m 145 #[.val (.long x1), .second, .val (.long x2), .second, .val (.long x3), .second, .val (.long x4), .second, .val (.long x5), .second, .val (.int x6), .val (.long b1_), .second, .val (.long b2_), .second, .val (.long b3_), .second, .val (.long b4_), .second, .val (.ref b5), .val (.ref b16), .val (.int (1 : Int32)), .unset] [(.long x1)])) rfl (by rw [hml]; rfl) (argsL := [(.long x1)]) (rest := []) rfl (lenOf pd_J__Ljava_lang_Long_ rfl) rfl (by show 2 * 0 + _ ≤ _; exact Nat.le_of_eq rfl) (hb hby at_145) (by decide) (by decide)
            obtain ⟨lb43, rfl, N43q, K43q, E43q⟩ := hQ43
            have N43 := Fr.app N29 N43q
            have f44 := f30.keep K43q all0
            have f45 := f31.keep K43q
            have f46 := f32.keep K43q nin0
            have f47 := f33.keep K43q nin0
            have f48 := f34.keep K43q nin0
            have f49 := f35.keep K43q nin0
            have f50 := E29q.keep K43q
            have f51 := F29q0.keep K43q nin0
            have f52 := F29q1.keep K43q nin0
            have f53 := F29q2.keep K43q nin0
            have f54 := F29q3.keep K43q nin0
            have Z55 : n0 ≤ T43.heap.size := Nat.le_trans Z37 K43q.1
            have K55 := K37.trans K43q all0
            refine own_via (U' := T43.setTop (mkF m 148 #[.val (.long x1), .second, .val (.long x2), .second, .val (.long x3), .second, .val (.long x4), .second, .val (.long x5), .second, .val (.int x6), .val (.long b1_), .second, .val (.long b2_), .second, .val (.long b3_), .second, .val (.long b4_), .second, .val (.ref b5), .val (.ref b16), .val (.int (1 : Int32)), .unset] [(.ref lb43)])) (fun t k => st43 t k) ?_
            refine own_via (U' := T43.setTop (mkF m 150 #[.val (.long x1), .second, .val (.long x2), .second, .val (.long x3), .second, .val (.long x4), .second, .val (.long x5), .second, .val (.int x6), .val (.long b1_), .second, .val (.long b2_), .second, .val (.long b3_), .second, .val (.long b4_), .second, .val (.ref b5), .val (.ref b16), .val (.int (1 : Int32)), .val (.ref lb43)] [])) (fun t k => XS.astore X43.here hx rfl (hb hby at_148) rfl rfl (l' := #[.val (.long x1), .second, .val (.long x2), .second, .val (.long x3), .second, .val (.long x4), .second, .val (.long x5), .second, .val (.int x6), .val (.long b1_), .second, .val (.long b2_), .second, .val (.long b3_), .second, .val (.long b4_), .second, .val (.ref b5), .val (.ref b16), .val (.int (1 : Int32)), .val (.ref lb43)]) rfl k) ?_
            refine own_via (U' := T43.setTop (mkF m 152 #[.val (.long x1), .second, .val (.long x2), .second, .val (.long x3), .second, .val (.long x4), .second, .val (.long x5), .second, .val (.int x6), .val (.long b1_), .second, .val (.long b2_), .second, .val (.long b3_), .second, .val (.long b4_), .second, .val (.ref b5), .val (.ref b16), .val (.int (1 : Int32)), .val (.ref lb43)] [(.ref b5)])) (fun t k => XS.aload X43.here hx rfl (hb hby at_150) rfl rfl k) ?_
            refine own_via (U' := T43.setTop (mkF m 154 #[.val (.long x1), .second, .val (.long x2), .second, .val (.long x3), .second, .val (.long x4), .second, .val (.long x5), .second, .val (.int x6), .val (.long b1_), .second, .val (.long b2_), .second, .val (.long b3_), .second, .val (.long b4_), .second, .val (.ref b5), .val (.ref b16), .val (.int (1 : Int32)), .val (.ref lb43)] [(.ref b16), (.ref b5)])) (fun t k => XS.aload X43.here hx rfl (hb hby at_152) rfl rfl k) ?_
            obtain ⟨_, T56, L56, X56, hQ56, st56⟩ := own_callV X43 hx hZ (y := (⟨"com/example/gridloom/gridloom/index/Counter", "equals", "(Ljava/lang/Object;)Z"⟩ : MethodName)) (W := 0) (C := "com/example/gridloom/gridloom/index/Counter") hown (hw _ (List.mem_of_getElem? (i := 30) rfl)) (hw _ (List.mem_of_getElem? (i := 31) rfl)) (hw _ (List.mem_of_getElem? (i := 33) rfl)) (hw _ (List.mem_of_getElem? (i := 32) rfl)) (hw _ (List.mem_of_getElem? (i := 2) rfl)) (hw _ (List.mem_of_getElem? (i := 34) rfl)) (by decide) (rm_Qe1 l Z a0 hw [] b5 b16 x1 x2 x3 x4 b1_ b2_ b3_ b4_ T43.heap n0 Z55 f50 f46 f47 f48 f49 f51 f52 f53 f54) (by decide) (by decide) rfl f45 (g := (mkF m 154 #[.val (.long x1), .second, .val (.long x2), .second, .val (.long x3), .second, .val (.long x4), .second, .val (.long x5), .second, .val (.int x6), .val (.long b1_), .second, .val (.long b2_), .second, .val (.long b3_), .second, .val (.long b4_), .second, .val (.ref b5), .val (.ref b16), .val (.int (1 : Int32)), .val (.ref lb43)] [(.ref b16), (.ref b5)])) rfl (by rw [hml]; rfl) (argsL := [(.ref b16)]) (rest := []) rfl (lenOf pd_Ljava_lang_Object___Z rfl) rfl (by show 2 * 0 + _ ≤ _; exact Nat.le_of_eq rfl) (hb hby at_154) (by decide) (by decide)
            obtain ⟨rfl, N56q, e56⟩ := hQ56
            have N56 := Fr.app N43 N56q
            refine own_via (U' := T56.setTop (mkF m 157 #[.val (.long x1), .second, .val (.long x2), .second, .val (.long x3), .second, .val (.long x4), .second, .val (.long x5), .second, .val (.int x6), .val (.long b1_), .second, .val (.long b2_), .second, .val (.long b3_), .second, .val (.long b4_), .second, .val (.ref b5), .val (.ref b16), .val (.int (1 : Int32)), .val (.ref lb43)] [(.int (if x1 = b1_ then (if x2 = b2_ then (if x3 = b3_ then (if x4 = b4_ then (1 : Int32) else (0 : Int32)) else (0 : Int32)) else (0 : Int32)) else (0 : Int32)))])) (fun t k => st56 t k) ?_
            refine own_via (U' := T56.setTop (mkF m 159 #[.val (.long x1), .second, .val (.long x2), .second, .val (.long x3), .second, .val (.long x4), .second, .val (.long x5), .second, .val (.int x6), .val (.long b1_), .second, .val (.long b2_), .second, .val (.long b3_), .second, .val (.long b4_), .second, .val (.ref b5), .val (.ref b16), .val (.int (1 : Int32)), .val (.ref lb43)] [(.int (1 : Int32)), (.int (if x1 = b1_ then (if x2 = b2_ then (if x3 = b3_ then (if x4 = b4_ then (1 : Int32) else (0 : Int32)) else (0 : Int32)) else (0 : Int32)) else (0 : Int32)))])) (fun t k => XS.iload X56.here hx rfl (hb hby at_157) rfl k) ?_
            refine own_via (U' := T56.setTop (mkF m 162 #[.val (.long x1), .second, .val (.long x2), .second, .val (.long x3), .second, .val (.long x4), .second, .val (.long x5), .second, .val (.int x6), .val (.long b1_), .second, .val (.long b2_), .second, .val (.long b3_), .second, .val (.long b4_), .second, .val (.ref b5), .val (.ref b16), .val (.int (1 : Int32)), .val (.ref lb43)] [])) (fun t k => XS.icmpNo X56.here hx rfl (hb hby at_159) rfl (teq (by rw [if_pos hc38.symm, if_pos hc39.symm, if_pos hc40.symm, if_pos hc41.symm])).2 k) ?_
            refine own_via (U' := T56.setTop (mkF m 164 #[.val (.long x1), .second, .val (.long x2), .second, .val (.long x3), .second, .val (.long x4), .second, .val (.long x5), .second, .val (.int x6), .val (.long b1_), .second, .val (.long b2_), .second, .val (.long b3_), .second, .val (.long b4_), .second, .val (.ref b5), .val (.ref b16), .val (.int (1 : Int32)), .val (.ref lb43)] [(.ref b16)])) (fun t k => XS.aload X56.here hx rfl (hb hby at_162) rfl rfl k) ?_
            refine own_via (U' := T56.setTop (mkF m 166 #[.val (.long x1), .second, .val (.long x2), .second, .val (.long x3), .second, .val (.long x4), .second, .val (.long x5), .second, .val (.int x6), .val (.long b1_), .second, .val (.long b2_), .second, .val (.long b3_), .second, .val (.long b4_), .second, .val (.ref b5), .val (.ref b16), .val (.int (1 : Int32)), .val (.ref lb43)] [(.ref b5), (.ref b16)])) (fun t k => XS.aload X56.here hx rfl (hb hby at_164) rfl rfl k) ?_
            obtain ⟨_, T57, L57, X57, hQ57, st57⟩ := own_callV X56 hx hZ (y := (⟨"com/example/gridloom/gridloom/index/Counter", "equals", "(Ljava/lang/Object;)Z"⟩ : MethodName)) (W := 0) (C := "com/example/gridloom/gridloom/index/Counter") hown (hw _ (List.mem_of_getElem? (i := 30) rfl)) (hw _ (List.mem_of_getElem? (i := 31) rfl)) (hw _ (List.mem_of_getElem? (i := 33) rfl)) (hw _ (List.mem_of_getElem? (i := 32) rfl)) (hw _ (List.mem_of_getElem? (i := 2) rfl)) (hw _ (List.mem_of_getElem? (i := 34) rfl)) (by decide) (rm_Qe1 l Z a0 hw [] b16 b5 b1_ b2_ b3_ b4_ x1 x2 x3 x4 T43.heap n0 Z55 f45 f51 f52 f53 f54 f46 f47 f48 f49) (by decide) (by decide) e56 f50 (g := (mkF m 166 #[.val (.long x1), .second, .val (.long x2), .second, .val (.long x3), .second, .val (.long x4), .second, .val (.long x5), .second, .val (.int x6), .val (.long b1_), .second, .val (.long b2_), .second, .val (.long b3_), .second, .val (.long b4_), .second, .val (.ref b5), .val (.ref b16), .val (.int (1 : Int32)), .val (.ref lb43)] [(.ref b5), (.ref b16)])) rfl (by rw [hml]; rfl) (argsL := [(.ref b5)]) (rest := []) rfl (lenOf pd_Ljava_lang_Object___Z rfl) rfl (by show 2 * 0 + _ ≤ _; exact Nat.le_of_eq rfl) (hb hby at_166) (by decide) (by decide)
            obtain ⟨rfl, N57q, e57⟩ := hQ57
            have N57 := Fr.app N56 N57q
            refine own_via (U' := T57.setTop (mkF m 169 #[.val (.long x1), .second, .val (.long x2), .second, .val (.long x3), .second, .val (.long x4), .second, .val (.long x5), .second, .val (.int x6), .val (.long b1_), .second, .val (.long b2_), .second, .val (.long b3_), .second, .val (.long b4_), .second, .val (.ref b5), .val (.ref b16), .val (.int (1 : Int32)), .val (.ref lb43)] [(.int (if b1_ = x1 then (if b2_ = x2 then (if b3_ = x3 then (if b4_ = x4 then (1 : Int32) else (0 : Int32)) else (0 : Int32)) else (0 : Int32)) else (0 : Int32)))])) (fun t k => st57 t k) ?_
            refine own_via (U' := T57.setTop (mkF m 171 #[.val (.long x1), .second, .val (.long x2), .second, .val (.long x3), .second, .val (.long x4), .second, .val (.long x5), .second, .val (.int x6), .val (.long b1_), .second, .val (.long b2_), .second, .val (.long b3_), .second, .val (.long b4_), .second, .val (.ref b5), .val (.ref b16), .val (.int (1 : Int32)), .val (.ref lb43)] [(.int (1 : Int32)), (.int (if b1_ = x1 then (if b2_ = x2 then (if b3_ = x3 then (if b4_ = x4 then (1 : Int32) else (0 : Int32)) else (0 : Int32)) else (0 : Int32)) else (0 : Int32)))])) (fun t k => XS.iload X57.here hx rfl (hb hby at_169) rfl k) ?_
            refine own_via (U' := T57.setTop (mkF m 174 #[.val (.long x1), .second, .val (.long x2), .second, .val (.long x3), .second, .val (.long x4), .second, .val (.long x5), .second, .val (.int x6), .val (.long b1_), .second, .val (.long b2_), .second, .val (.long b3_), .second, .val (.long b4_), .second, .val (.ref b5), .val (.ref b16), .val (.int (1 : Int32)), .val (.ref lb43)] [])) (fun t k => XS.icmpNo X57.here hx rfl (hb hby at_171) rfl (teq (by rw [if_pos hc38, if_pos hc39, if_pos hc40, if_pos hc41])).2 k) ?_
            refine own_via (U' := T57.setTop (mkF m 176 #[.val (.long x1), .second, .val (.long x2), .second, .val (.long x3), .second, .val (.long x4), .second, .val (.long x5), .second, .val (.int x6), .val (.long b1_), .second, .val (.long b2_), .second, .val (.long b3_), .second, .val (.long b4_), .second, .val (.ref b5), .val (.ref b16), .val (.int (1 : Int32)), .val (.ref lb43)] [(.ref b5)])) (fun t k => XS.aload X57.here hx rfl (hb hby at_174) rfl rfl k) ?_
            refine own_via (U' := T57.setTop (mkF m 178 #[.val (.long x1), .second, .val (.long x2), .second, .val (.long x3), .second, .val (.long x4), .second, .val (.long x5), .second, .val (.int x6), .val (.long b1_), .second, .val (.long b2_), .second, .val (.long b3_), .second, .val (.long b4_), .second, .val (.ref b5), .val (.ref b16), .val (.int (1 : Int32)), .val (.ref lb43)] [(.ref b5), (.ref b5)])) (fun t k => XS.aload X57.here hx rfl (hb hby at_176) rfl rfl k) ?_
            obtain ⟨_, T58, L58, X58, hQ58, st58⟩ := own_callV X57 hx hZ (y := (⟨"com/example/gridloom/gridloom/index/Counter", "equals", "(Ljava/lang/Object;)Z"⟩ : MethodName)) (W := 0) (C := "com/example/gridloom/gridloom/index/Counter") hown (hw _ (List.mem_of_getElem? (i := 30) rfl)) (hw _ (List.mem_of_getElem? (i := 31) rfl)) (hw _ (List.mem_of_getElem? (i := 33) rfl)) (hw _ (List.mem_of_getElem? (i := 32) rfl)) (hw _ (List.mem_of_getElem? (i := 2) rfl)) (hw _ (List.mem_of_getElem? (i := 34) rfl)) (by decide) (rm_Qe1 l Z a0 hw [] b5 b5 x1 x2 x3 x4 x1 x2 x3 x4 T43.heap n0 Z55 f45 f46 f47 f48 f49 f46 f47 f48 f49) (by decide) (by decide) e57 f45 (g := (mkF m 178 #[.val (.long x1), .second, .val (.long x2), .second, .val (.long x3), .second, .val (.long x4), .second, .val (.long x5), .second, .val (.int x6), .val (.long b1_), .second, .val (.long b2_), .second, .val (.long b3_), .second, .val (.long b4_), .second, .val (.ref b5), .val (.ref b16), .val (.int (1 : Int32)), .val (.ref lb43)] [(.ref b5), (.ref b5)])) rfl (by rw [hml]; rfl) (argsL := [(.ref b5)]) (rest := []) rfl (lenOf pd_Ljava_lang_Object___Z rfl) rfl (by show 2 * 0 + _ ≤ _; exact Nat.le_of_eq rfl) (hb hby at_178) (by decide) (by decide)
            obtain ⟨rfl, N58q, e58⟩ := hQ58
            have N58 := Fr.app N57 N58q
            refine own_via (U' := T58.setTop (mkF m 181 #[.val (.long x1), .second, .val (.long x2), .second, .val (.long x3), .second, .val (.long x4), .second, .val (.long x5), .second, .val (.int x6), .val (.long b1_), .second, .val (.long b2_), .second, .val (.long b3_), .second, .val (.long b4_), .second, .val (.ref b5), .val (.ref b16), .val (.int (1 : Int32)), .val (.ref lb43)] [(.int (if x1 = x1 then (if x2 = x2 then (if x3 = x3 then (if x4 = x4 then (1 : Int32) else (0 : Int32)) else (0 : Int32)) else (0 : Int32)) else (0 : Int32)))])) (fun t k => st58 t k) ?_
            refine own_via (U' := T58.setTop (mkF m 184 #[.val (.long x1), .second, .val (.long x2), .second, .val (.long x3), .second, .val (.long x4), .second, .val (.long x5), .second, .val (.int x6), .val (.long b1_), .second, .val (.long b2_), .second, .val (.long b3_), .second, .val (.long b4_), .second, .val (.ref b5), .val (.ref b16), .val (.int (1 : Int32)), .val (.ref lb43)] [])) (fun t k => XS.ifNo X58.here hx rfl (hb hby at_181) rfl ((if0 _ _).trans (feq (by rw [if_pos rfl, if_pos rfl, if_pos rfl, if_pos rfl]; decide)).1) k) ?_
            refine own_via (U' := T58.setTop (mkF m 186 #[.val (.long x1), .second, .val (.long x2), .second, .val (.long x3), .second, .val (.long x4), .second, .val (.long x5), .second, .val (.int x6), .val (.long b1_), .second, .val (.long b2_), .second, .val (.long b3_), .second, .val (.long b4_), .second, .val (.ref b5), .val (.ref b16), .val (.int (1 : Int32)), .val (.ref lb43)] [(.ref b5)])) (fun t k => XS.aload X58.here hx rfl (hb hby at_184) rfl rfl k) ?_
            refine own_via (U' := T58.setTop (mkF m 188 #[.val (.long x1), .second, .val (.long x2), .second, .val (.long x3), .second, .val (.long x4), .second, .val (.long x5), .second, .val (.int x6), .val (.long b1_), .second, .val (.long b2_), .second, .val (.long b3_), .second, .val (.long b4_), .second, .val (.ref b5), .val (.ref b16), .val (.int (1 : Int32)), .val (.ref lb43)] [(.ref lb43), (.ref b5)])) (fun t k => XS.aload X58.here hx rfl (hb hby at_186) rfl rfl k) ?_
            obtain ⟨_, T59, L59, X59, hQ59, st59⟩ := own_callV X58 hx hZ (y := (⟨"com/example/gridloom/gridloom/index/Counter", "equals", "(Ljava/lang/Object;)Z"⟩ : MethodName)) (W := 0) (C := "com/example/gridloom/gridloom/index/Counter") hown (hw _ (List.mem_of_getElem? (i := 30) rfl)) (hw _ (List.mem_of_getElem? (i := 31) rfl)) (hw _ (List.mem_of_getElem? (i := 33) rfl)) (hw _ (List.mem_of_getElem? (i := 32) rfl)) (hw _ (List.mem_of_getElem? (i := 2) rfl)) (hw _ (List.mem_of_getElem? (i := 34) rfl)) (by decide) (rm_Qe3 l Z a0 hw [] b5 lb43 T43.heap n0 Z55 E43q) (by decide) (by decide) e58 f45 (g := (mkF m 188 #[.val (.long x1), .second, .val (.long x2), .second, .val (.long x3), .second, .val (.long x4), .second, .val (.long x5), .second, .val (.int x6), .val (.long b1_), .second, .val (.long b2_), .second, .val (.long b3_), .second, .val (.long b4_), .second, .val (.ref b5), .val (.ref b16), .val (.int (1 : Int32)), .val (.ref lb43)] [(.ref lb43), (.ref b5)])) rfl (by rw [hml]; rfl) (argsL := [(.ref lb43)]) (rest := []) rfl (lenOf pd_Ljava_lang_Object___Z rfl) rfl (by show 2 * 0 + _ ≤ _; exact Nat.le_of_eq rfl) (hb hby at_188) (by decide) (by decide)
            obtain ⟨rfl, N59q, e59⟩ := hQ59
            have N59 := Fr.app N58 N59q
            refine own_via (U' := T59.setTop (mkF m 191 #[.val (.long x1), .second, .val (.long x2), .second, .val (.long x3), .second, .val (.long x4), .second, .val (.long x5), .second, .val (.int x6), .val (.long b1_), .second, .val (.long b2_), .second, .val (.long b3_), .second, .val (.long b4_), .second, .val (.ref b5), .val (.ref b16), .val (.int (1 : Int32)), .val (.ref lb43)] [(.int (0 : Int32))])) (fun t k => st59 t k) ?_
            refine own_via (U' := T59.setTop (mkF m 194 #[.val (.long x1), .second, .val (.long x2), .second, .val (.long x3), .second, .val (.long x4), .second, .val (.long x5), .second, .val (.int x6), .val (.long b1_), .second, .val (.long b2_), .second, .val (.long b3_), .second, .val (.long b4_), .second, .val (.ref b5), .val (.ref b16), .val (.int (1 : Int32)), .val (.ref lb43)] [])) (fun t k => XS.ifNo X59.here hx rfl (hb hby at_191) rfl ((if0 _ _).trans (teq (by decide : ((0 : Int32) = (0 : Int32)))).2) k) ?_
            refine own_via (U' := T59.setTop (mkF m 195 #[.val (.long x1), .second, .val (.long x2), .second, .val (.long x3), .second, .val (.long x4), .second, .val (.long x5), .second, .val (.int x6), .val (.long b1_), .second, .val (.long b2_), .second, .val (.long b3_), .second, .val (.long b4_), .second, .val (.ref b5), .val (.ref b16), .val (.int (1 : Int32)), .val (.ref lb43)] [(.int (1 : Int32))])) (fun t k => XS.iconst X59.here hx rfl (hb hby at_194) k) ?_
            refine own_via (U' := T59.setTop (mkF m 199 #[.val (.long x1), .second, .val (.long x2), .second, .val (.long x3), .second, .val (.long x4), .second, .val (.long x5), .second, .val (.int x6), .val (.long b1_), .second, .val (.long b2_), .second, .val (.long b3_), .second, .val (.long b4_), .second, .val (.ref b5), .val (.ref b16), .val (.int (1 : Int32)), .val (.ref lb43)] [(.int (1 : Int32))])) (fun t k => XS.goto X59.here hx rfl (pc0 := 195) (pc' := 199) rfl (hb hby at_195) (by decide) (by decide) k) ?_
            exact own_ret X59 (v := some (.int (1 : Int32))) (fun h => by rw [Bd.returns] at h; cases h) hlk (fun fs hr => retN X59 hx (t := .boolean) Bd.returns (by simp) (hb hby at_199) hr) (by rw [e59]; exact ⟨rfl, N59⟩) (by decide) (by decide)
          case neg =>
            refine own_via (U' := T29.setTop (mkF m 140 #[.val (.long x1), .second, .val (.long x2), .second, .val (.long x3), .second, .val (.long x4), .second, .val (.long x5), .second, .val (.int x6), .val (.long b1_), .second, .val (.long b2_), .second, .val (.long b3_), .second, .val (.long b4_), .second, .val (.ref b5), .val (.ref b16), .val (.int (1 : Int32)), .unset] [])) (fun t k => XS.ifNo X29.here hx rfl (hb hby at_137) rfl ((if0 _ _).trans (feq hc42).1) k) ?_
            refine own_via (U' := T29.setTop (mkF m 141 #[.val (.long x1), .second, .val (.long x2), .second, .val (.long x3), .second, .val (.long x4), .second, .val (.long x5), .second, .val (.int x6), .val (.long b1_), .second, .val (.long b2_), .second, .val (.long b3_), .second, .val (.long b4_), .second, .val (.ref b5), .val (.ref b16), .val (.int (1 : Int32)), .unset] [.null])) (fun t k => XS.aconstNull X29.here hx rfl (hb hby at_140) k) ?_
            refine own_via (U' := T29.setTop (mkF m 148 #[.val (.long x1), .second, .val (.long x2), .second, .val (.long x3), .second, .val (.long x4), .second, .val (.long x5), .second, .val (.int x6), .val (.long b1_), .second, .val (.long b2_), .second, .val (.long b3_), .second, .val (.long b4_), .second, .val (.ref b5), .val (.ref b16), .val (.int (1 : Int32)), .unset] [.null])) (fun t k => XS.goto X29.here hx rfl (pc0 := 141) (pc' := 148) rfl (hb hby at_141) (by decide) (by decide) k) ?_
            refine own_via (U' := T29.setTop (mkF m 150 #[.val (.long x1), .second, .val (.long x2), .second, .val (.long x3), .second, .val (.long x4), .second, .val (.long x5), .second, .val (.int x6), .val (.long b1_), .second, .val (.long b2_), .second, .val (.long b3_), .second, .val (.long b4_), .second, .val (.ref b5), .val (.ref b16), .val (.int (1 : Int32)), .val .null] [])) (fun t k => XS.astore X29.here hx rfl (hb hby at_148) rfl rfl (l' := #[.val (.long x1), .second, .val (.long x2), .second, .val (.long x3), .second, .val (.long x4), .second, .val (.long x5), .second, .val (.int x6), .val (.long b1_), .second, .val (.long b2_), .second, .val (.long b3_), .second, .val (.long b4_), .second, .val (.ref b5), .val (.ref b16), .val (.int (1 : Int32)), .val .null]) rfl k) ?_
            refine own_via (U' := T29.setTop (mkF m 152 #[.val (.long x1), .second, .val (.long x2), .second, .val (.long x3), .second, .val (.long x4), .second, .val (.long x5), .second, .val (.int x6), .val (.long b1_), .second, .val (.long b2_), .second, .val (.long b3_), .second, .val (.long b4_), .second, .val (.ref b5), .val (.ref b16), .val (.int (1 : Int32)), .val .null] [(.ref b5)])) (fun t k => XS.aload X29.here hx rfl (hb hby at_150) rfl rfl k) ?_
            refine own_via (U' := T29.setTop (mkF m 154 #[.val (.long x1), .second, .val (.long x2), .second, .val (.long x3), .second, .val (.long x4), .second, .val (.long x5), .second, .val (.int x6), .val (.long b1_), .second, .val (.long b2_), .second, .val (.long b3_), .second, .val (.long b4_), .second, .val (.ref b5), .val (.ref b16), .val (.int (1 : Int32)), .val .null] [(.ref b16), (.ref b5)])) (fun t k => XS.aload X29.here hx rfl (hb hby at_152) rfl rfl k) ?_
            obtain ⟨_, T60, L60, X60, hQ60, st60⟩ := own_callV X29 hx hZ (y := (⟨"com/example/gridloom/gridloom/index/Counter", "equals", "(Ljava/lang/Object;)Z"⟩ : MethodName)) (W := 0) (C := "com/example/gridloom/gridloom/index/Counter") hown (hw _ (List.mem_of_getElem? (i := 30) rfl)) (hw _ (List.mem_of_getElem? (i := 31) rfl)) (hw _ (List.mem_of_getElem? (i := 33) rfl)) (hw _ (List.mem_of_getElem? (i := 32) rfl)) (hw _ (List.mem_of_getElem? (i := 2) rfl)) (hw _ (List.mem_of_getElem? (i := 34) rfl)) (by decide) (rm_Qe1 l Z a0 hw [] b5 b16 x1 x2 x3 x4 b1_ b2_ b3_ b4_ T29.heap n0 Z37 E29q f32 f33 f34 f35 F29q0 F29q1 F29q2 F29q3) (by decide) (by decide) rfl f31 (g := (mkF m 154 #[.val (.long x1), .second, .val (.long x2), .second, .val (.long x3), .second, .val (.long x4), .second, .val (.long x5), .second, .val (.int x6), .val (.long b1_), .second, .val (.long b2_), .second, .val (.long b3_), .second, .val (.long b4_), .second, .val (.ref b5), .val (.ref b16), .val (.int (1 : Int32)), .val .null] [(.ref b16), (.ref b5)])) rfl (by rw [hml]; rfl) (argsL := [(.ref b16)]) (rest := []) rfl (lenOf pd_Ljava_lang_Object___Z rfl) rfl (by show 2 * 0 + _ ≤ _; exact Nat.le_of_eq rfl) (hb hby at_154) (by decide) (by decide)
            obtain ⟨rfl, N60q, e60⟩ := hQ60
            have N60 := Fr.app N29 N60q
            refine own_via (U' := T60.setTop (mkF m 157 #[.val (.long x1), .second, .val (.long x2), .second, .val (.long x3), .second, .val (.long x4), .second, .val (.long x5), .second, .val (.int x6), .val (.long b1_), .second, .val (.long b2_), .second, .val (.long b3_), .second, .val (.long b4_), .second, .val (.ref b5), .val (.ref b16), .val (.int (1 : Int32)), .val .null] [(.int (if x1 = b1_ then (if x2 = b2_ then (if x3 = b3_ then (if x4 = b4_ then (1 : Int32) else (0 : Int32)) else (0 : Int32)) else (0 : Int32)) else (0 : Int32)))])) (fun t k => st60 t k) ?_
            refine own_via (U' := T60.setTop (mkF m 159 #[.val (.long x1), .second, .val (.long x2), .second, .val (.long x3), .second, .val (.long x4), .second, .val (.long x5), .second, .val (.int x6), .val (.long b1_), .second, .val (.long b2_), .second, .val (.long b3_), .second, .val (.long b4_), .second, .val (.ref b5), .val (.ref b16), .val (.int (1 : Int32)), .val .null] [(.int (1 : Int32)), (.int (if x1 = b1_ then (if x2 = b2_ then (if x3 = b3_ then (if x4 = b4_ then (1 : Int32) else (0 : Int32)) else (0 : Int32)) else (0 : Int32)) else (0 : Int32)))])) (fun t k => XS.iload X60.here hx rfl (hb hby at_157) rfl k) ?_
            refine own_via (U' := T60.setTop (mkF m 162 #[.val (.long x1), .second, .val (.long x2), .second, .val (.long x3), .second, .val (.long x4), .second, .val (.long x5), .second, .val (.int x6), .val (.long b1_), .second, .val (.long b2_), .second, .val (.long b3_), .second, .val (.long b4_), .second, .val (.ref b5), .val (.ref b16), .val (.int (1 : Int32)), .val .null] [])) (fun t k => XS.icmpNo X60.here hx rfl (hb hby at_159) rfl (teq (by rw [if_pos hc38.symm, if_pos hc39.symm, if_pos hc40.symm, if_pos hc41.symm])).2 k) ?_
            refine own_via (U' := T60.setTop (mkF m 164 #[.val (.long x1), .second, .val (.long x2), .second, .val (.long x3), .second, .val (.long x4), .second, .val (.long x5), .second, .val (.int x6), .val (.long b1_), .second, .val (.long b2_), .second, .val (.long b3_), .second, .val (.long b4_), .second, .val (.ref b5), .val (.ref b16), .val (.int (1 : Int32)), .val .null] [(.ref b16)])) (fun t k => XS.aload X60.here hx rfl (hb hby at_162) rfl rfl k) ?_
            refine own_via (U' := T60.setTop (mkF m 166 #[.val (.long x1), .second, .val (.long x2), .second, .val (.long x3), .second, .val (.long x4), .second, .val (.long x5), .second, .val (.int x6), .val (.long b1_), .second, .val (.long b2_), .second, .val (.long b3_), .second, .val (.long b4_), .second, .val (.ref b5), .val (.ref b16), .val (.int (1 : Int32)), .val .null] [(.ref b5), (.ref b16)])) (fun t k => XS.aload X60.here hx rfl (hb hby at_164) rfl rfl k) ?_
            obtain ⟨_, T61, L61, X61, hQ61, st61⟩ := own_callV X60 hx hZ (y := (⟨"com/example/gridloom/gridloom/index/Counter", "equals", "(Ljava/lang/Object;)Z"⟩ : MethodName)) (W := 0) (C := "com/example/gridloom/gridloom/index/Counter") hown (hw _ (List.mem_of_getElem? (i := 30) rfl)) (hw _ (List.mem_of_getElem? (i := 31) rfl)) (hw _ (List.mem_of_getElem? (i := 33) rfl)) (hw _ (List.mem_of_getElem? (i := 32) rfl)) (hw _ (List.mem_of_getElem? (i := 2) rfl)) (hw _ (List.mem_of_getElem? (i := 34) rfl)) (by decide) (rm_Qe1 l Z a0 hw [] b16 b5 b1_ b2_ b3_ b4_ x1 x2 x3 x4 T29.heap n0 Z37 f31 F29q0 F29q1 F29q2 F29q3 f32 f33 f34 f35) (by decide) (by decide) e60 E29q (g := (mkF m 166 #[.val (.long x1), .second, .val (.long x2), .second, .val (.long x3), .second, .val (.long x4), .second, .val (.long x5), .second, .val (.int x6), .val (.long b1_), .second, .val (.long b2_), .second, .val (.long b3_), .second, .val (.long b4_), .second, .val (.ref b5), .val (.ref b16), .val (.int (1 : Int32)), .val .null] [(.ref b5), (.ref b16)])) rfl (by rw [hml]; rfl) (argsL := [(.ref b5)]) (rest := []) rfl (lenOf pd_Ljava_lang_Object___Z rfl) rfl (by show 2 * 0 + _ ≤ _; exact Nat.le_of_eq rfl) (hb hby at_166) (by decide) (by decide)
            obtain ⟨rfl, N61q, e61⟩ := hQ61
            have N61 := Fr.app N60 N61q
            refine own_via (U' := T61.setTop (mkF m 169 #[.val (.long x1), .second, .val (.long x2), .second, .val (.long x3), .second, .val (.long x4), .second, .val (.long x5), .second, .val (.int x6), .val (.long b1_), .second, .val (.long b2_), .second, .val (.long b3_), .second, .val (.long b4_), .second, .val (.ref b5), .val (.ref b16), .val (.int (1 : Int32)), .val .null] [(.int (if b1_ = x1 then (if b2_ = x2 then (if b3_ = x3 then (if b4_ = x4 then (1 : Int32) else (0 : Int32)) else (0 : Int32)) else (0 : Int32)) else (0 : Int32)))])) (fun t k => st61 t k) ?_
            refine own_via (U' := T61.setTop (mkF m 171 #[.val (.long x1), .second, .val (.long x2), .second, .val (.long x3), .second, .val (.long x4), .second, .val (.long x5), .second, .val (.int x6), .val (.long b1_), .second, .val (.long b2_), .second, .val (.long b3_), .second, .val (.long b4_), .second, .val (.ref b5), .val (.ref b16), .val (.int (1 : Int32)), .val .null] [(.int (1 : Int32)), (.int (if b1_ = x1 then (if b2_ = x2 then (if b3_ = x3 then (if b4_ = x4 then (1 : Int32) else (0 : Int32)) else (0 : Int32)) else (0 : Int32)) else (0 : Int32)))])) (fun t k => XS.iload X61.here hx rfl (hb hby at_169) rfl k) ?_
            refine own_via (U' := T61.setTop (mkF m 174 #[.val (.long x1), .second, .val (.long x2), .second, .val (.long x3), .second, .val (.long x4), .second, .val (.long x5), .second, .val (.int x6), .val (.long b1_), .second, .val (.long b2_), .second, .val (.long b3_), .second, .val (.long b4_), .second, .val (.ref b5), .val (.ref b16), .val (.int (1 : Int32)), .val .null] [])) (fun t k => XS.icmpNo X61.here hx rfl (hb hby at_171) rfl (teq (by rw [if_pos hc38, if_pos hc39, if_pos hc40, if_pos hc41])).2 k) ?_
            refine own_via (U' := T61.setTop (mkF m 176 #[.val (.long x1), .second, .val (.long x2), .second, .val (.long x3), .second, .val (.long x4), .second, .val (.long x5), .second, .val (.int x6), .val (.long b1_), .second, .val (.long b2_), .second, .val (.long b3_), .second, .val (.long b4_), .second, .val (.ref b5), .val (.ref b16), .val (.int (1 : Int32)), .val .null] [(.ref b5)])) (fun t k => XS.aload X61.here hx rfl (hb hby at_174) rfl rfl k) ?_
            refine own_via (U' := T61.setTop (mkF m 178 #[.val (.long x1), .second, .val (.long x2), .second, .val (.long x3), .second, .val (.long x4), .second, .val (.long x5), .second, .val (.int x6), .val (.long b1_), .second, .val (.long b2_), .second, .val (.long b3_), .second, .val (.long b4_), .second, .val (.ref b5), .val (.ref b16), .val (.int (1 : Int32)), .val .null] [(.ref b5), (.ref b5)])) (fun t k => XS.aload X61.here hx rfl (hb hby at_176) rfl rfl k) ?_
            obtain ⟨_, T62, L62, X62, hQ62, st62⟩ := own_callV X61 hx hZ (y := (⟨"com/example/gridloom/gridloom/index/Counter", "equals", "(Ljava/lang/Object;)Z"⟩ : MethodName)) (W := 0) (C := "com/example/gridloom/gridloom/index/Counter") hown (hw _ (List.mem_of_getElem? (i := 30) rfl)) (hw _ (List.mem_of_getElem? (i := 31) rfl)) (hw _ (List.mem_of_getElem? (i := 33) rfl)) (hw _ (List.mem_of_getElem? (i := 32) rfl)) (hw _ (List.mem_of_getElem? (i := 2) rfl)) (hw _ (List.mem_of_getElem? (i := 34) rfl)) (by decide) (rm_Qe1 l Z a0 hw [] b5 b5 x1 x2 x3 x4 x1 x2 x3 x4 T29.heap n0 Z37 f31 f32 f33 f34 f35 f32 f33 f34 f35) (by decide) (by decide) e61 f31 (g := (mkF m 178 #[.val (.long x1), .second, .val (.long x2), .second, .val (.long x3), .second, .val (.long x4), .second, .val (.long x5), .second, .val (.int x6), .val (.long b1_), .second, .val (.long b2_), .second, .val (.long b3_), .second, .val (.long b4_), .second, .val (.ref b5), .val (.ref b16), .val (.int (1 : Int32)), .val .null] [(.ref b5), (.ref b5)])) rfl (by rw [hml]; rfl) (argsL := [(.ref b5)]) (rest := []) rfl (lenOf pd_Ljava_lang_Object___Z rfl) rfl (by show 2 * 0 + _ ≤ _; exact Nat.le_of_eq rfl) (hb hby at_178) (by decide) (by decide)
            obtain ⟨rfl, N62q, e62⟩ := hQ62
            have N62 := Fr.app N61 N62q
            refine own_via (U' := T62.setTop (mkF m 181 #[.val (.long x1), .second, .val (.long x2), .second, .val (.long x3), .second, .val (.long x4), .second, .val (.long x5), .second, .val (.int x6), .val (.long b1_), .second, .val (.long b2_), .second, .val (.long b3_), .second, .val (.long b4_), .second, .val (.ref b5), .val (.ref b16), .val (.int (1 : Int32)), .val .null] [(.int (if x1 = x1 then (if x2 = x2 then (if x3 = x3 then (if x4 = x4 then (1 : Int32) else (0 : Int32)) else (0 : Int32)) else (0 : Int32)) else (0 : Int32)))])) (fun t k => st62 t k) ?_
            refine own_via (U' := T62.setTop (mkF m 184 #[.val (.long x1), .second, .val (.long x2), .second, .val (.long x3), .second, .val (.long x4), .second, .val (.long x5), .second, .val (.int x6), .val (.long b1_), .second, .val (.long b2_), .second, .val (.long b3_), .second, .val (.long b4_), .second, .val (.ref b5), .val (.ref b16), .val (.int (1 : Int32)), .val .null] [])) (fun t k => XS.ifNo X62.here hx rfl (hb hby at_181) rfl ((if0 _ _).trans (feq (by rw [if_pos rfl, if_pos rfl, if_pos rfl, if_pos rfl]; decide)).1) k) ?_
            refine own_via (U' := T62.setTop (mkF m 186 #[.val (.long x1), .second, .val (.long x2), .second, .val (.long x3), .second, .val (.long x4), .second, .val (.long x5), .second, .val (.int x6), .val (.long b1_), .second, .val (.long b2_), .second, .val (.long b3_), .second, .val (.long b4_), .second, .val (.ref b5), .val (.ref b16), .val (.int (1 : Int32)), .val .null] [(.ref b5)])) (fun t k => XS.aload X62.here hx rfl (hb hby at_184) rfl rfl k) ?_
            refine own_via (U' := T62.setTop (mkF m 188 #[.val (.long x1), .second, .val (.long x2), .second, .val (.long x3), .second, .val (.long x4), .second, .val (.long x5), .second, .val (.int x6), .val (.long b1_), .second, .val (.long b2_), .second, .val (.long b3_), .second, .val (.long b4_), .second, .val (.ref b5), .val (.ref b16), .val (.int (1 : Int32)), .val .null] [.null, (.ref b5)])) (fun t k => XS.aload X62.here hx rfl (hb hby at_186) rfl rfl k) ?_
            obtain ⟨_, T63, L63, X63, hQ63, st63⟩ := own_callV X62 hx hZ (y := (⟨"com/example/gridloom/gridloom/index/Counter", "equals", "(Ljava/lang/Object;)Z"⟩ : MethodName)) (W := 0) (C := "com/example/gridloom/gridloom/index/Counter") hown (hw _ (List.mem_of_getElem? (i := 30) rfl)) (hw _ (List.mem_of_getElem? (i := 31) rfl)) (hw _ (List.mem_of_getElem? (i := 33) rfl)) (hw _ (List.mem_of_getElem? (i := 32) rfl)) (hw _ (List.mem_of_getElem? (i := 2) rfl)) (hw _ (List.mem_of_getElem? (i := 34) rfl)) (by decide) (rm_Qe2 l Z a0 hw [] b5 T29.heap n0 Z37) (by decide) (by decide) e62 f31 (g := (mkF m 188 #[.val (.long x1), .second, .val (.long x2), .second, .val (.long x3), .second, .val (.long x4), .second, .val (.long x5), .second, .val (.int x6), .val (.long b1_), .second, .val (.long b2_), .second, .val (.long b3_), .second, .val (.long b4_), .second, .val (.ref b5), .val (.ref b16), .val (.int (1 : Int32)), .val .null] [.null, (.ref b5)])) rfl (by rw [hml]; rfl) (argsL := [.null]) (rest := []) rfl (lenOf pd_Ljava_lang_Object___Z rfl) rfl (by show 2 * 0 + _ ≤ _; exact Nat.le_of_eq rfl) (hb hby at_188) (by decide) (by decide)
            obtain ⟨rfl, N63q, e63⟩ := hQ63
            have N63 := Fr.app N62 N63q
            refine own_via (U' := T63.setTop (mkF m 191 #[.val (.long x1), .second, .val (.long x2), .second, .val (.long x3), .second, .val (.long x4), .second, .val (.long x5), .second, .val (.int x6), .val (.long b1_), .second, .val (.long b2_), .second, .val (.long b3_), .second, .val (.long b4_), .second, .val (.ref b5), .val (.ref b16), .val (.int (1 : Int32)), .val .null] [(.int (0 : Int32))])) (fun t k => st63 t k) ?_
            refine own_via (U' := T63.setTop (mkF m 194 #[.val (.long x1), .second, .val (.long x2), .second, .val (.long x3), .second, .val (.long x4), .second, .val (.long x5), .second, .val (.int x6), .val (.long b1_), .second, .val (.long b2_), .second, .val (.long b3_), .second, .val (.long b4_), .second, .val (.ref b5), .val (.ref b16), .val (.int (1 : Int32)), .val .null] [])) (fun t k => XS.ifNo X63.here hx rfl (hb hby at_191) rfl ((if0 _ _).trans (teq (by decide : ((0 : Int32) = (0 : Int32)))).2) k) ?_
            refine own_via (U' := T63.setTop (mkF m 195 #[.val (.long x1), .second, .val (.long x2), .second, .val (.long x3), .second, .val (.long x4), .second, .val (.long x5), .second, .val (.int x6), .val (.long b1_), .second, .val (.long b2_), .second, .val (.long b3_), .second, .val (.long b4_), .second, .val (.ref b5), .val (.ref b16), .val (.int (1 : Int32)), .val .null] [(.int (1 : Int32))])) (fun t k => XS.iconst X63.here hx rfl (hb hby at_194) k) ?_
            refine own_via (U' := T63.setTop (mkF m 199 #[.val (.long x1), .second, .val (.long x2), .second, .val (.long x3), .second, .val (.long x4), .second, .val (.long x5), .second, .val (.int x6), .val (.long b1_), .second, .val (.long b2_), .second, .val (.long b3_), .second, .val (.long b4_), .second, .val (.ref b5), .val (.ref b16), .val (.int (1 : Int32)), .val .null] [(.int (1 : Int32))])) (fun t k => XS.goto X63.here hx rfl (pc0 := 195) (pc' := 199) rfl (hb hby at_195) (by decide) (by decide) k) ?_
            exact own_ret X63 (v := some (.int (1 : Int32))) (fun h => by rw [Bd.returns] at h; cases h) hlk (fun fs hr => retN X63 hx (t := .boolean) Bd.returns (by simp) (hb hby at_199) hr) (by rw [e63]; exact ⟨rfl, N63⟩) (by decide) (by decide)
        case neg =>
          refine own_via (U' := T29.setTop (mkF m 129 #[.val (.long x1), .second, .val (.long x2), .second, .val (.long x3), .second, .val (.long x4), .second, .val (.long x5), .second, .val (.int x6), .val (.long b1_), .second, .val (.long b2_), .second, .val (.long b3_), .second, .val (.long b4_), .second, .val (.ref b5), .val (.ref b16), .unset, .unset] [])) (fun t k => XS.ifYes X29.here hx rfl (pc0 := 122) (pc' := 129) rfl (hb hby at_122) rfl (own_jne hc41).2 (by decide) (by decide) k) ?_
          refine own_via (U' := T29.setTop (mkF m 130 #[.val (.long x1), .second, .val (.long x2), .second, .val (.long x3), .second, .val (.long x4), .second, .val (.long x5), .second, .val (.int x6), .val (.long b1_), .second, .val (.long b2_), .second, .val (.long b3_), .second, .val (.long b4_), .second, .val (.ref b5), .val (.ref b16), .unset, .unset] [(.int (0 : Int32))])) (fun t k => XS.iconst X29.here hx rfl (hb hby at_129) k) ?_
          refine own_via (U' := T29.setTop (mkF m 132 #[.val (.long x1), .second, .val (.long x2), .second, .val (.long x3), .second, .val (.long x4), .second, .val (.long x5), .second, .val (.int x6), .val (.long b1_), .second, .val (.long b2_), .second, .val (.long b3_), .second, .val (.long b4_), .second, .val (.ref b5), .val (.ref b16), .val (.int (0 : Int32)), .unset] [])) (fun t k => XS.istore X29.here hx rfl (hb hby at_130) rfl (l' := #[.val (.long x1), .second, .val (.long x2), .second, .val (.long x3), .second, .val (.long x4), .second, .val (.long x5), .second, .val (.int x6), .val (.long b1_), .second, .val (.long b2_), .second, .val (.long b3_), .second, .val (.long b4_), .second, .val (.ref b5), .val (.ref b16), .val (.int (0 : Int32)), .unset]) rfl k) ?_
          refine own_via (U' := T29.setTop (mkF m 134 #[.val (.long x1), .second, .val (.long x2), .second, .val (.long x3), .second, .val (.long x4), .second, .val (.long x5), .second, .val (.int x6), .val (.long b1_), .second, .val (.long b2_), .second, .val (.long b3_), .second, .val (.long b4_), .second, .val (.ref b5), .val (.ref b16), .val (.int (0 : Int32)), .unset] [(.int x6)])) (fun t k => XS.iload X29.here hx rfl (hb hby at_132) rfl k) ?_
          refine own_via (U' := T29.setTop (mkF m 136 #[.val (.long x1), .second, .val (.long x2), .second, .val (.long x3), .second, .val (.long x4), .second, .val (.long x5), .second, .val (.int x6), .val (.long b1_), .second, .val (.long b2_), .second, .val (.long b3_), .second, .val (.long b4_), .second, .val (.ref b5), .val (.ref b16), .val (.int (0 : Int32)), .unset] [(.int (16 : Int32)), (.int x6)])) (fun t k => XS.bipush X29.here hx rfl (hb hby at_134) k) ?_
          refine own_via (U' := T29.setTop (mkF m 137 #[.val (.long x1), .second, .val (.long x2), .second, .val (.long x3), .second, .val (.long x4), .second, .val (.long x5), .second, .val (.int x6), .val (.long b1_), .second, .val (.long b2_), .second, .val (.long b3_), .second, .val (.long b4_), .second, .val (.ref b5), .val (.ref b16), .val (.int (0 : Int32)), .unset] [(.int (x6 &&& (16 : Int32)))])) (fun t k => XS.iand X29.here hx rfl (hb hby at_136) rfl k) ?_
          by_cases hc64 : (x6 &&& (16 : Int32)) = (0 : Int32)
          case pos =>
            refine own_via (U' := T29.setTop (mkF m 144 #[.val (.long x1), .second, .val (.long x2), .second, .val (.long x3), .second, .val (.long x4), .second, .val (.long x5), .second, .val (.int x6), .val (.long b1_), .second, .val (.long b2_), .second, .val (.long b3_), .second, .val (.long b4_), .second, .val (.ref b5), .val (.ref b16), .val (.int (0 : Int32)), .unset] [])) (fun t k => XS.ifYes X29.here hx rfl (pc0 := 137) (pc' := 144) rfl (hb hby at_137) rfl ((if0 _ _).trans (teq hc64).1) (by decide) (by decide) k) ?_
            refine own_via (U' := T29.setTop (mkF m 145 #[.val (.long x1), .second, .val (.long x2), .second, .val (.long x3), .second, .val (.long x4), .second, .val (.long x5), .second, .val (.int x6), .val (.long b1_), .second, .val (.long b2_), .second, .val (.long b3_), .second, .val (.long b4_), .second, .val (.ref b5), .val (.ref b16), .val (.int (0 : Int32)), .unset] [(.long x1)])) (fun t k => XS.lloadN X29.here hx rfl (hb hby at_144) rfl k) ?_
            obtain ⟨_, T65, L65, X65, hQ65, st65⟩ := own_callS X29 hx hZ (y := (⟨"java/lang/Long", "valueOf", "(J)Ljava/lang/Long;"⟩ : MethodName)) (W := 0) hown (hw _ (List.mem_of_getElem? (i := 22) rfl)) (hw _ (List.mem_of_getElem? (i := 23) rfl)) (hw _ (List.mem_of_getElem? (i := 24) rfl)) (hw _ (List.mem_of_getElem? (i := 25) rfl)) (by decide) (rm_Qvo l Z a0 hw [] x1 ca cl T29.heap n0 Z37 f30 Sc Bx) (by decide) (by decide) rfl (g := (mkF m 145 #[.val (.long x1), .second, .val (.long x2), .second, .val (.long x3), .second, .val (.long x4), .second, .val (.long x5), .second, .val (.int x6), .val (.long b1_), .second, .val (.long b2_), .second, .val (.long b3_), .second, .val (.long b4_), .second, .val (.ref b5), .val (.ref b16), .val (.int (0 : Int32)), .unset] [(.long x1)])) rfl (by rw [hml]; rfl) (argsL := [(.long x1)]) (rest := []) rfl (lenOf pd_J__Ljava_lang_Long_ rfl) rfl (by show 2 * 0 + _ ≤ _; exact Nat.le_of_eq rfl) (hb hby at_145) (by decide) (by decide)
            obtain ⟨lb65, rfl, N65q, K65q, E65q⟩ := hQ65
            have N65 := Fr.app N29 N65q
            have f66 := f30.keep K65q all0
            have f67 := f31.keep K65q
            have f68 := f32.keep K65q nin0
            have f69 := f33.keep K65q nin0
            have f70 := f34.keep K65q nin0
            have f71 := f35.keep K65q nin0
            have f72 := E29q.keep K65q
            have f73 := F29q0.keep K65q nin0
            have f74 := F29q1.keep K65q nin0
            have f75 := F29q2.keep K65q nin0
            have f76 := F29q3.keep K65q nin0
            have Z77 : n0 ≤ T65.heap.size := Nat.le_trans Z37 K65q.1
            have K77 := K37.trans K65q all0
            refine own_via (U' := T65.setTop (mkF m 148 #[.val (.long x1), .second, .val (.long x2), .second, .val (.long x3), .second, .val (.long x4), .second, .val (.long x5), .second, .val (.int x6), .val (.long b1_), .second, .val (.long b2_), .second, .val (.long b3_), .second, .val (.long b4_), .second, .val (.ref b5), .val (.ref b16), .val (.int (0 : Int32)), .unset] [(.ref lb65)])) (fun t k => st65 t k) ?_
            refine own_via (U' := T65.setTop (mkF m 150 #[.val (.long x1), .second, .val (.long x2), .second, .val (.long x3), .second, .val (.long x4), .second, .val (.long x5), .second, .val (.int x6), .val (.long b1_), .second, .val (.long b2_), .second, .val (.long b3_), .second, .val (.long b4_), .second, .val (.ref b5), .val (.ref b16), .val (.int (0 : Int32)), .val (.ref lb65)] [])) (fun t k => XS.astore X65.here hx rfl (hb hby at_148) rfl rfl (l' := #[.val (.long x1), .second, .val (.long x2), .second, .val (.long x3), .second, .val (.long x4), .second, .val (.long x5), .second, .val (.int x6), .val (.long b1_), .second, .val (.long b2_), .second, .val (.long b3_), .second, .val (.long b4_), .second, .val (.ref b5), .val (.ref b16), .val (.int (0 : Int32)), .val (.ref lb65)]) rfl k) ?_
            refine own_via (U' := T65.setTop (mkF m 152 #[.val (.long x1), .second, .val (.long x2), .second, .val (.long x3), .second, .val (.long x4), .second, .val (.long x5), .second, .val (.int x6), .val (.long b1_), .second, .val (.long b2_), .second, .val (.long b3_), .second, .val (.long b4_), .second, .val (.ref b5), .val (.ref b16), .val (.int (0 : Int32)), .val (.ref lb65)] [(.ref b5)])) (fun t k => XS.aload X65.here hx rfl (hb hby at_150) rfl rfl k) ?_
            refine own_via (U' := T65.setTop (mkF m 154 #[.val (.long x1), .second, .val (.long x2), .second, .val (.long x3), .second, .val (.long x4), .second, .val (.long x5), .second, .val (.int x6), .val (.long b1_), .second, .val (.long b2_), .second, .val (.long b3_), .second, .val (.long b4_), .second, .val (.ref b5), .val (.ref b16), .val (.int (0 : Int32)), .val (.ref lb65)] [(.ref b16), (.ref b5)])) (fun t k => XS.aload X65.here hx rfl (hb hby at_152) rfl rfl k) ?_
            obtain ⟨_, T78, L78, X78, hQ78, st78⟩ := own_callV X65 hx hZ (y := (⟨"com/example/gridloom/gridloom/index/Counter", "equals", "(Ljava/lang/Object;)Z"⟩ : MethodName)) (W := 0) (C := "com/example/gridloom/gridloom/index/Counter") hown (hw _ (List.mem_of_getElem? (i := 30) rfl)) (hw _ (List.mem_of_getElem? (i := 31) rfl)) (hw _ (List.mem_of_getElem? (i := 33) rfl)) (hw _ (List.mem_of_getElem? (i := 32) rfl)) (hw _ (List.mem_of_getElem? (i := 2) rfl)) (hw _ (List.mem_of_getElem? (i := 34) rfl)) (by decide) (rm_Qe1 l Z a0 hw [] b5 b16 x1 x2 x3 x4 b1_ b2_ b3_ b4_ T65.heap n0 Z77 f72 f68 f69 f70 f71 f73 f74 f75 f76) (by decide) (by decide) rfl f67 (g := (mkF m 154 #[.val (.long x1), .second, .val (.long x2), .second, .val (.long x3), .second, .val (.long x4), .second, .val (.long x5), .second, .val (.int x6), .val (.long b1_), .second, .val (.long b2_), .second, .val (.long b3_), .second, .val (.long b4_), .second, .val (.ref b5), .val (.ref b16), .val (.int (0 : Int32)), .val (.ref lb65)] [(.ref b16), (.ref b5)])) rfl (by rw [hml]; rfl) (argsL := [(.ref b16)]) (rest := []) rfl (lenOf pd_Ljava_lang_Object___Z rfl) rfl (by show 2 * 0 + _ ≤ _; exact Nat.le_of_eq rfl) (hb hby at_154) (by decide) (by decide)
            obtain ⟨rfl, N78q, e78⟩ := hQ78
            have N78 := Fr.app N65 N78q
            refine own_via (U' := T78.setTop (mkF m 157 #[.val (.long x1), .second, .val (.long x2), .second, .val (.long x3), .second, .val (.long x4), .second, .val (.long x5), .second, .val (.int x6), .val (.long b1_), .second, .val (.long b2_), .second, .val (.long b3_), .second, .val (.long b4_), .second, .val (.ref b5), .val (.ref b16), .val (.int (0 : Int32)), .val (.ref lb65)] [(.int (if x1 = b1_ then (if x2 = b2_ then (if x3 = b3_ then (if x4 = b4_ then (1 : Int32) else (0 : Int32)) else (0 : Int32)) else (0 : Int32)) else (0 : Int32)))])) (fun t k => st78 t k) ?_
            refine own_via (U' := T78.setTop (mkF m 159 #[.val (.long x1), .second, .val (.long x2), .second, .val (.long x3), .second, .val (.long x4), .second, .val (.long x5), .second, .val (.int x6), .val (.long b1_), .second, .val (.long b2_), .second, .val (.long b3_), .second, .val (.long b4_), .second, .val (.ref b5), .val (.ref b16), .val (.int (0 : Int32)), .val (.ref lb65)] [(.int (0 : Int32)), (.int (if x1 = b1_ then (if x2 = b2_ then (if x3 = b3_ then (if x4 = b4_ then (1 : Int32) else (0 : Int32)) else (0 : Int32)) else (0 : Int32)) else (0 : Int32)))])) (fun t k => XS.iload X78.here hx rfl (hb hby at_157) rfl k) ?_
            refine own_via (U' := T78.setTop (mkF m 162 #[.val (.long x1), .second, .val (.long x2), .second, .val (.long x3), .second, .val (.long x4), .second, .val (.long x5), .second, .val (.int x6), .val (.long b1_), .second, .val (.long b2_), .second, .val (.long b3_), .second, .val (.long b4_), .second, .val (.ref b5), .val (.ref b16), .val (.int (0 : Int32)), .val (.ref lb65)] [])) (fun t k => XS.icmpNo X78.here hx rfl (hb hby at_159) rfl (teq (by rw [if_pos hc38.symm, if_pos hc39.symm, if_pos hc40.symm, if_neg (fun z => hc41 z.symm)])).2 k) ?_
            refine own_via (U' := T78.setTop (mkF m 164 #[.val (.long x1), .second, .val (.long x2), .second, .val (.long x3), .second, .val (.long x4), .second, .val (.long x5), .second, .val (.int x6), .val (.long b1_), .second, .val (.long b2_), .second, .val (.long b3_), .second, .val (.long b4_), .second, .val (.ref b5), .val (.ref b16), .val (.int (0 : Int32)), .val (.ref lb65)] [(.ref b16)])) (fun t k => XS.aload X78.here hx rfl (hb hby at_162) rfl rfl k) ?_
            refine own_via (U' := T78.setTop (mkF m 166 #[.val (.long x1), .second, .val (.long x2), .second, .val (.long x3), .second, .val (.long x4), .second, .val (.long x5), .second, .val (.int x6), .val (.long b1_), .second, .val (.long b2_), .second, .val (.long b3_), .second, .val (.long b4_), .second, .val (.ref b5), .val (.ref b16), .val (.int (0 : Int32)), .val (.ref lb65)] [(.ref b5), (.ref b16)])) (fun t k => XS.aload X78.here hx rfl (hb hby at_164) rfl rfl k) ?_
            obtain ⟨_, T79, L79, X79, hQ79, st79⟩ := own_callV X78 hx hZ (y := (⟨"com/example/gridloom/gridloom/index/Counter", "equals", "(Ljava/lang/Object;)Z"⟩ : MethodName)) (W := 0) (C := "com/example/gridloom/gridloom/index/Counter") hown (hw _ (List.mem_of_getElem? (i := 30) rfl)) (hw _ (List.mem_of_getElem? (i := 31) rfl)) (hw _ (List.mem_of_getElem? (i := 33) rfl)) (hw _ (List.mem_of_getElem? (i := 32) rfl)) (hw _ (List.mem_of_getElem? (i := 2) rfl)) (hw _ (List.mem_of_getElem? (i := 34) rfl)) (by decide) (rm_Qe1 l Z a0 hw [] b16 b5 b1_ b2_ b3_ b4_ x1 x2 x3 x4 T65.heap n0 Z77 f67 f73 f74 f75 f76 f68 f69 f70 f71) (by decide) (by decide) e78 f72 (g := (mkF m 166 #[.val (.long x1), .second, .val (.long x2), .second, .val (.long x3), .second, .val (.long x4), .second, .val (.long x5), .second, .val (.int x6), .val (.long b1_), .second, .val (.long b2_), .second, .val (.long b3_), .second, .val (.long b4_), .second, .val (.ref b5), .val (.ref b16), .val (.int (0 : Int32)), .val (.ref lb65)] [(.ref b5), (.ref b16)])) rfl (by rw [hml]; rfl) (argsL := [(.ref b5)]) (rest := []) rfl (lenOf pd_Ljava_lang_Object___Z rfl) rfl (by show 2 * 0 + _ ≤ _; exact Nat.le_of_eq rfl) (hb hby at_166) (by decide) (by decide)
            obtain ⟨rfl, N79q, e79⟩ := hQ79
            have N79 := Fr.app N78 N79q
            refine own_via (U' := T79.setTop (mkF m 169 #[.val (.long x1), .second, .val (.long x2), .second, .val (.long x3), .second, .val (.long x4), .second, .val (.long x5), .second, .val (.int x6), .val (.long b1_), .second, .val (.long b2_), .second, .val (.long b3_), .second, .val (.long b4_), .second, .val (.ref b5), .val (.ref b16), .val (.int (0 : Int32)), .val (.ref lb65)] [(.int (if b1_ = x1 then (if b2_ = x2 then (if b3_ = x3 then (if b4_ = x4 then (1 : Int32) else (0 : Int32)) else (0 : Int32)) else (0 : Int32)) else (0 : Int32)))])) (fun t k => st79 t k) ?_
            refine own_via (U' := T79.setTop (mkF m 171 #[.val (.long x1), .second, .val (.long x2), .second, .val (.long x3), .second, .val (.long x4), .second, .val (.long x5), .second, .val (.int x6), .val (.long b1_), .second, .val (.long b2_), .second, .val (.long b3_), .second, .val (.long b4_), .second, .val (.ref b5), .val (.ref b16), .val (.int (0 : Int32)), .val (.ref lb65)] [(.int (0 : Int32)), (.int (if b1_ = x1 then (if b2_ = x2 then (if b3_ = x3 then (if b4_ = x4 then (1 : Int32) else (0 : Int32)) else (0 : Int32)) else (0 : Int32)) else (0 : Int32)))])) (fun t k => XS.iload X79.here hx rfl (hb hby at_169) rfl k) ?_
            refine own_via (U' := T79.setTop (mkF m 174 #[.val (.long x1), .second, .val (.long x2), .second, .val (.long x3), .second, .val (.long x4), .second, .val (.long x5), .second, .val (.int x6), .val (.long b1_), .second, .val (.long b2_), .second, .val (.long b3_), .second, .val (.long b4_), .second, .val (.ref b5), .val (.ref b16), .val (.int (0 : Int32)), .val (.ref lb65)] [])) (fun t k => XS.icmpNo X79.here hx rfl (hb hby at_171) rfl (teq (by rw [if_pos hc38, if_pos hc39, if_pos hc40, if_neg hc41])).2 k) ?_
            refine own_via (U' := T79.setTop (mkF m 176 #[.val (.long x1), .second, .val (.long x2), .second, .val (.long x3), .second, .val (.long x4), .second, .val (.long x5), .second, .val (.int x6), .val (.long b1_), .second, .val (.long b2_), .second, .val (.long b3_), .second, .val (.long b4_), .second, .val (.ref b5), .val (.ref b16), .val (.int (0 : Int32)), .val (.ref lb65)] [(.ref b5)])) (fun t k => XS.aload X79.here hx rfl (hb hby at_174) rfl rfl k) ?_
            refine own_via (U' := T79.setTop (mkF m 178 #[.val (.long x1), .second, .val (.long x2), .second, .val (.long x3), .second, .val (.long x4), .second, .val (.long x5), .second, .val (.int x6), .val (.long b1_), .second, .val (.long b2_), .second, .val (.long b3_), .second, .val (.long b4_), .second, .val (.ref b5), .val (.ref b16), .val (.int (0 : Int32)), .val (.ref lb65)] [(.ref b5), (.ref b5)])) (fun t k => XS.aload X79.here hx rfl (hb hby at_176) rfl rfl k) ?_
            obtain ⟨_, T80, L80, X80, hQ80, st80⟩ := own_callV X79 hx hZ (y := (⟨"com/example/gridloom/gridloom/index/Counter", "equals", "(Ljava/lang/Object;)Z"⟩ : MethodName)) (W := 0) (C := "com/example/gridloom/gridloom/index/Counter") hown (hw _ (List.mem_of_getElem? (i := 30) rfl)) (hw _ (List.mem_of_getElem? (i := 31) rfl)) (hw _ (List.mem_of_getElem? (i := 33) rfl)) (hw _ (List.mem_of_getElem? (i := 32) rfl)) (hw _ (List.mem_of_getElem? (i := 2) rfl)) (hw _ (List.mem_of_getElem? (i := 34) rfl)) (by decide) (rm_Qe1 l Z a0 hw [] b5 b5 x1 x2 x3 x4 x1 x2 x3 x4 T65.heap n0 Z77 f67 f68 f69 f70 f71 f68 f69 f70 f71) (by decide) (by decide) e79 f67 (g := (mkF m 178 #[.val (.long x1), .second, .val (.long x2), .second, .val (.long x3), .second, .val (.long x4), .second, .val (.long x5), .second, .val (.int x6), .val (.long b1_), .second, .val (.long b2_), .second, .val (.long b3_), .second, .val (.long b4_), .second, .val (.ref b5), .val (.ref b16), .val (.int (0 : Int32)), .val (.ref lb65)] [(.ref b5), (.ref b5)])) rfl (by rw [hml]; rfl) (argsL := [(.ref b5)]) (rest := []) rfl (lenOf pd_Ljava_lang_Object___Z rfl) rfl (by show 2 * 0 + _ ≤ _; exact Nat.le_of_eq rfl) (hb hby at_178) (by decide) (by decide)
            obtain ⟨rfl, N80q, e80⟩ := hQ80
            have N80 := Fr.app N79 N80q
            refine own_via (U' := T80.setTop (mkF m 181 #[.val (.long x1), .second, .val (.long x2), .second, .val (.long x3), .second, .val (.long x4), .second, .val (.long x5), .second, .val (.int x6), .val (.long b1_), .second, .val (.long b2_), .second, .val (.long b3_), .second, .val (.long b4_), .second, .val (.ref b5), .val (.ref b16), .val (.int (0 : Int32)), .val (.ref lb65)] [(.int (if x1 = x1 then (if x2 = x2 then (if x3 = x3 then (if x4 = x4 then (1 : Int32) else (0 : Int32)) else (0 : Int32)) else (0 : Int32)) else (0 : Int32)))])) (fun t k => st80 t k) ?_
            refine own_via (U' := T80.setTop (mkF m 184 #[.val (.long x1), .second, .val (.long x2), .second, .val (.long x3), .second, .val (.long x4), .second, .val (.long x5), .second, .val (.int x6), .val (.long b1_), .second, .val (.long b2_), .second, .val (.long b3_), .second, .val (.long b4_), .second, .val (.ref b5), .val (.ref b16), .val (.int (0 : Int32)), .val (.ref lb65)] [])) (fun t k => XS.ifNo X80.here hx rfl (hb hby at_181) rfl ((if0 _ _).trans (feq (by rw [if_pos rfl, if_pos rfl, if_pos rfl, if_pos rfl]; decide)).1) k) ?_
            refine own_via (U' := T80.setTop (mkF m 186 #[.val (.long x1), .second, .val (.long x2), .second, .val (.long x3), .second, .val (.long x4), .second, .val (.long x5), .second, .val (.int x6), .val (.long b1_), .second, .val (.long b2_), .second, .val (.long b3_), .second, .val (.long b4_), .second, .val (.ref b5), .val (.ref b16), .val (.int (0 : Int32)), .val (.ref lb65)] [(.ref b5)])) (fun t k => XS.aload X80.here hx rfl (hb hby at_184) rfl rfl k) ?_
            refine own_via (U' := T80.setTop (mkF m 188 #[.val (.long x1), .second, .val (.long x2), .second, .val (.long x3), .second, .val (.long x4), .second, .val (.long x5), .second, .val (.int x6), .val (.long b1_), .second, .val (.long b2_), .second, .val (.long b3_), .second, .val (.long b4_), .second, .val (.ref b5), .val (.ref b16), .val (.int (0 : Int32)), .val (.ref lb65)] [(.ref lb65), (.ref b5)])) (fun t k => XS.aload X80.here hx rfl (hb hby at_186) rfl rfl k) ?_
            obtain ⟨_, T81, L81, X81, hQ81, st81⟩ := own_callV X80 hx hZ (y := (⟨"com/example/gridloom/gridloom/index/Counter", "equals", "(Ljava/lang/Object;)Z"⟩ : MethodName)) (W := 0) (C := "com/example/gridloom/gridloom/index/Counter") hown (hw _ (List.mem_of_getElem? (i := 30) rfl)) (hw _ (List.mem_of_getElem? (i := 31) rfl)) (hw _ (List.mem_of_getElem? (i := 33) rfl)) (hw _ (List.mem_of_getElem? (i := 32) rfl)) (hw _ (List.mem_of_getElem? (i := 2) rfl)) (hw _ (List.mem_of_getElem? (i := 34) rfl)) (by decide) (rm_Qe3 l Z a0 hw [] b5 lb65 T65.heap n0 Z77 E65q) (by decide) (by decide) e80 f67 (g := (mkF m 188 #[.val (.long x1), .second, .val (.long x2), .second, .val (.long x3), .second, .val (.long x4), .second, .val (.long x5), .second, .val (.int x6), .val (.long b1_), .second, .val (.long b2_), .second, .val (.long b3_), .second, .val (.long b4_), .second, .val (.ref b5), .val (.ref b16), .val (.int (0 : Int32)), .val (.ref lb65)] [(.ref lb65), (.ref b5)])) rfl (by rw [hml]; rfl) (argsL := [(.ref lb65)]) (rest := []) rfl (lenOf pd_Ljava_lang_Object___Z rfl) rfl (by show 2 * 0 + _ ≤ _; exact Nat.le_of_eq rfl) (hb hby at_188) (by decide) (by decide)
            obtain ⟨rfl, N81q, e81⟩ := hQ81
            have N81 := Fr.app N80 N81q
            refine own_via (U' := T81.setTop (mkF m 191 #[.val (.long x1), .second, .val (.long x2), .second, .val (.long x3), .second, .val (.long x4), .second, .val (.long x5), .second, .val (.int x6), .val (.long b1_), .second, .val (.long b2_), .second, .val (.long b3_), .second, .val (.long b4_), .second, .val (.ref b5), .val (.ref b16), .val (.int (0 : Int32)), .val (.ref lb65)] [(.int (0 : Int32))])) (fun t k => st81 t k) ?_
            refine own_via (U' := T81.setTop (mkF m 194 #[.val (.long x1), .second, .val (.long x2), .second, .val (.long x3), .second, .val (.long x4), .second, .val (.long x5), .second, .val (.int x6), .val (.long b1_), .second, .val (.long b2_), .second, .val (.long b3_), .second, .val (.long b4_), .second, .val (.ref b5), .val (.ref b16), .val (.int (0 : Int32)), .val (.ref lb65)] [])) (fun t k => XS.ifNo X81.here hx rfl (hb hby at_191) rfl ((if0 _ _).trans (teq (by decide : ((0 : Int32) = (0 : Int32)))).2) k) ?_
            refine own_via (U' := T81.setTop (mkF m 195 #[.val (.long x1), .second, .val (.long x2), .second, .val (.long x3), .second, .val (.long x4), .second, .val (.long x5), .second, .val (.int x6), .val (.long b1_), .second, .val (.long b2_), .second, .val (.long b3_), .second, .val (.long b4_), .second, .val (.ref b5), .val (.ref b16), .val (.int (0 : Int32)), .val (.ref lb65)] [(.int (1 : Int32))])) (fun t k => XS.iconst X81.here hx rfl (hb hby at_194) k) ?_
            refine own_via (U' := T81.setTop (mkF m 199 #[.val (.long x1), .second, .val (.long x2), .second, .val (.long x3), .second, .val (.long x4), .second, .val (.long x5), .second, .val (.int x6), .val (.long b1_), .second, .val (.long b2_), .second, .val (.long b3_), .second, .val (.long b4_), .second, .val (.ref b5), .val (.ref b16), .val (.int (0 : Int32)), .val (.ref lb65)] [(.int (1 : Int32))])) (fun t k => XS.goto X81.here hx rfl (pc0 := 195) (pc' := 199) rfl (hb hby at_195) (by decide) (by decide) k) ?_
            exact own_ret X81 (v := some (.int (1 : Int32))) (fun h => by rw [Bd.returns] at h; cases h) hlk (fun fs hr => retN X81 hx (t := .boolean) Bd.returns (by simp) (hb hby at_199) hr) (by rw [e81]; exact ⟨rfl, N81⟩) (by decide) (by decide)
          case neg =>
            refine own_via (U' := T29.setTop (mkF m 140 #[.val (.long x1), .second, .val (.long x2), .second, .val (.long x3), .second, .val (.long x4), .second, .val (.long x5), .second, .val (.int x6), .val (.long b1_), .second, .val (.long b2_), .second, .val (.long b3_), .second, .val (.long b4_), .second, .val (.ref b5), .val (.ref b16), .val (.int (0 : Int32)), .unset] [])) (fun t k => XS.ifNo X29.here hx rfl (hb hby at_137) rfl ((if0 _ _).trans (feq hc64).1) k) ?_
            refine own_via (U' := T29.setTop (mkF m 141 #[.val (.long x1), .second, .val (.long x2), .second, .val (.long x3), .second, .val (.long x4), .second, .val (.long x5), .second, .val (.int x6), .val (.long b1_), .second, .val (.long b2_), .second, .val (.long b3_), .second, .val (.long b4_), .second, .val (.ref b5), .val (.ref b16), .val (.int (0 : Int32)), .unset] [.null])) (fun t k => XS.aconstNull X29.here hx rfl (hb hby at_140) k) ?_
            refine own_via (U' := T29.setTop (mkF m 148 #[.val (.long x1), .second, .val (.long x2), .second, .val (.long x3), .second, .val (.long x4), .second, .val (.long x5), .second, .val (.int x6), .val (.long b1_), .second, .val (.long b2_), .second, .val (.long b3_), .second, .val (.long b4_), .second, .val (.ref b5), .val (.ref b16), .val (.int (0 : Int32)), .unset] [.null])) (fun t k => XS.goto X29.here hx rfl (pc0 := 141) (pc' := 148) rfl (hb hby at_141) (by decide) (by decide) k) ?_
            refine own_via (U' := T29.setTop (mkF m 150 #[.val (.long x1), .second, .val (.long x2), .second, .val (.long x3), .second, .val (.long x4), .second, .val (.long x5), .second, .val (.int x6), .val (.long b1_), .second, .val (.long b2_), .second, .val (.long b3_), .second, .val (.long b4_), .second, .val (.ref b5), .val (.ref b16), .val (.int (0 : Int32)), .val .null] [])) (fun t k => XS.astore X29.here hx rfl (hb hby at_148) rfl rfl (l' := #[.val (.long x1), .second, .val (.long x2), .second, .val (.long x3), .second, .val (.long x4), .second, .val (.long x5), .second, .val (.int x6), .val (.long b1_), .second, .val (.long b2_), .second, .val (.long b3_), .second, .val (.long b4_), .second, .val (.ref b5), .val (.ref b16), .val (.int (0 : Int32)), .val .null]) rfl k) ?_
            refine own_via (U' := T29.setTop (mkF m 152 #[.val (.long x1), .second, .val (.long x2), .second, .val (.long x3), .second, .val (.long x4), .second, .val (.long x5), .second, .val (.int x6), .val (.long b1_), .second, .val (.long b2_), .second, .val (.long b3_), .second, .val (.long b4_), .second, .val (.ref b5), .val (.ref b16), .val (.int (0 : Int32)), .val .null] [(.ref b5)])) (fun t k => XS.aload X29.here hx rfl (hb hby at_150) rfl rfl k) ?_
            refine own_via (U' := T29.setTop (mkF m 154 #[.val (.long x1), .second, .val (.long x2), .second, .val (.long x3), .second, .val (.long x4), .second, .val (.long x5), .second, .val (.int x6), .val (.long b1_), .second, .val (.long b2_), .second, .val (.long b3_), .second, .val (.long b4_), .second, .val (.ref b5), .val (.ref b16), .val (.int (0 : Int32)), .val .null] [(.ref b16), (.ref b5)])) (fun t k => XS.aload X29.here hx rfl (hb hby at_152) rfl rfl k) ?_
            obtain ⟨_, T82, L82, X82, hQ82, st82⟩ := own_callV X29 hx hZ (y := (⟨"com/example/gridloom/gridloom/index/Counter", "equals", "(Ljava/lang/Object;)Z"⟩ : MethodName)) (W := 0) (C := "com/example/gridloom/gridloom/index/Counter") hown (hw _ (List.mem_of_getElem? (i := 30) rfl)) (hw _ (List.mem_of_getElem? (i := 31) rfl)) (hw _ (List.mem_of_getElem? (i := 33) rfl)) (hw _ (List.mem_of_getElem? (i := 32) rfl)) (hw _ (List.mem_of_getElem? (i := 2) rfl)) (hw _ (List.mem_of_getElem? (i := 34) rfl)) (by decide) (rm_Qe1 l Z a0 hw [] b5 b16 x1 x2 x3 x4 b1_ b2_ b3_ b4_ T29.heap n0 Z37 E29q f32 f33 f34 f35 F29q0 F29q1 F29q2 F29q3) (by decide) (by decide) rfl f31 (g := (mkF m 154 #[.val (.long x1), .second, .val (.long x2), .second, .val (.long x3), .second, .val (.long x4), .second, .val (.long x5), .second, .val (.int x6), .val (.long b1_), .second, .val (.long b2_), .second, .val (.long b3_), .second, .val (.long b4_), .second, .val (.ref b5), .val (.ref b16), .val (.int (0 : Int32)), .val .null] [(.ref b16), (.ref b5)])) rfl (by rw [hml]; rfl) (argsL := [(.ref b16)]) (rest := []) rfl (lenOf pd_Ljava_lang_Object___Z rfl) rfl (by show 2 * 0 + _ ≤ _; exact Nat.le_of_eq rfl) (hb hby at_154) (by decide) (by decide)
            obtain ⟨rfl, N82q, e82⟩ := hQ82
            have N82 := Fr.app N29 N82q
            refine own_via (U' := T82.setTop (mkF m 157 #[.val (.long x1), .second, .val (.long x2), .second, .val (.long x3), .second, .val (.long x4), .second, .val (.long x5), .second, .val (.int x6), .val (.long b1_), .second, .val (.long b2_), .second, .val (.long b3_), .second, .val (.long b4_), .second, .val (.ref b5), .val (.ref b16), .val (.int (0 : Int32)), .val .null] [(.int (if x1 = b1_ then (if x2 = b2_ then (if x3 = b3_ then (if x4 = b4_ then (1 : Int32) else (0 : Int32)) else (0 : Int32)) else (0 : Int32)) else (0 : Int32)))])) (fun t k => st82 t k) ?_
            refine own_via (U' := T82.setTop (mkF m 159 #[.val (.long x1), .second, .val (.long x2), .second, .val (.long x3), .second, .val (.long x4), .second, .val (.long x5), .second, .val (.int x6), .val (.long b1_), .second, .val (.long b2_), .second, .val (.long b3_), .second, .val (.long b4_), .second, .val (.ref b5), .val (.ref b16), .val (.int (0 : Int32)), .val .null] [(.int (0 : Int32)), (.int (if x1 = b1_ then (if x2 = b2_ then (if x3 = b3_ then (if x4 = b4_ then (1 : Int32) else (0 : Int32)) else (0 : Int32)) else (0 : Int32)) else (0 : Int32)))])) (fun t k => XS.iload X82.here hx rfl (hb hby at_157) rfl k) ?_
            refine own_via (U' := T82.setTop (mkF m 162 #[.val (.long x1), .second, .val (.long x2), .second, .val (.long x3), .second, .val (.long x4), .second, .val (.long x5), .second, .val (.int x6), .val (.long b1_), .second, .val (.long b2_), .second, .val (.long b3_), .second, .val (.long b4_), .second, .val (.ref b5), .val (.ref b16), .val (.int (0 : Int32)), .val .null] [])) (fun t k => XS.icmpNo X82.here hx rfl (hb hby at_159) rfl (teq (by rw [if_pos hc38.symm, if_pos hc39.symm, if_pos hc40.symm, if_neg (fun z => hc41 z.symm)])).2 k) ?_
            refine own_via (U' := T82.setTop (mkF m 164 #[.val (.long x1), .second, .val (.long x2), .second, .val (.long x3), .second, .val (.long x4), .second, .val (.long x5), .second, .val (.int x6), .val (.long b1_), .second, .val (.long b2_), .second, .val (.long b3_), .second, .val (.long b4_), .second, .val (.ref b5), .val (.ref b16), .val (.int (0 : Int32)), .val .null] [(.ref b16)])) (fun t k => XS.aload X82.here hx rfl (hb hby at_162) rfl rfl k) ?_
            refine own_via (U' := T82.setTop (mkF m 166 #[.val (.long x1), .second, .val (.long x2), .second, .val (.long x3), .second, .val (.long x4), .second, .val (.long x5), .second, .val (.int x6), .val (.long b1_), .second, .val (.long b2_), .second, .val (.long b3_), .second, .val (.long b4_), .second, .val (.ref b5), .val (.ref b16), .val (.int (0 : Int32)), .val .null] [(.ref b5), (.ref b16)])) (fun t k => XS.aload X82.here hx rfl (hb hby at_164) rfl rfl k) ?_
            obtain ⟨_, T83, L83, X83, hQ83, st83⟩ := own_callV X82 hx hZ (y := (⟨"com/example/gridloom/gridloom/index/Counter", "equals", "(Ljava/lang/Object;)Z"⟩ : MethodName)) (W := 0) (C := "com/example/gridloom/gridloom/index/Counter") hown (hw _ (List.mem_of_getElem? (i := 30) rfl)) (hw _ (List.mem_of_getElem? (i := 31) rfl)) (hw _ (List.mem_of_getElem? (i := 33) rfl)) (hw _ (List.mem_of_getElem? (i := 32) rfl)) (hw _ (List.mem_of_getElem? (i := 2) rfl)) (hw _ (List.mem_of_getElem? (i := 34) rfl)) (by decide) (rm_Qe1 l Z a0 hw [] b16 b5 b1_ b2_ b3_ b4_ x1 x2 x3 x4 T29.heap n0 Z37 f31 F29q0 F29q1 F29q2 F29q3 f32 f33 f34 f35) (by decide) (by decide) e82 E29q (g := (mkF m 166 #[.val (.long x1), .second, .val (.long x2), .second, .val (.long x3), .second, .val (.long x4), .second, .val (.long x5), .second, .val (.int x6), .val (.long b1_), .second, .val (.long b2_), .second, .val (.long b3_), .second, .val (.long b4_), .second, .val (.ref b5), .val (.ref b16), .val (.int (0 : Int32)), .val .null] [(.ref b5), (.ref b16)])) rfl (by rw [hml]; rfl) (argsL := [(.ref b5)]) (rest := []) rfl (lenOf pd_Ljava_lang_Object___Z rfl) rfl (by show 2 * 0 + _ ≤ _; exact Nat.le_of_eq rfl) (hb hby at_166) (by decide) (by decide)
            obtain ⟨rfl, N83q, e83⟩ := hQ83
            have N83 := Fr.app N82 N83q
            refine own_via (U' := T83.setTop (mkF m 169 #[.val (.long x1), .second, .val (.long x2), .second, .val (.long x3), .second, .val (.long x4), .second, .val (.long x5), .second, .val (.int x6), .val (.long b1_), .second, .val (.long b2_), .second, .val (.long b3_), .second, .val (.long b4_), .second, .val (.ref b5), .val (.ref b16), .val (.int (0 : Int32)), .val .null] [(.int (if b1_ = x1 then (if b2_ = x2 then (if b3_ = x3 then (if b4_ = x4 then (1 : Int32) else (0 : Int32)) else (0 : Int32)) else (0 : Int32)) else (0 : Int32)))])) (fun t k => st83 t k) ?_
            refine own_via (U' := T83.setTop (mkF m 171 #[.val (.long x1), .second, .val (.long x2), .second, .val (.long x3), .second, .val (.long x4), .second, .val (.long x5), .second, .val (.int x6), .val (.long b1_), .second, .val (.long b2_), .second, .val (.long b3_), .second, .val (.long b4_), .second, .val (.ref b5), .val (.ref b16), .val (.int (0 : Int32)), .val .null] [(.int (0 : Int32)), (.int (if b1_ = x1 then (if b2_ = x2 then (if b3_ = x3 then (if b4_ = x4 then (1 : Int32) else (0 : Int32)) else (0 : Int32)) else (0 : Int32)) else (0 : Int32)))])) (fun t k => XS.iload X83.here hx rfl (hb hby at_169) rfl k) ?_
            refine own_via (U' := T83.setTop (mkF m 174 #[.val (.long x1), .second, .val (.long x2), .second, .val (.long x3), .second, .val (.long x4), .second, .val (.long x5), .second, .val (.int x6), .val (.long b1_), .second, .val (.long b2_), .second, .val (.long b3_), .second, .val (.long b4_), .second, .val (.ref b5), .val (.ref b16), .val (.int (0 : Int32)), .val .null] [])) (fun t k => XS.icmpNo X83.here hx rfl (hb hby at_171) rfl (teq (by rw [if_pos hc38, if_pos hc39, if_pos hc40, if_neg hc41])).2 k) ?_
            refine own_via (U' := T83.setTop (mkF m 176 #[.val (.long x1), .second, .val (.long x2), .second, .val (.long x3), .second, .val (.long x4), .second, .val (.long x5), .second, .val (.int x6), .val (.long b1_), .second, .val (.long b2_), .second, .val (.long b3_), .second, .val (.long b4_), .second, .val (.ref b5), .val (.ref b16), .val (.int (0 : Int32)), .val .null] [(.ref b5)])) (fun t k => XS.aload X83.here hx rfl (hb hby at_174) rfl rfl k) ?_
            refine own_via (U' := T83.setTop (mkF m 178 #[.val (.long x1), .second, .val (.long x2), .second, .val (.long x3), .second, .val (.long x4), .second, .val (.long x5), .second, .val (.int x6), .val (.long b1_), .second, .val (.long b2_), .second, .val (.long b3_), .second, .val (.long b4_), .second, .val (.ref b5), .val (.ref b16), .val (.int (0 : Int32)), .val .null] [(.ref b5), (.ref b5)])) (fun t k => XS.aload X83.here hx rfl (hb hby at_176) rfl rfl k) ?_
            obtain ⟨_, T84, L84, X84, hQ84, st84⟩ := own_callV X83 hx hZ (y := (⟨"com/example/gridloom/gridloom/index/Counter", "equals", "(Ljava/lang/Object;)Z"⟩ : MethodName)) (W := 0) (C := "com/example/gridloom/gridloom/index/Counter") hown (hw _ (List.mem_of_getElem? (i := 30) rfl)) (hw _ (List.mem_of_getElem? (i := 31) rfl)) (hw _ (List.mem_of_getElem? (i := 33) rfl)) (hw _ (List.mem_of_getElem? (i := 32) rfl)) (hw _ (List.mem_of_getElem? (i := 2) rfl)) (hw _ (List.mem_of_getElem? (i := 34) rfl)) (by decide) (rm_Qe1 l Z a0 hw [] b5 b5 x1 x2 x3 x4 x1 x2 x3 x4 T29.heap n0 Z37 f31 f32 f33 f34 f35 f32 f33 f34 f35) (by decide) (by decide) e83 f31 (g := (mkF m 178 #[.val (.long x1), .second, .val (.long x2), .second, .val (.long x3), .second, .val (.long x4), .second, .val (.long x5), .second, .val (.int x6), .val (.long b1_), .second, .val (.long b2_), .second, .val (.long b3_), .second, .val (.long b4_), .second, .val (.ref b5), .val (.ref b16), .val (.int (0 : Int32)), .val .null] [(.ref b5), (.ref b5)])) rfl (by rw [hml]; rfl) (argsL := [(.ref b5)]) (rest := []) rfl (lenOf pd_Ljava_lang_Object___Z rfl) rfl (by show 2 * 0 + _ ≤ _; exact Nat.le_of_eq rfl) (hb hby at_178) (by decide) (by decide)
            obtain ⟨rfl, N84q, e84⟩ := hQ84
            have N84 := Fr.app N83 N84q
            refine own_via (U' := T84.setTop (mkF m 181 #[.val (.long x1), .second, .val (.long x2), .second, .val (.long x3), .second, .val (.long x4), .second, .val (.long x5), .second, .val (.int x6), .val (.long b1_), .second, .val (.long b2_), .second, .val (.long b3_), .second, .val (.long b4_), .second, .val (.ref b5), .val (.ref b16), .val (.int (0 : Int32)), .val .null] [(.int (if x1 = x1 then (if x2 = x2 then (if x3 = x3 then (if x4 = x4 then (1 : Int32) else (0 : Int32)) else (0 : Int32)) else (0 : Int32)) else (0 : Int32)))])) (fun t k => st84 t k) ?_
            refine own_via (U' := T84.setTop (mkF m 184 #[.val (.long x1), .second, .val (.long x2), .second, .val (.long x3), .second, .val (.long x4), .second, .val (.long x5), .second, .val (.int x6), .val (.long b1_), .second, .val (.long b2_), .second, .val (.long b3_), .second, .val (.long b4_), .second, .val (.ref b5), .val (.ref b16), .val (.int (0 : Int32)), .val .null] [])) (fun t k => XS.ifNo X84.here hx rfl (hb hby at_181) rfl ((if0 _ _).trans (feq (by rw [if_pos rfl, if_pos rfl, if_pos rfl, if_pos rfl]; decide)).1) k) ?_
            refine own_via (U' := T84.setTop (mkF m 186 #[.val (.long x1), .second, .val (.long x2), .second, .val (.long x3), .second, .val (.long x4), .second, .val (.long x5), .second, .val (.int x6), .val (.long b1_), .second, .val (.long b2_), .second, .val (.long b3_), .second, .val (.long b4_), .second, .val (.ref b5), .val (.ref b16), .val (.int (0 : Int32)), .val .null] [(.ref b5)])) (fun t k => XS.aload X84.here hx rfl (hb hby at_184) rfl rfl k) ?_
            refine own_via (U' := T84.setTop (mkF m 188 #[.val (.long x1), .second, .val (.long x2), .second, .val (.long x3), .second, .val (.long x4), .second, .val (.long x5), .second, .val (.int x6), .val (.long b1_), .second, .val (.long b2_), .second, .val (.long b3_), .second, .val (.long b4_), .second, .val (.ref b5), .val (.ref b16), .val (.int (0 : Int32)), .val .null] [.null, (.ref b5)])) (fun t k => XS.aload X84.here hx rfl (hb hby at_186) rfl rfl k) ?_
            obtain ⟨_, T85, L85, X85, hQ85, st85⟩ := own_callV X84 hx hZ (y := (⟨"com/example/gridloom/gridloom/index/Counter", "equals", "(Ljava/lang/Object;)Z"⟩ : MethodName)) (W := 0) (C := "com/example/gridloom/gridloom/index/Counter") hown (hw _ (List.mem_of_getElem? (i := 30) rfl)) (hw _ (List.mem_of_getElem? (i := 31) rfl)) (hw _ (List.mem_of_getElem? (i := 33) rfl)) (hw _ (List.mem_of_getElem? (i := 32) rfl)) (hw _ (List.mem_of_getElem? (i := 2) rfl)) (hw _ (List.mem_of_getElem? (i := 34) rfl)) (by decide) (rm_Qe2 l Z a0 hw [] b5 T29.heap n0 Z37) (by decide) (by decide) e84 f31 (g := (mkF m 188 #[.val (.long x1), .second, .val (.long x2), .second, .val (.long x3), .second, .val (.long x4), .second, .val (.long x5), .second, .val (.int x6), .val (.long b1_), .second, .val (.long b2_), .second, .val (.long b3_), .second, .val (.long b4_), .second, .val (.ref b5), .val (.ref b16), .val (.int (0 : Int32)), .val .null] [.null, (.ref b5)])) rfl (by rw [hml]; rfl) (argsL := [.null]) (rest := []) rfl (lenOf pd_Ljava_lang_Object___Z rfl) rfl (by show 2 * 0 + _ ≤ _; exact Nat.le_of_eq rfl) (hb hby at_188) (by decide) (by decide)
            obtain ⟨rfl, N85q, e85⟩ := hQ85
            have N85 := Fr.app N84 N85q
            refine own_via (U' := T85.setTop (mkF m 191 #[.val (.long x1), .second, .val (.long x2), .second, .val (.long x3), .second, .val (.long x4), .second, .val (.long x5), .second, .val (.int x6), .val (.long b1_), .second, .val (.long b2_), .second, .val (.long b3_), .second, .val (.long b4_), .second, .val (.ref b5), .val (.ref b16), .val (.int (0 : Int32)), .val .null] [(.int (0 : Int32))])) (fun t k => st85 t k) ?_
            refine own_via (U' := T85.setTop (mkF m 194 #[.val (.long x1), .second, .val (.long x2), .second, .val (.long x3), .second, .val (.long x4), .second, .val (.long x5), .second, .val (.int x6), .val (.long b1_), .second, .val (.long b2_), .second, .val (.long b3_), .second, .val (.long b4_), .second, .val (.ref b5), .val (.ref b16), .val (.int (0 : Int32)), .val .null] [])) (fun t k => XS.ifNo X85.here hx rfl (hb hby at_191) rfl ((if0 _ _).trans (teq (by decide : ((0 : Int32) = (0 : Int32)))).2) k) ?_
            refine own_via (U' := T85.setTop (mkF m 195 #[.val (.long x1), .second, .val (.long x2), .second, .val (.long x3), .second, .val (.long x4), .second, .val (.long x5), .second, .val (.int x6), .val (.long b1_), .second, .val (.long b2_), .second, .val (.long b3_), .second, .val (.long b4_), .second, .val (.ref b5), .val (.ref b16), .val (.int (0 : Int32)), .val .null] [(.int (1 : Int32))])) (fun t k => XS.iconst X85.here hx rfl (hb hby at_194) k) ?_
            refine own_via (U' := T85.setTop (mkF m 199 #[.val (.long x1), .second, .val (.long x2), .second, .val (.long x3), .second, .val (.long x4), .second, .val (.long x5), .second, .val (.int x6), .val (.long b1_), .second, .val (.long b2_), .second, .val (.long b3_), .second, .val (.long b4_), .second, .val (.ref b5), .val (.ref b16), .val (.int (0 : Int32)), .val .null] [(.int (1 : Int32))])) (fun t k => XS.goto X85.here hx rfl (pc0 := 195) (pc' := 199) rfl (hb hby at_195) (by decide) (by decide) k) ?_
            exact own_ret X85 (v := some (.int (1 : Int32))) (fun h => by rw [Bd.returns] at h; cases h) hlk (fun fs hr => retN X85 hx (t := .boolean) Bd.returns (by simp) (hb hby at_199) hr) (by rw [e85]; exact ⟨rfl, N85⟩) (by decide) (by decide)
      case neg =>
        refine own_via (U' := T29.setTop (mkF m 129 #[.val (.long x1), .second, .val (.long x2), .second, .val (.long x3), .second, .val (.long x4), .second, .val (.long x5), .second, .val (.int x6), .val (.long b1_), .second, .val (.long b2_), .second, .val (.long b3_), .second, .val (.long b4_), .second, .val (.ref b5), .val (.ref b16), .unset, .unset] [])) (fun t k => XS.ifYes X29.here hx rfl (pc0 := 114) (pc' := 129) rfl (hb hby at_114) rfl (own_jne hc40).2 (by decide) (by decide) k) ?_
        refine own_via (U' := T29.setTop (mkF m 130 #[.val (.long x1), .second, .val (.long x2), .second, .val (.long x3), .second, .val (.long x4), .second, .val (.long x5), .second, .val (.int x6), .val (.long b1_), .second, .val (.long b2_), .second, .val (.long b3_), .second, .val (.long b4_), .second, .val (.ref b5), .val (.ref b16), .unset, .unset] [(.int (0 : Int32))])) (fun t k => XS.iconst X29.here hx rfl (hb hby at_129) k) ?_
        refine own_via (U' := T29.setTop (mkF m 132 #[.val (.long x1), .second, .val (.long x2), .second, .val (.long x3), .second, .val (.long x4), .second, .val (.long x5), .second, .val (.int x6), .val (.long b1_), .second, .val (.long b2_), .second, .val (.long b3_), .second, .val (.long b4_), .second, .val (.ref b5), .val (.ref b16), .val (.int (0 : Int32)), .unset] [])) (fun t k => XS.istore X29.here hx rfl (hb hby at_130) rfl (l' := #[.val (.long x1), .second, .val (.long x2), .second, .val (.long x3), .second, .val (.long x4), .second, .val (.long x5), .second, .val (.int x6), .val (.long b1_), .second, .val (.long b2_), .second, .val (.long b3_), .second, .val (.long b4_), .second, .val (.ref b5), .val (.ref b16), .val (.int (0 : Int32)), .unset]) rfl k) ?_
        refine own_via (U' := T29.setTop (mkF m 134 #[.val (.long x1), .second, .val (.long x2), .second, .val (.long x3), .second, .val (.long x4), .second, .val (.long x5), .second, .val (.int x6), .val (.long b1_), .second, .val (.long b2_), .second, .val (.long b3_), .second, .val (.long b4_), .second, .val (.ref b5), .val (.ref b16), .val (.int (0 : Int32)), .unset] [(.int x6)])) (fun t k => XS.iload X29.here hx rfl (hb hby at_132) rfl k) ?_
        refine own_via (U' := T29.setTop (mkF m 136 #[.val (.long x1), .second, .val (.long x2), .second, .val (.long x3), .second, .val (.long x4), .second, .val (.long x5), .second, .val (.int x6), .val (.long b1_), .second, .val (.long b2_), .second, .val (.long b3_), .second, .val (.long b4_), .second, .val (.ref b5), .val (.ref b16), .val (.int (0 : Int32)), .unset] [(.int (16 : Int32)), (.int x6)])) (fun t k => XS.bipush X29.here hx rfl (hb hby at_134) k) ?_
        refine own_via (U' := T29.setTop (mkF m 137 #[.val (.long x1), .second, .val (.long x2), .second, .val (.long x3), .second, .val (.long x4), .second, .val (.long x5), .second, .val (.int x6), .val (.long b1_), .second, .val (.long b2_), .second, .val (.long b3_), .second, .val (.long b4_), .second, .val (.ref b5), .val (.ref b16), .val (.int (0 : Int32)), .unset] [(.int (x6 &&& (16 : Int32)))])) (fun t k => XS.iand X29.here hx rfl (hb hby at_136) rfl k) ?_
        by_cases hc86 : (x6 &&& (16 : Int32)) = (0 : Int32)
        case pos =>
          refine own_via (U' := T29.setTop (mkF m 144 #[.val (.long x1), .second, .val (.long x2), .second, .val (.long x3), .second, .val (.long x4), .second, .val (.long x5), .second, .val (.int x6), .val (.long b1_), .second, .val (.long b2_), .second, .val (.long b3_), .second, .val (.long b4_), .second, .val (.ref b5), .val (.ref b16), .val (.int (0 : Int32)), .unset] [])) (fun t k => XS.ifYes X29.here hx rfl (pc0 := 137) (pc' := 144) rfl (hb hby at_137) rfl ((if0 _ _).trans (teq hc86).1) (by decide) (by decide) k) ?_
          refine own_via (U' := T29.setTop (mkF m 145 #[.val (.long x1), .second, .val (.long x2), .second, .val (.long x3), .second, .val (.long x4), .second, .val (.long x5), .second, .val (.int x6), .val (.long b1_), .second, .val (.long b2_), .second, .val (.long b3_), .second, .val (.long b4_), .second, .val (.ref b5), .val (.ref b16), .val (.int (0 : Int32)), .unset] [(.long x1)])) (fun t k => XS.lloadN X29.here hx rfl (hb hby at_144) rfl k) ?_
          obtain ⟨_, T87, L87, X87, hQ87, st87⟩ := own_callS X29 hx hZ (y := (⟨"java/lang/Long", "valueOf", "(J)Ljava/lang/Long;"⟩ : MethodName)) (W := 0) hown (hw _ (List.mem_of_getElem? (i := 22) rfl)) (hw _ (List.mem_of_getElem? (i := 23) rfl)) (hw _ (List.mem_of_getElem? (i := 24) rfl)) (hw _ (List.mem_of_getElem? (i := 25) rfl)) (by decide) (rm_Qvo l Z a0 hw [] x1 ca cl T29.heap n0 Z37 f30 Sc Bx) (by decide) (by decide) rfl (g := (mkF m 145 #[.val (.long x1), .second, .val (.long x2), .second, .val (.long x3), .second, .val (.long x4), .second, .val (.long x5), .second, .val (.int x6), .val (.long b1_), .second, .val (.long b2_), .second, .val (.long b3_), .second, .val (.long b4_), .second, .val (.ref b5), .val (.ref b16), .val (.int (0 : Int32)), .unset] [(.long x1)])) rfl (by rw [hml]; rfl) (argsL := [(.long x1)]) (rest := []) rfl (lenOf pd_J__Ljava_lang_Long_ rfl) rfl (by show 2 * 0 + _ ≤ _; exact Nat.le_of_eq rfl) (hb hby at_145) (by decide) (by decide)
          obtain ⟨lb87, rfl, N87q, K87q, E87q⟩ := hQ87
          have N87 := Fr.app N29 N87q
          have f88 := f30.keep K87q all0
          have f89 := f31.keep K87q
          have f90 := f32.keep K87q nin0
          have f91 := f33.keep K87q nin0
          have f92 := f34.keep K87q nin0
          have f93 := f35.keep K87q nin0
          have f94 := E29q.keep K87q
          have f95 := F29q0.keep K87q nin0
          have f96 := F29q1.keep K87q nin0
          have f97 := F29q2.keep K87q nin0
          have f98 := F29q3.keep K87q nin0
          have Z99 : n0 ≤ T87.heap.size := Nat.le_trans Z37 K87q.1
          have K99 := K37.trans K87q all0
          refine own_via (U' := T87.setTop (mkF m 148 #[.val (.long x1), .second, .val (.long x2), .second, .val (.long x3), .second, .val (.long x4), .second, .val (.long x5), .second, .val (.int x6), .val (.long b1_), .second, .val (.long b2_), .second, .val (.long b3_), .second, .val (.long b4_), .second, .val (.ref b5), .val (.ref b16), .val (.int (0 : Int32)), .unset] [(.ref lb87)])) (fun t k => st87 t k) ?_
          refine own_via (U' := T87.setTop (mkF m 150 #[.val (.long x1), .second, .val (.long x2), .second, .val (.long x3), .second, .val (.long x4), .second, .val (.long x5), .second, .val (.int x6), .val (.long b1_), .second, .val (.long b2_), .second, .val (.long b3_), .second, .val (.long b4_), .second, .val (.ref b5), .val (.ref b16), .val (.int (0 : Int32)), .val (.ref lb87)] [])) (fun t k => XS.astore X87.here hx rfl (hb hby at_148) rfl rfl (l' := #[.val (.long x1), .second, .val (.long x2), .second, .val (.long x3), .second, .val (.long x4), .second, .val (.long x5), .second, .val (.int x6), .val (.long b1_), .second, .val (.long b2_), .second, .val (.long b3_), .second, .val (.long b4_), .second, .val (.ref b5), .val (.ref b16), .val (.int (0 : Int32)), .val (.ref lb87)]) rfl k) ?_
          refine own_via (U' := T87.setTop (mkF m 152 #[.val (.long x1), .second, .val (.long x2), .second, .val (.long x3), .second, .val (.long x4), .second, .val (.long x5), .second, .val (.int x6), .val (.long b1_), .second, .val (.long b2_), .second, .val (.long b3_), .second, .val (.long b4_), .second, .val (.ref b5), .val (.ref b16), .val (.int (0 : Int32)), .val (.ref lb87)] [(.ref b5)])) (fun t k => XS.aload X87.here hx rfl (hb hby at_150) rfl rfl k) ?_
          refine own_via (U' := T87.setTop (mkF m 154 #[.val (.long x1), .second, .val (.long x2), .second, .val (.long x3), .second, .val (.long x4), .second, .val (.long x5), .second, .val (.int x6), .val (.long b1_), .second, .val (.long b2_), .second, .val (.long b3_), .second, .val (.long b4_), .second, .val (.ref b5), .val (.ref b16), .val (.int (0 : Int32)), .val (.ref lb87)] [(.ref b16), (.ref b5)])) (fun t k => XS.aload X87.here hx rfl (hb hby at_152) rfl rfl k) ?_
          obtain ⟨_, T100, L100, X100, hQ100, st100⟩ := own_callV X87 hx hZ (y := (⟨"com/example/gridloom/gridloom/index/Counter", "equals", "(Ljava/lang/Object;)Z"⟩ : MethodName)) (W := 0) (C := "com/example/gridloom/gridloom/index/Counter") hown (hw _ (List.mem_of_getElem? (i := 30) rfl)) (hw _ (List.mem_of_getElem? (i := 31) rfl)) (hw _ (List.mem_of_getElem? (i := 33) rfl)) (hw _ (List.mem_of_getElem? (i := 32) rfl)) (hw _ (List.mem_of_getElem? (i := 2) rfl)) (hw _ (List.mem_of_getElem? (i := 34) rfl)) (by decide) (rm_Qe1 l Z a0 hw [] b5 b16 x1 x2 x3 x4 b1_ b2_ b3_ b4_ T87.heap n0 Z99 f94 f90 f91 f92 f93 f95 f96 f97 f98) (by decide) (by decide) rfl f89 (g := (mkF m 154 #[.val (.long x1), .second, .val (.long x2), .second, .val (.long x3), .second, .val (.long x4), .second, .val (.long x5), .second, .val (.int x6), .val (.long b1_), .second, .val (.long b2_), .second, .val (.long b3_), .second, .val (.long b4_), .second, .val (.ref b5), .val (.ref b16), .val (.int (0 : Int32)), .val (.ref lb87)] [(.ref b16), (.ref b5)])) rfl (by rw [hml]; rfl) (argsL := [(.ref b16)]) (rest := []) rfl (lenOf pd_Ljava_lang_Object___Z rfl) rfl (by show 2 * 0 + _ ≤ _; exact Nat.le_of_eq rfl) (hb hby at_154) (by decide) (by decide)
          obtain ⟨rfl, N100q, e100⟩ := hQ100
          have N100 := Fr.app N87 N100q
          refine own_via (U' := T100.setTop (mkF m 157 #[.val (.long x1), .second, .val (.long x2), .second, .val (.long x3), .second, .val (.long x4), .second, .val (.long x5), .second, .val (.int x6), .val (.long b1_), .second, .val (.long b2_), .second, .val (.long b3_), .second, .val (.long b4_), .second, .val (.ref b5), .val (.ref b16), .val (.int (0 : Int32)), .val (.ref lb87)] [(.int (if x1 = b1_ then (if x2 = b2_ then (if x3 = b3_ then (if x4 = b4_ then (1 : Int32) else (0 : Int32)) else (0 : Int32)) else (0 : Int32)) else (0 : Int32)))])) (fun t k => st100 t k) ?_
          refine own_via (U' := T100.setTop (mkF m 159 #[.val (.long x1), .second, .val (.long x2), .second, .val (.long x3), .second, .val (.long x4), .second, .val (.long x5), .second, .val (.int x6), .val (.long b1_), .second, .val (.long b2_), .second, .val (.long b3_), .second, .val (.long b4_), .second, .val (.ref b5), .val (.ref b16), .val (.int (0 : Int32)), .val (.ref lb87)] [(.int (0 : Int32)), (.int (if x1 = b1_ then (if x2 = b2_ then (if x3 = b3_ then (if x4 = b4_ then (1 : Int32) else (0 : Int32)) else (0 : Int32)) else (0 : Int32)) else (0 : Int32)))])) (fun t k => XS.iload X100.here hx rfl (hb hby at_157) rfl k) ?_
          refine own_via (U' := T100.setTop (mkF m 162 #[.val (.long x1), .second, .val (.long x2), .second, .val (.long x3), .second, .val (.long x4), .second, .val (.long x5), .second, .val (.int x6), .val (.long b1_), .second, .val (.long b2_), .second, .val (.long b3_), .second, .val (.long b4_), .second, .val (.ref b5), .val (.ref b16), .val (.int (0 : Int32)), .val (.ref lb87)] [])) (fun t k => XS.icmpNo X100.here hx rfl (hb hby at_159) rfl (teq (by rw [if_pos hc38.symm, if_pos hc39.symm, if_neg (fun z => hc40 z.symm)])).2 k) ?_
          refine own_via (U' := T100.setTop (mkF m 164 #[.val (.long x1), .second, .val (.long x2), .second, .val (.long x3), .second, .val (.long x4), .second, .val (.long x5), .second, .val (.int x6), .val (.long b1_), .second, .val (.long b2_), .second, .val (.long b3_), .second, .val (.long b4_), .second, .val (.ref b5), .val (.ref b16), .val (.int (0 : Int32)), .val (.ref lb87)] [(.ref b16)])) (fun t k => XS.aload X100.here hx rfl (hb hby at_162) rfl rfl k) ?_
          refine own_via (U' := T100.setTop (mkF m 166 #[.val (.long x1), .second, .val (.long x2), .second, .val (.long x3), .second, .val (.long x4), .second, .val (.long x5), .second, .val (.int x6), .val (.long b1_), .second, .val (.long b2_), .second, .val (.long b3_), .second, .val (.long b4_), .second, .val (.ref b5), .val (.ref b16), .val (.int (0 : Int32)), .val (.ref lb87)] [(.ref b5), (.ref b16)])) (fun t k => XS.aload X100.here hx rfl (hb hby at_164) rfl rfl k) ?_
          obtain ⟨_, T101, L101, X101, hQ101, st101⟩ := own_callV X100 hx hZ (y := (⟨"com/example/gridloom/gridloom/index/Counter", "equals", "(Ljava/lang/Object;)Z"⟩ : MethodName)) (W := 0) (C := "com/example/gridloom/gridloom/index/Counter") hown (hw _ (List.mem_of_getElem? (i := 30) rfl)) (hw _ (List.mem_of_getElem? (i := 31) rfl)) (hw _ (List.mem_of_getElem? (i := 33) rfl)) (hw _ (List.mem_of_getElem? (i := 32) rfl)) (hw _ (List.mem_of_getElem? (i := 2) rfl)) (hw _ (List.mem_of_getElem? (i := 34) rfl)) (by decide) (rm_Qe1 l Z a0 hw [] b16 b5 b1_ b2_ b3_ b4_ x1 x2 x3 x4 T87.heap n0 Z99 f89 f95 f96 f97 f98 f90 f91 f92 f93) (by decide) (by decide) e100 f94 (g := (mkF m 166 #[.val (.long x1), .second, .val (.long x2), .second, .val (.long x3), .second, .val (.long x4), .second, .val (.long x5), .second, .val (.int x6), .val (.long b1_), .second, .val (.long b2_), .second, .val (.long b3_), .second, .val (.long b4_), .second, .val (.ref b5), .val (.ref b16), .val (.int (0 : Int32)), .val (.ref lb87)] [(.ref b5), (.ref b16)])) rfl (by rw [hml]; rfl) (argsL := [(.ref b5)]) (rest := []) rfl (lenOf pd_Ljava_lang_Object___Z rfl) rfl (by show 2 * 0 + _ ≤ _; exact Nat.le_of_eq rfl) (hb hby at_166) (by decide) (by decide)
          obtain ⟨rfl, N101q, e101⟩ := hQ101
          have N101 := Fr.app N100 N101q
          refine own_via (U' := T101.setTop (mkF m 169 #[.val (.long x1), .second, .val (.long x2), .second, .val (.long x3), .second, .val (.long x4), .second, .val (.long x5), .second, .val (.int x6), .val (.long b1_), .second, .val (.long b2_), .second, .val (.long b3_), .second, .val (.long b4_), .second, .val (.ref b5), .val (.ref b16), .val (.int (0 : Int32)), .val (.ref lb87)] [(.int (if b1_ = x1 then (if b2_ = x2 then (if b3_ = x3 then (if b4_ = x4 then (1 : Int32) else (0 : Int32)) else (0 : Int32)) else (0 : Int32)) else (0 : Int32)))])) (fun t k => st101 t k) ?_
          refine own_via (U' := T101.setTop (mkF m 171 #[.val (.long x1), .second, .val (.long x2), .second, .val (.long x3), .second, .val (.long x4), .second, .val (.long x5), .second, .val (.int x6), .val (.long b1_), .second, .val (.long b2_), .second, .val (.long b3_), .second, .val (.long b4_), .second, .val (.ref b5), .val (.ref b16), .val (.int (0 : Int32)), .val (.ref lb87)] [(.int (0 : Int32)), (.int (if b1_ = x1 then (if b2_ = x2 then (if b3_ = x3 then (if b4_ = x4 then (1 : Int32) else (0 : Int32)) else (0 : Int32)) else (0 : Int32)) else (0 : Int32)))])) (fun t k => XS.iload X101.here hx rfl (hb hby at_169) rfl k) ?_
          refine own_via (U' := T101.setTop (mkF m 174 #[.val (.long x1), .second, .val (.long x2), .second, .val (.long x3), .second, .val (.long x4), .second, .val (.long x5), .second, .val (.int x6), .val (.long b1_), .second, .val (.long b2_), .second, .val (.long b3_), .second, .val (.long b4_), .second, .val (.ref b5), .val (.ref b16), .val (.int (0 : Int32)), .val (.ref lb87)] [])) (fun t k => XS.icmpNo X101.here hx rfl (hb hby at_171) rfl (teq (by rw [if_pos hc38, if_pos hc39, if_neg hc40])).2 k) ?_
          refine own_via (U' := T101.setTop (mkF m 176 #[.val (.long x1), .second, .val (.long x2), .second, .val (.long x3), .second, .val (.long x4), .second, .val (.long x5), .second, .val (.int x6), .val (.long b1_), .second, .val (.long b2_), .second, .val (.long b3_), .second, .val (.long b4_), .second, .val (.ref b5), .val (.ref b16), .val (.int (0 : Int32)), .val (.ref lb87)] [(.ref b5)])) (fun t k => XS.aload X101.here hx rfl (hb hby at_174) rfl rfl k) ?_
          refine own_via (U' := T101.setTop (mkF m 178 #[.val (.long x1), .second, .val (.long x2), .second, .val (.long x3), .second, .val (.long x4), .second, .val (.long x5), .second, .val (.int x6), .val (.long b1_), .second, .val (.long b2_), .second, .val (.long b3_), .second, .val (.long b4_), .second, .val (.ref b5), .val (.ref b16), .val (.int (0 : Int32)), .val (.ref lb87)] [(.ref b5), (.ref b5)])) (fun t k => XS.aload X101.here hx rfl (hb hby at_176) rfl rfl k) ?_
          obtain ⟨_, T102, L102, X102, hQ102, st102⟩ := own_callV X101 hx hZ (y := (⟨"com/example/gridloom/gridloom/index/Counter", "equals", "(Ljava/lang/Object;)Z"⟩ : MethodName)) (W := 0) (C := "com/example/gridloom/gridloom/index/Counter") hown (hw _ (List.mem_of_getElem? (i := 30) rfl)) (hw _ (List.mem_of_getElem? (i := 31) rfl)) (hw _ (List.mem_of_getElem? (i := 33) rfl)) (hw _ (List.mem_of_getElem? (i := 32) rfl)) (hw _ (List.mem_of_getElem? (i := 2) rfl)) (hw _ (List.mem_of_getElem? (i := 34) rfl)) (by decide) (rm_Qe1 l Z a0 hw [] b5 b5 x1 x2 x3 x4 x1 x2 x3 x4 T87.heap n0 Z99 f89 f90 f91 f92 f93 f90 f91 f92 f93) (by decide) (by decide) e101 f89 (g := (mkF m 178 #[.val (.long x1), .second, .val (.long x2), .second, .val (.long x3), .second, .val (.long x4), .second, .val (.long x5), .second, .val (.int x6), .val (.long b1_), .second, .val (.long b2_), .second, .val (.long b3_), .second, .val (.long b4_), .second, .val (.ref b5), .val (.ref b16), .val (.int (0 : Int32)), .val (.ref lb87)] [(.ref b5), (.ref b5)])) rfl (by rw [hml]; rfl) (argsL := [(.ref b5)]) (rest := []) rfl (lenOf pd_Ljava_lang_Object___Z rfl) rfl (by show 2 * 0 + _ ≤ _; exact Nat.le_of_eq rfl) (hb hby at_178) (by decide) (by decide)
          obtain ⟨rfl, N102q, e102⟩ := hQ102
          have N102 := Fr.app N101 N102q
          refine own_via (U' := T102.setTop (mkF m 181 #[.val (.long x1), .second, .val (.long x2), .second, .val (.long x3), .second, .val (.long x4), .second, .val (.long x5), .second, .val (.int x6), .val (.long b1_), .second, .val (.long b2_), .second, .val (.long b3_), .second, .val (.long b4_), .second, .val (.ref b5), .val (.ref b16), .val (.int (0 : Int32)), .val (.ref lb87)] [(.int (if x1 = x1 then (if x2 = x2 then (if x3 = x3 then (if x4 = x4 then (1 : Int32) else (0 : Int32)) else (0 : Int32)) else (0 : Int32)) else (0 : Int32)))])) (fun t k => st102 t k) ?_
          refine own_via (U' := T102.setTop (mkF m 184 #[.val (.long x1), .second, .val (.long x2), .second, .val (.long x3), .second, .val (.long x4), .second, .val (.long x5), .second, .val (.int x6), .val (.long b1_), .second, .val (.long b2_), .second, .val (.long b3_), .second, .val (.long b4_), .second, .val (.ref b5), .val (.ref b16), .val (.int (0 : Int32)), .val (.ref lb87)] [])) (fun t k => XS.ifNo X102.here hx rfl (hb hby at_181) rfl ((if0 _ _).trans (feq (by rw [if_pos rfl, if_pos rfl, if_pos rfl, if_pos rfl]; decide)).1) k) ?_
          refine own_via (U' := T102.setTop (mkF m 186 #[.val (.long x1), .second, .val (.long x2), .second, .val (.long x3), .second, .val (.long x4), .second, .val (.long x5), .second, .val (.int x6), .val (.long b1_), .second, .val (.long b2_), .second, .val (.long b3_), .second, .val (.long b4_), .second, .val (.ref b5), .val (.ref b16), .val (.int (0 : Int32)), .val (.ref lb87)] [(.ref b5)])) (fun t k => XS.aload X102.here hx rfl (hb hby at_184) rfl rfl k) ?_
          refine own_via (U' := T102.setTop (mkF m 188 #[.val (.long x1), .second, .val (.long x2), .second, .val (.long x3), .second, .val (.long x4), .second, .val (.long x5), .second, .val (.int x6), .val (.long b1_), .second, .val (.long b2_), .second, .val (.long b3_), .second, .val (.long b4_), .second, .val (.ref b5), .val (.ref b16), .val (.int (0 : Int32)), .val (.ref lb87)] [(.ref lb87), (.ref b5)])) (fun t k => XS.aload X102.here hx rfl (hb hby at_186) rfl rfl k) ?_
          obtain ⟨_, T103, L103, X103, hQ103, st103⟩ := own_callV X102 hx hZ (y := (⟨"com/example/gridloom/gridloom/index/Counter", "equals", "(Ljava/lang/Object;)Z"⟩ : MethodName)) (W := 0) (C := "com/example/gridloom/gridloom/index/Counter") hown (hw _ (List.mem_of_getElem? (i := 30) rfl)) (hw _ (List.mem_of_getElem? (i := 31) rfl)) (hw _ (List.mem_of_getElem? (i := 33) rfl)) (hw _ (List.mem_of_getElem? (i := 32) rfl)) (hw _ (List.mem_of_getElem? (i := 2) rfl)) (hw _ (List.mem_of_getElem? (i := 34) rfl)) (by decide) (rm_Qe3 l Z a0 hw [] b5 lb87 T87.heap n0 Z99 E87q) (by decide) (by decide) e102 f89 (g := (mkF m 188 #[.val (.long x1), .second, .val (.long x2), .second, .val (.long x3), .second, .val (.long x4), .second, .val (.long x5), .second, .val (.int x6), .val (.long b1_), .second, .val (.long b2_), .second, .val (.long b3_), .second, .val (.long b4_), .second, .val (.ref b5), .val (.ref b16), .val (.int (0 : Int32)), .val (.ref lb87)] [(.ref lb87), (.ref b5)])) rfl (by rw [hml]; rfl) (argsL := [(.ref lb87)]) (rest := []) rfl (lenOf pd_Ljava_lang_Object___Z rfl) rfl (by show 2 * 0 + _ ≤ _; exact Nat.le_of_eq rfl) (hb hby at_188) (by decide) (by decide)
          obtain ⟨rfl, N103q, e103⟩ := hQ103
          have N103 := Fr.app N102 N103q
          refine own_via (U' := T103.setTop (mkF m 191 #[.val (.long x1), .second, .val (.long x2), .second, .val (.long x3), .second, .val (.long x4), .second, .val (.long x5), .second, .val (.int x6), .val (.long b1_), .second, .val (.long b2_), .second, .val (.long b3_), .second, .val (.long b4_), .second, .val (.ref b5), .val (.ref b16), .val (.int (0 : Int32)), .val (.ref lb87)] [(.int (0 : Int32))])) (fun t k => st103 t k) ?_
          refine own_via (U' := T103.setTop (mkF m 194 #[.val (.long x1), .second, .val (.long x2), .second, .val (.long x3), .second, .val (.long x4), .second, .val (.long x5), .second, .val (.int x6), .val (.long b1_), .second, .val (.long b2_), .second, .val (.long b3_), .second, .val (.long b4_), .second, .val (.ref b5), .val (.ref b16), .val (.int (0 : Int32)), .val (.ref lb87)] [])) (fun t k => XS.ifNo X103.here hx rfl (hb hby at_191) rfl ((if0 _ _).trans (teq (by decide : ((0 : Int32) = (0 : Int32)))).2) k) ?_
          refine own_via (U' := T103.setTop (mkF m 195 #[.val (.long x1), .second, .val (.long x2), .second, .val (.long x3), .second, .val (.long x4), .second, .val (.long x5), .second, .val (.int x6), .val (.long b1_), .second, .val (.long b2_), .second, .val (.long b3_), .second, .val (.long b4_), .second, .val (.ref b5), .val (.ref b16), .val (.int (0 : Int32)), .val (.ref lb87)] [(.int (1 : Int32))])) (fun t k => XS.iconst X103.here hx rfl (hb hby at_194) k) ?_
          refine own_via (U' := T103.setTop (mkF m 199 #[.val (.long x1), .second, .val (.long x2), .second, .val (.long x3), .second, .val (.long x4), .second, .val (.long x5), .second, .val (.int x6), .val (.long b1_), .second, .val (.long b2_), .second, .val (.long b3_), .second, .val (.long b4_), .second, .val (.ref b5), .val (.ref b16), .val (.int (0 : Int32)), .val (.ref lb87)] [(.int (1 : Int32))])) (fun t k => XS.goto X103.here hx rfl (pc0 := 195) (pc' := 199) rfl (hb hby at_195) (by decide) (by decide) k) ?_
          exact own_ret X103 (v := some (.int (1 : Int32))) (fun h => by rw [Bd.returns] at h; cases h) hlk (fun fs hr => retN X103 hx (t := .boolean) Bd.returns (by simp) (hb hby at_199) hr) (by rw [e103]; exact ⟨rfl, N103⟩) (by decide) (by decide)
        case neg =>
          refine own_via (U' := T29.setTop (mkF m 140 #[.val (.long x1), .second, .val (.long x2), .second, .val (.long x3), .second, .val (.long x4), .second, .val (.long x5), .second, .val (.int x6), .val (.long b1_), .second, .val (.long b2_), .second, .val (.long b3_), .second, .val (.long b4_), .second, .val (.ref b5), .val (.ref b16), .val (.int (0 : Int32)), .unset] [])) (fun t k => XS.ifNo X29.here hx rfl (hb hby at_137) rfl ((if0 _ _).trans (feq hc86).1) k) ?_
          refine own_via (U' := T29.setTop (mkF m 141 #[.val (.long x1), .second, .val (.long x2), .second, .val (.long x3), .second, .val (.long x4), .second, .val (.long x5), .second, .val (.int x6), .val (.long b1_), .second, .val (.long b2_), .second, .val (.long b3_), .second, .val (.long b4_), .second, .val (.ref b5), .val (.ref b16), .val (.int (0 : Int32)), .unset] [.null])) (fun t k => XS.aconstNull X29.here hx rfl (hb hby at_140) k) ?_
          refine own_via (U' := T29.setTop (mkF m 148 #[.val (.long x1), .second, .val (.long x2), .second, .val (.long x3), .second, .val (.long x4), .second, .val (.long x5), .second, .val (.int x6), .val (.long b1_), .second, .val (.long b2_), .second, .val (.long b3_), .second, .val (.long b4_), .second, .val (.ref b5), .val (.ref b16), .val (.int (0 : Int32)), .unset] [.null])) (fun t k => XS.goto X29.here hx rfl (pc0 := 141) (pc' := 148) rfl (hb hby at_141) (by decide) (by decide) k) ?_
          refine own_via (U' := T29.setTop (mkF m 150 #[.val (.long x1), .second, .val (.long x2), .second, .val (.long x3), .second, .val (.long x4), .second, .val (.long x5), .second, .val (.int x6), .val (.long b1_), .second, .val (.long b2_), .second, .val (.long b3_), .second, .val (.long b4_), .second, .val (.ref b5), .val (.ref b16), .val (.int (0 : Int32)), .val .null] [])) (fun t k => XS.astore X29.here hx rfl (hb hby at_148) rfl rfl (l' := #[.val (.long x1), .second, .val (.long x2), .second, .val (.long x3), .second, .val (.long x4), .second, .val (.long x5), .second, .val (.int x6), .val (.long b1_), .second, .val (.long b2_), .second, .val (.long b3_), .second, .val (.long b4_), .second, .val (.ref b5), .val (.ref b16), .val (.int (0 : Int32)), .val .null]) rfl k) ?_
          refine own_via (U' := T29.setTop (mkF m 152 #[.val (.long x1), .second, .val (.long x2), .second, .val (.long x3), .second, .val (.long x4), .second, .val (.long x5), .second, .val (.int x6), .val (.long b1_), .second, .val (.long b2_), .second, .val (.long b3_), .second, .val (.long b4_), .second, .val (.ref b5), .val (.ref b16), .val (.int (0 : Int32)), .val .null] [(.ref b5)])) (fun t k => XS.aload X29.here hx rfl (hb hby at_150) rfl rfl k) ?_
          refine own_via (U' := T29.setTop (mkF m 154 #[.val (.long x1), .second, .val (.long x2), .second, .val (.long x3), .second, .val (.long x4), .second, .val (.long x5), .second, .val (.int x6), .val (.long b1_), .second, .val (.long b2_), .second, .val (.long b3_), .second, .val (.long b4_), .second, .val (.ref b5), .val (.ref b16), .val (.int (0 : Int32)), .val .null] [(.ref b16), (.ref b5)])) (fun t k => XS.aload X29.here hx rfl (hb hby at_152) rfl rfl k) ?_
          obtain ⟨_, T104, L104, X104, hQ104, st104⟩ := own_callV X29 hx hZ (y := (⟨"com/example/gridloom/gridloom/index/Counter", "equals", "(Ljava/lang/Object;)Z"⟩ : MethodName)) (W := 0) (C := "com/example/gridloom/gridloom/index/Counter") hown (hw _ (List.mem_of_getElem? (i := 30) rfl)) (hw _ (List.mem_of_getElem? (i := 31) rfl)) (hw _ (List.mem_of_getElem? (i := 33) rfl)) (hw _ (List.mem_of_getElem? (i := 32) rfl)) (hw _ (List.mem_of_getElem? (i := 2) rfl)) (hw _ (List.mem_of_getElem? (i := 34) rfl)) (by decide) (rm_Qe1 l Z a0 hw [] b5 b16 x1 x2 x3 x4 b1_ b2_ b3_ b4_ T29.heap n0 Z37 E29q f32 f33 f34 f35 F29q0 F29q1 F29q2 F29q3) (by decide) (by decide) rfl f31 (g := (mkF m 154 #[.val (.long x1), .second, .val (.long x2), .second, .val (.long x3), .second, .val (.long x4), .second, .val (.long x5), .second, .val (.int x6), .val (.long b1_), .second, .val (.long b2_), .second, .val (.long b3_), .second, .val (.long b4_), .second, .val (.ref b5), .val (.ref b16), .val (.int (0 : Int32)), .val .null] [(.ref b16), (.ref b5)])) rfl (by rw [hml]; rfl) (argsL := [(.ref b16)]) (rest := []) rfl (lenOf pd_Ljava_lang_Object___Z rfl) rfl (by show 2 * 0 + _ ≤ _; exact Nat.le_of_eq rfl) (hb hby at_154) (by decide) (by decide)
          obtain ⟨rfl, N104q, e104⟩ := hQ104
          have N104 := Fr.app N29 N104q
          refine own_via (U' := T104.setTop (mkF m 157 #[.val (.long x1), .second, .val (.long x2), .second, .val (.long x3), .second, .val (.long x4), .second, .val (.long x5), .second, .val (.int x6), .val (.long b1_), .second, .val (.long b2_), .second, .val (.long b3_), .second, .val (.long b4_), .second, .val (.ref b5), .val (.ref b16), .val (.int (0 : Int32)), .val .null] [(.int (if x1 = b1_ then (if x2 = b2_ then (if x3 = b3_ then (if x4 = b4_ then (1 : Int32) else (0 : Int32)) else (0 : Int32)) else (0 : Int32)) else (0 : Int32)))])) (fun t k => st104 t k) ?_
          refine own_via (U' := T104.setTop (mkF m 159 #[.val (.long x1), .second, .val (.long x2), .second, .val (.long x3), .second, .val (.long x4), .second, .val (.long x5), .second, .val (.int x6), .val (.long b1_), .second, .val (.long b2_), .second, .val (.long b3_), .second, .val (.long b4_), .second, .val (.ref b5), .val (.ref b16), .val (.int (0 : Int32)), .val .null] [(.int (0 : Int32)), (.int (if x1 = b1_ then (if x2 = b2_ then (if x3 = b3_ then (if x4 = b4_ then (1 : Int32) else (0 : Int32)) else (0 : Int32)) else (0 : Int32)) else (0 : Int32)))])) (fun t k => XS.iload X104.here hx rfl (hb hby at_157) rfl k) ?_
          refine own_via (U' := T104.setTop (mkF m 162 #[.val (.long x1), .second, .val (.long x2), .second, .val (.long x3), .second, .val (.long x4), .second, .val (.long x5), .second, .val (.int x6), .val (.long b1_), .second, .val (.long b2_), .second, .val (.long b3_), .second, .val (.long b4_), .second, .val (.ref b5), .val (.ref b16), .val (.int (0 : Int32)), .val .null] [])) (fun t k => XS.icmpNo X104.here hx rfl (hb hby at_159) rfl (teq (by rw [if_pos hc38.symm, if_pos hc39.symm, if_neg (fun z => hc40 z.symm)])).2 k) ?_
          refine own_via (U' := T104.setTop (mkF m 164 #[.val (.long x1), .second, .val (.long x2), .second, .val (.long x3), .second, .val (.long x4), .second, .val (.long x5), .second, .val (.int x6), .val (.long b1_), .second, .val (.long b2_), .second, .val (.long b3_), .second, .val (.long b4_), .second, .val (.ref b5), .val (.ref b16), .val (.int (0 : Int32)), .val .null] [(.ref b16)])) (fun t k => XS.aload X104.here hx rfl (hb hby at_162) rfl rfl k) ?_
          refine own_via (U' := T104.setTop (mkF m 166 #[.val (.long x1), .second, .val (.long x2), .second, .val (.long x3), .second, .val (.long x4), .second, .val (.long x5), .second, .val (.int x6), .val (.long b1_), .second, .val (.long b2_), .second, .val (.long b3_), .second, .val (.long b4_), .second, .val (.ref b5), .val (.ref b16), .val (.int (0 : Int32)), .val .null] [(.ref b5), (.ref b16)])) (fun t k => XS.aload X104.here hx rfl (hb hby at_164) rfl rfl k) ?_
          obtain ⟨_, T105, L105, X105, hQ105, st105⟩ := own_callV X104 hx hZ (y := (⟨"com/example/gridloom/gridloom/index/Counter", "equals", "(Ljava/lang/Object;)Z"⟩ : MethodName)) (W := 0) (C := "com/example/gridloom/gridloom/index/Counter") hown (hw _ (List.mem_of_getElem? (i := 30) rfl)) (hw _ (List.mem_of_getElem? (i := 31) rfl)) (hw _ (List.mem_of_getElem? (i := 33) rfl)) (hw _ (List.mem_of_getElem? (i := 32) rfl)) (hw _ (List.mem_of_getElem? (i := 2) rfl)) (hw _ (List.mem_of_getElem? (i := 34) rfl)) (by decide) (rm_Qe1 l Z a0 hw [] b16 b5 b1_ b2_ b3_ b4_ x1 x2 x3 x4 T29.heap n0 Z37 f31 F29q0 F29q1 F29q2 F29q3 f32 f33 f34 f35) (by decide) (by decide) e104 E29q (g := (mkF m 166 #[.val (.long x1), .second, .val (.long x2), .second, .val (.long x3), .second, .val (.long x4), .second, .val (.long x5), .second, .val (.int x6), .val (.long b1_), .second, .val (.long b2_), .second, .val (.long b3_), .second, .val (.long b4_), .second, .val (.ref b5), .val (.ref b16), .val (.int (0 : Int32)), .val .null] [(.ref b5), (.ref b16)])) rfl (by rw [hml]; rfl) (argsL := [(.ref b5)]) (rest := []) rfl (lenOf pd_Ljava_lang_Object___Z rfl) rfl (by show 2 * 0 + _ ≤ _; exact Nat.le_of_eq rfl) (hb hby at_166) (by decide) (by decide)
          obtain ⟨rfl, N105q, e105⟩ := hQ105
          have N105 := Fr.app N104 N105q
          refine own_via (U' := T105.setTop (mkF m 169 #[.val (.long x1), .second, .val (.long x2), .second, .val (.long x3), .second, .val (.long x4), .second, .val (.long x5), .second, .val (.int x6), .val (.long b1_), .second, .val (.long b2_), .second, .val (.long b3_), .second, .val (.long b4_), .second, .val (.ref b5), .val (.ref b16), .val (.int (0 : Int32)), .val .null] [(.int (if b1_ = x1 then (if b2_ = x2 then (if b3_ = x3 then (if b4_ = x4 then (1 : Int32) else (0 : Int32)) else (0 : Int32)) else (0 : Int32)) else (0 : Int32)))])) (fun t k => st105 t k) ?_
          refine own_via (U' := T105.setTop (mkF m 171 #[.val (.long x1), .second, .val (.long x2), .second, .val (.long x3), .second, .val (.long x4), .second, .val (.long x5), .second, .val (.int x6), .val (.long b1_), .second, .val (.long b2_), .second, .val (.long b3_), .second, .val (.long b4_), .second, .val (.ref b5), .val (.ref b16), .val (.int (0 : Int32)), .val .null] [(.int (0 : Int32)), (.int (if b1_ = x1 then (if b2_ = x2 then (if b3_ = x3 then (if b4_ = x4 then (1 : Int32) else (0 : Int32)) else (0 : Int32)) else (0 : Int32)) else (0 : Int32)))])) (fun t k => XS.iload X105.here hx rfl (hb hby at_169) rfl k) ?_
          refine own_via (U' := T105.setTop (mkF m 174 #[.val (.long x1), .second, .val (.long x2), .second, .val (.long x3), .second, .val (.long x4), .second, .val (.long x5), .second, .val (.int x6), .val (.long b1_), .second, .val (.long b2_), .second, .val (.long b3_), .second, .val (.long b4_), .second, .val (.ref b5), .val (.ref b16), .val (.int (0 : Int32)), .val .null] [])) (fun t k => XS.icmpNo X105.here hx rfl (hb hby at_171) rfl (teq (by rw [if_pos hc38, if_pos hc39, if_neg hc40])).2 k) ?_
          refine own_via (U' := T105.setTop (mkF m 176 #[.val (.long x1), .second, .val (.long x2), .second, .val (.long x3), .second, .val (.long x4), .second, .val (.long x5), .second, .val (.int x6), .val (.long b1_), .second, .val (.long b2_), .second, .val (.long b3_), .second, .val (.long b4_), .second, .val (.ref b5), .val (.ref b16), .val (.int (0 : Int32)), .val .null] [(.ref b5)])) (fun t k => XS.aload X105.here hx rfl (hb hby at_174) rfl rfl k) ?_
          refine own_via (U' := T105.setTop (mkF m 178 #[.val (.long x1), .second, .val (.long x2), .second, .val (.long x3), .second, .val (.long x4), .second, .val (.long x5), .second, .val (.int x6), .val (.long b1_), .second, .val (.long b2_), .second, .val (.long b3_), .second, .val (.long b4_), .second, .val (.ref b5), .val (.ref b16), .val (.int (0 : Int32)), .val .null] [(.ref b5), (.ref b5)])) (fun t k => XS.aload X105.here hx rfl (hb hby at_176) rfl rfl k) ?_
          obtain ⟨_, T106, L106, X106, hQ106, st106⟩ := own_callV X105 hx hZ (y := (⟨"com/example/gridloom/gridloom/index/Counter", "equals", "(Ljava/lang/Object;)Z"⟩ : MethodName)) (W := 0) (C := "com/example/gridloom/gridloom/index/Counter") hown (hw _ (List.mem_of_getElem? (i := 30) rfl)) (hw _ (List.mem_of_getElem? (i := 31) rfl)) (hw _ (List.mem_of_getElem? (i := 33) rfl)) (hw _ (List.mem_of_getElem? (i := 32) rfl)) (hw _ (List.mem_of_getElem? (i := 2) rfl)) (hw _ (List.mem_of_getElem? (i := 34) rfl)) (by decide) (rm_Qe1 l Z a0 hw [] b5 b5 x1 x2 x3 x4 x1 x2 x3 x4 T29.heap n0 Z37 f31 f32 f33 f34 f35 f32 f33 f34 f35) (by decide) (by decide) e105 f31 (g := (mkF m 178 #[.val (.long x1), .second, .val (.long x2), .second, .val (.long x3), .second, .val (.long x4), .second, .val (.long x5), .second, .val (.int x6), .val (.long b1_), .second, .val (.long b2_), .second, .val (.long b3_), .second, .val (.long b4_), .second, .val (.ref b5), .val (.ref b16), .val (.int (0 : Int32)), .val .null] [(.ref b5), (.ref b5)])) rfl (by rw [hml]; rfl) (argsL := [(.ref b5)]) (rest := []) rfl (lenOf pd_Ljava_lang_Object___Z rfl) rfl (by show 2 * 0 + _ ≤ _; exact Nat.le_of_eq rfl) (hb hby at_178) (by decide) (by decide)
          obtain ⟨rfl, N106q, e106⟩ := hQ106
          have N106 := Fr.app N105 N106q
          refine own_via (U' := T106.setTop (mkF m 181 #[.val (.long x1), .second, .val (.long x2), .second, .val (.long x3), .second, .val (.long x4), .second, .val (.long x5), .second, .val (.int x6), .val (.long b1_), .second, .val (.long b2_), .second, .val (.long b3_), .second, .val (.long b4_), .second, .val (.ref b5), .val (.ref b16), .val (.int (0 : Int32)), .val .null] [(.int (if x1 = x1 then (if x2 = x2 then (if x3 = x3 then (if x4 = x4 then (1 : Int32) else (0 : Int32)) else (0 : Int32)) else (0 : Int32)) else (0 : Int32)))])) (fun t k => st106 t k) ?_
          refine own_via (U' := T106.setTop (mkF m 184 #[.val (.long x1), .second, .val (.long x2), .second, .val (.long x3), .second, .val (.long x4), .second, .val (.long x5), .second, .val (.int x6), .val (.long b1_), .second, .val (.long b2_), .second, .val (.long b3_), .second, .val (.long b4_), .second, .val (.ref b5), .val (.ref b16), .val (.int (0 : Int32)), .val .null] [])) (fun t k => XS.ifNo X106.here hx rfl (hb hby at_181) rfl ((if0 _ _).trans (feq (by rw [if_pos rfl, if_pos rfl, if_pos rfl, if_pos rfl]; decide)).1) k) ?_
          refine own_via (U' := T106.setTop (mkF m 186 #[.val (.long x1), .second, .val (.long x2), .second, .val (.long x3), .second, .val (.long x4), .second, .val (.long x5), .second, .val (.int x6), .val (.long b1_), .second, .val (.long b2_), .second, .val (.long b3_), .second, .val (.long b4_), .second, .val (.ref b5), .val (.ref b16), .val (.int (0 : Int32)), .val .null] [(.ref b5)])) (fun t k => XS.aload X106.here hx rfl (hb hby at_184) rfl rfl k) ?_
          refine own_via (U' := T106.setTop (mkF m 188 #[.val (.long x1), .second, .val (.long x2), .second, .val (.long x3), .second, .val (.long x4), .second, .val (.long x5), .second, .val (.int x6), .val (.long b1_), .second, .val (.long b2_), .second, .val (.long b3_), .second, .val (.long b4_), .second, .val (.ref b5), .val (.ref b16), .val (.int (0 : Int32)), .val .null] [.null, (.ref b5)])) (fun t k => XS.aload X106.here hx rfl (hb hby at_186) rfl rfl k) ?_
          obtain ⟨_, T107, L107, X107, hQ107, st107⟩ := own_callV X106 hx hZ (y := (⟨"com/example/gridloom/gridloom/index/Counter", "equals", "(Ljava/lang/Object;)Z"⟩ : MethodName)) (W := 0) (C := "com/example/gridloom/gridloom/index/Counter") hown (hw _ (List.mem_of_getElem? (i := 30) rfl)) (hw _ (List.mem_of_getElem? (i := 31) rfl)) (hw _ (List.mem_of_getElem? (i := 33) rfl)) (hw _ (List.mem_of_getElem? (i := 32) rfl)) (hw _ (List.mem_of_getElem? (i := 2) rfl)) (hw _ (List.mem_of_getElem? (i := 34) rfl)) (by decide) (rm_Qe2 l Z a0 hw [] b5 T29.heap n0 Z37) (by decide) (by decide) e106 f31 (g := (mkF m 188 #[.val (.long x1), .second, .val (.long x2), .second, .val (.long x3), .second, .val (.long x4), .second, .val (.long x5), .second, .val (.int x6), .val (.long b1_), .second, .val (.long b2_), .second, .val (.long b3_), .second, .val (.long b4_), .second, .val (.ref b5), .val (.ref b16), .val (.int (0 : Int32)), .val .null] [.null, (.ref b5)])) rfl (by rw [hml]; rfl) (argsL := [.null]) (rest := []) rfl (lenOf pd_Ljava_lang_Object___Z rfl) rfl (by show 2 * 0 + _ ≤ _; exact Nat.le_of_eq rfl) (hb hby at_188) (by decide) (by decide)
          obtain ⟨rfl, N107q, e107⟩ := hQ107
          have N107 := Fr.app N106 N107q
          refine own_via (U' := T107.setTop (mkF m 191 #[.val (.long x1), .second, .val (.long x2), .second, .val (.long x3), .second, .val (.long x4), .second, .val (.long x5), .second, .val (.int x6), .val (.long b1_), .second, .val (.long b2_), .second, .val (.long b3_), .second, .val (.long b4_), .second, .val (.ref b5), .val (.ref b16), .val (.int (0 : Int32)), .val .null] [(.int (0 : Int32))])) (fun t k => st107 t k) ?_
          refine own_via (U' := T107.setTop (mkF m 194 #[.val (.long x1), .second, .val (.long x2), .second, .val (.long x3), .second, .val (.long x4), .second, .val (.long x5), .second, .val (.int x6), .val (.long b1_), .second, .val (.long b2_), .second, .val (.long b3_), .second, .val (.long b4_), .second, .val (.ref b5), .val (.ref b16), .val (.int (0 : Int32)), .val .null] [])) (fun t k => XS.ifNo X107.here hx rfl (hb hby at_191) rfl ((if0 _ _).trans (teq (by decide : ((0 : Int32) = (0 : Int32)))).2) k) ?_
          refine own_via (U' := T107.setTop (mkF m 195 #[.val (.long x1), .second, .val (.long x2), .second, .val (.long x3), .second, .val (.long x4), .second, .val (.long x5), .second, .val (.int x6), .val (.long b1_), .second, .val (.long b2_), .second, .val (.long b3_), .second, .val (.long b4_), .second, .val (.ref b5), .val (.ref b16), .val (.int (0 : Int32)), .val .null] [(.int (1 : Int32))])) (fun t k => XS.iconst X107.here hx rfl (hb hby at_194) k) ?_
          refine own_via (U' := T107.setTop (mkF m 199 #[.val (.long x1), .second, .val (.long x2), .second, .val (.long x3), .second, .val (.long x4), .second, .val (.long x5), .second, .val (.int x6), .val (.long b1_), .second, .val (.long b2_), .second, .val (.long b3_), .second, .val (.long b4_), .second, .val (.ref b5), .val (.ref b16), .val (.int (0 : Int32)), .val .null] [(.int (1 : Int32))])) (fun t k => XS.goto X107.here hx rfl (pc0 := 195) (pc' := 199) rfl (hb hby at_195) (by decide) (by decide) k) ?_
          exact own_ret X107 (v := some (.int (1 : Int32))) (fun h => by rw [Bd.returns] at h; cases h) hlk (fun fs hr => retN X107 hx (t := .boolean) Bd.returns (by simp) (hb hby at_199) hr) (by rw [e107]; exact ⟨rfl, N107⟩) (by decide) (by decide)
    case neg =>
      refine own_via (U' := T29.setTop (mkF m 129 #[.val (.long x1), .second, .val (.long x2), .second, .val (.long x3), .second, .val (.long x4), .second, .val (.long x5), .second, .val (.int x6), .val (.long b1_), .second, .val (.long b2_), .second, .val (.long b3_), .second, .val (.long b4_), .second, .val (.ref b5), .val (.ref b16), .unset, .unset] [])) (fun t k => XS.ifYes X29.here hx rfl (pc0 := 106) (pc' := 129) rfl (hb hby at_106) rfl (own_jne hc39).2 (by decide) (by decide) k) ?_
      refine own_via (U' := T29.setTop (mkF m 130 #[.val (.long x1), .second, .val (.long x2), .second, .val (.long x3), .second, .val (.long x4), .second, .val (.long x5), .second, .val (.int x6), .val (.long b1_), .second, .val (.long b2_), .second, .val (.long b3_), .second, .val (.long b4_), .second, .val (.ref b5), .val (.ref b16), .unset, .unset] [(.int (0 : Int32))])) (fun t k => XS.iconst X29.here hx rfl (hb hby at_129) k) ?_
      refine own_via (U' := T29.setTop (mkF m 132 #[.val (.long x1), .second, .val (.long x2), .second, .val (.long x3), .second, .val (.long x4), .second, .val (.long x5), .second, .val (.int x6), .val (.long b1_), .second, .val (.long b2_), .second, .val (.long b3_), .second, .val (.long b4_), .second, .val (.ref b5), .val (.ref b16), .val (.int (0 : Int32)), .unset] [])) (fun t k => XS.istore X29.here hx rfl (hb hby at_130) rfl (l' := #[.val (.long x1), .second, .val (.long x2), .second, .val (.long x3), .second, .val (.long x4), .second, .val (.long x5), .second, .val (.int x6), .val (.long b1_), .second, .val (.long b2_), .second, .val (.long b3_), .second, .val (.long b4_), .second, .val (.ref b5), .val (.ref b16), .val (.int (0 : Int32)), .unset]) rfl k) ?_
      refine own_via (U' := T29.setTop (mkF m 134 #[.val (.long x1), .second, .val (.long x2), .second, .val (.long x3), .second, .val (.long x4), .second, .val (.long x5), .second, .val (.int x6), .val (.long b1_), .second, .val (.long b2_), .second, .val (.long b3_), .second, .val (.long b4_), .second, .val (.ref b5), .val (.ref b16), .val (.int (0 : Int32)), .unset] [(.int x6)])) (fun t k => XS.iload X29.here hx rfl (hb hby at_132) rfl k) ?_
      refine own_via (U' := T29.setTop (mkF m 136 #[.val (.long x1), .second, .val (.long x2), .second, .val (.long x3), .second, .val (.long x4), .second, .val (.long x5), .second, .val (.int x6), .val (.long b1_), .second, .val (.long b2_), .second, .val (.long b3_), .second, .val (.long b4_), .second, .val (.ref b5), .val (.ref b16), .val (.int (0 : Int32)), .unset] [(.int (16 : Int32)), (.int x6)])) (fun t k => XS.bipush X29.here hx rfl (hb hby at_134) k) ?_
      refine own_via (U' := T29.setTop (mkF m 137 #[.val (.long x1), .second, .val (.long x2), .second, .val (.long x3), .second, .val (.long x4), .second, .val (.long x5), .second, .val (.int x6), .val (.long b1_), .second, .val (.long b2_), .second, .val (.long b3_), .second, .val (.long b4_), .second, .val (.ref b5), .val (.ref b16), .val (.int (0 : Int32)), .unset] [(.int (x6 &&& (16 : Int32)))])) (fun t k => XS.iand X29.here hx rfl (hb hby at_136) rfl k) ?_
      by_cases hc108 : (x6 &&& (16 : Int32)) = (0 : Int32)
      case pos =>
        refine own_via (U' := T29.setTop (mkF m 144 #[.val (.long x1), .second, .val (.long x2), .second, .val (.long x3), .second, .val (.long x4), .second, .val (.long x5), .second, .val (.int x6), .val (.long b1_), .second, .val (.long b2_), .second, .val (.long b3_), .second, .val (.long b4_), .second, .val (.ref b5), .val (.ref b16), .val (.int (0 : Int32)), .unset] [])) (fun t k => XS.ifYes X29.here hx rfl (pc0 := 137) (pc' := 144) rfl (hb hby at_137) rfl ((if0 _ _).trans (teq hc108).1) (by decide) (by decide) k) ?_
        refine own_via (U' := T29.setTop (mkF m 145 #[.val (.long x1), .second, .val (.long x2), .second, .val (.long x3), .second, .val (.long x4), .second, .val (.long x5), .second, .val (.int x6), .val (.long b1_), .second, .val (.long b2_), .second, .val (.long b3_), .second, .val (.long b4_), .second, .val (.ref b5), .val (.ref b16), .val (.int (0 : Int32)), .unset] [(.long x1)])) (fun t k => XS.lloadN X29.here hx rfl (hb hby at_144) rfl k) ?_
        obtain ⟨_, T109, L109, X109, hQ109, st109⟩ := own_callS X29 hx hZ (y := (⟨"java/lang/Long", "valueOf", "(J)Ljava/lang/Long;"⟩ : MethodName)) (W := 0) hown (hw _ (List.mem_of_getElem? (i := 22) rfl)) (hw _ (List.mem_of_getElem? (i := 23) rfl)) (hw _ (List.mem_of_getElem? (i := 24) rfl)) (hw _ (List.mem_of_getElem? (i := 25) rfl)) (by decide) (rm_Qvo l Z a0 hw [] x1 ca cl T29.heap n0 Z37 f30 Sc Bx) (by decide) (by decide) rfl (g := (mkF m 145 #[.val (.long x1), .second, .val (.long x2), .second, .val (.long x3), .second, .val (.long x4), .second, .val (.long x5), .second, .val (.int x6), .val (.long b1_), .second, .val (.long b2_), .second, .val (.long b3_), .second, .val (.long b4_), .second, .val (.ref b5), .val (.ref b16), .val (.int (0 : Int32)), .unset] [(.long x1)])) rfl (by rw [hml]; rfl) (argsL := [(.long x1)]) (rest := []) rfl (lenOf pd_J__Ljava_lang_Long_ rfl) rfl (by show 2 * 0 + _ ≤ _; exact Nat.le_of_eq rfl) (hb hby at_145) (by decide) (by decide)
        obtain ⟨lb109, rfl, N109q, K109q, E109q⟩ := hQ109
        have N109 := Fr.app N29 N109q
        have f110 := f30.keep K109q all0
        have f111 := f31.keep K109q
        have f112 := f32.keep K109q nin0
        have f113 := f33.keep K109q nin0
        have f114 := f34.keep K109q nin0
        have f115 := f35.keep K109q nin0
        have f116 := E29q.keep K109q
        have f117 := F29q0.keep K109q nin0
        have f118 := F29q1.keep K109q nin0
        have f119 := F29q2.keep K109q nin0
        have f120 := F29q3.keep K109q nin0
        have Z121 : n0 ≤ T109.heap.size := Nat.le_trans Z37 K109q.1
        have K121 := K37.trans K109q all0
        refine own_via (U' := T109.setTop (mkF m 148 #[.val (.long x1), .second, .val (.long x2), .second, .val (.long x3), .second, .val (.long x4), .second, .val (.long x5), .second, .val (.int x6), .val (.long b1_), .second, .val (.long b2_), .second, .val (.long b3_), .second, .val (.long b4_), .second, .val (.ref b5), .val (.ref b16), .val (.int (0 : Int32)), .unset] [(.ref lb109)])) (fun t k => st109 t k) ?_
        refine own_via (U' := T109.setTop (mkF m 150 #[.val (.long x1), .second, .val (.long x2), .second, .val (.long x3), .second, .val (.long x4), .second, .val (.long x5), .second, .val (.int x6), .val (.long b1_), .second, .val (.long b2_), .second, .val (.long b3_), .second, .val (.long b4_), .second, .val (.ref b5), .val (.ref b16), .val (.int (0 : Int32)), .val (.ref lb109)] [])) (fun t k => XS.astore X109.here hx rfl (hb hby at_148) rfl rfl (l' := #[.val (.long x1), .second, .val (.long x2), .second, .val (.long x3), .second, .val (.long x4), .second, .val (.long x5), .second, .val (.int x6), .val (.long b1_), .second, .val (.long b2_), .second, .val (.long b3_), .second, .val (.long b4_), .second, .val (.ref b5), .val (.ref b16), .val (.int (0 : Int32)), .val (.ref lb109)]) rfl k) ?_
        refine own_via (U' := T109.setTop (mkF m 152 #[.val (.long x1), .second, .val (.long x2), .second, .val (.long x3), .second, .val (.long x4), .second, .val (.long x5), .second, .val (.int x6), .val (.long b1_), .second, .val (.long b2_), .second, .val (.long b3_), .second, .val (.long b4_), .second, .val (.ref b5), .val (.ref b16), .val (.int (0 : Int32)), .val (.ref lb109)] [(.ref b5)])) (fun t k => XS.aload X109.here hx rfl (hb hby at_150) rfl rfl k) ?_
        refine own_via (U' := T109.setTop (mkF m 154 #[.val (.long x1), .second, .val (.long x2), .second, .val (.long x3), .second, .val (.long x4), .second, .val (.long x5), .second, .val (.int x6), .val (.long b1_), .second, .val (.long b2_), .second, .val (.long b3_), .second, .val (.long b4_), .second, .val (.ref b5), .val (.ref b16), .val (.int (0 : Int32)), .val (.ref lb109)] [(.ref b16), (.ref b5)])) (fun t k => XS.aload X109.here hx rfl (hb hby at_152) rfl rfl k) ?_
        obtain ⟨_, T122, L122, X122, hQ122, st122⟩ := own_callV X109 hx hZ (y := (⟨"com/example/gridloom/gridloom/index/Counter", "equals", "(Ljava/lang/Object;)Z"⟩ : MethodName)) (W := 0) (C := "com/example/gridloom/gridloom/index/Counter") hown (hw _ (List.mem_of_getElem? (i := 30) rfl)) (hw _ (List.mem_of_getElem? (i := 31) rfl)) (hw _ (List.mem_of_getElem? (i := 33) rfl)) (hw _ (List.mem_of_getElem? (i := 32) rfl)) (hw _ (List.mem_of_getElem? (i := 2) rfl)) (hw _ (List.mem_of_getElem? (i := 34) rfl)) (by decide) (rm_Qe1 l Z a0 hw [] b5 b16 x1 x2 x3 x4 b1_ b2_ b3_ b4_ T109.heap n0 Z121 f116 f112 f113 f114 f115 f117 f118 f119 f120) (by decide) (by decide) rfl f111 (g := (mkF m 154 #[.val (.long x1), .second, .val (.long x2), .second, .val (.long x3), .second, .val (.long x4), .second, .val (.long x5), .second, .val (.int x6), .val (.long b1_), .second, .val (.long b2_), .second, .val (.long b3_), .second, .val (.long b4_), .second, .val (.ref b5), .val (.ref b16), .val (.int (0 : Int32)), .val (.ref lb109)] [(.ref b16), (.ref b5)])) rfl (by rw [hml]; rfl) (argsL := [(.ref b16)]) (rest := []) rfl (lenOf pd_Ljava_lang_Object___Z rfl) rfl (by show 2 * 0 + _ ≤ _; exact Nat.le_of_eq rfl) (hb hby at_154) (by decide) (by decide)
        obtain ⟨rfl, N122q, e122⟩ := hQ122
        have N122 := Fr.app N109 N122q
        refine own_via (U' := T122.setTop (mkF m 157 #[.val (.long x1), .second, .val (.long x2), .second, .val (.long x3), .second, .val (.long x4), .second, .val (.long x5), .second, .val (.int x6), .val (.long b1_), .second, .val (.long b2_), .second, .val (.long b3_), .second, .val (.long b4_), .second, .val (.ref b5), .val (.ref b16), .val (.int (0 : Int32)), .val (.ref lb109)] [(.int (if x1 = b1_ then (if x2 = b2_ then (if x3 = b3_ then (if x4 = b4_ then (1 : Int32) else (0 : Int32)) else (0 : Int32)) else (0 : Int32)) else (0 : Int32)))])) (fun t k => st122 t k) ?_
        refine own_via (U' := T122.setTop (mkF m 159 #[.val (.long x1), .second, .val (.long x2), .second, .val (.long x3), .second, .val (.long x4), .second, .val (.long x5), .second, .val (.int x6), .val (.long b1_), .second, .val (.long b2_), .second, .val (.long b3_), .second, .val (.long b4_), .second, .val (.ref b5), .val (.ref b16), .val (.int (0 : Int32)), .val (.ref lb109)] [(.int (0 : Int32)), (.int (if x1 = b1_ then (if x2 = b2_ then (if x3 = b3_ then (if x4 = b4_ then (1 : Int32) else (0 : Int32)) else (0 : Int32)) else (0 : Int32)) else (0 : Int32)))])) (fun t k => XS.iload X122.here hx rfl (hb hby at_157) rfl k) ?_
        refine own_via (U' := T122.setTop (mkF m 162 #[.val (.long x1), .second, .val (.long x2), .second, .val (.long x3), .second, .val (.long x4), .second, .val (.long x5), .second, .val (.int x6), .val (.long b1_), .second, .val (.long b2_), .second, .val (.long b3_), .second, .val (.long b4_), .second, .val (.ref b5), .val (.ref b16), .val (.int (0 : Int32)), .val (.ref lb109)] [])) (fun t k => XS.icmpNo X122.here hx rfl (hb hby at_159) rfl (teq (by rw [if_pos hc38.symm, if_neg (fun z => hc39 z.symm)])).2 k) ?_
        refine own_via (U' := T122.setTop (mkF m 164 #[.val (.long x1), .second, .val (.long x2), .second, .val (.long x3), .second, .val (.long x4), .second, .val (.long x5), .second, .val (.int x6), .val (.long b1_), .second, .val (.long b2_), .second, .val (.long b3_), .second, .val (.long b4_), .second, .val (.ref b5), .val (.ref b16), .val (.int (0 : Int32)), .val (.ref lb109)] [(.ref b16)])) (fun t k => XS.aload X122.here hx rfl (hb hby at_162) rfl rfl k) ?_
        refine own_via (U' := T122.setTop (mkF m 166 #[.val (.long x1), .second, .val (.long x2), .second, .val (.long x3), .second, .val (.long x4), .second, .val (.long x5), .second, .val (.int x6), .val (.long b1_), .second, .val (.long b2_), .second, .val (.long b3_), .second, .val (.long b4_), .second, .val (.ref b5), .val (.ref b16), .val (.int (0 : Int32)), .val (.ref lb109)] [(.ref b5), (.ref b16)])) (fun t k => XS.aload X122.here hx rfl (hb hby at_164) rfl rfl k) ?_
        obtain ⟨_, T123, L123, X123, hQ123, st123⟩ := own_callV X122 hx hZ (y := (⟨"com/example/gridloom/gridloom/index/Counter", "equals", "(Ljava/lang/Object;)Z"⟩ : MethodName)) (W := 0) (C := "com/example/gridloom/gridloom/index/Counter") hown (hw _ (List.mem_of_getElem? (i := 30) rfl)) (hw _ (List.mem_of_getElem? (i := 31) rfl)) (hw _ (List.mem_of_getElem? (i := 33) rfl)) (hw _ (List.mem_of_getElem? (i := 32) rfl)) (hw _ (List.mem_of_getElem? (i := 2) rfl)) (hw _ (List.mem_of_getElem? (i := 34) rfl)) (by decide) (rm_Qe1 l Z a0 hw [] b16 b5 b1_ b2_ b3_ b4_ x1 x2 x3 x4 T109.heap n0 Z121 f111 f117 f118 f119 f120 f112 f113 f114 f115) (by decide) (by decide) e122 f116 (g := (mkF m 166 #[.val (.long x1), .second, .val (.long x2), .second, .val (.long x3), .second, .val (.long x4), .second, .val (.long x5), .second, .val (.int x6), .val (.long b1_), .second, .val (.long b2_), .second, .val (.long b3_), .second, .val (.long b4_), .second, .val (.ref b5), .val (.ref b16), .val (.int (0 : Int32)), .val (.ref lb109)] [(.ref b5), (.ref b16)])) rfl (by rw [hml]; rfl) (argsL := [(.ref b5)]) (rest := []) rfl (lenOf pd_Ljava_lang_Object___Z rfl) rfl (by show 2 * 0 + _ ≤ _; exact Nat.le_of_eq rfl) (hb hby at_166) (by decide) (by decide)
        obtain ⟨rfl, N123q, e123⟩ := hQ123
        have N123 := Fr.app N122 N123q
        refine own_via (U' := T123.setTop (mkF m 169 #[.val (.long x1), .second, .val (.long x2), .second, .val (.long x3), .second, .val (.long x4), .second, .val (.long x5), .second, .val (.int x6), .val (.long b1_), .second, .val (.long b2_), .second, .val (.long b3_), .second, .val (.long b4_), .second, .val (.ref b5), .val (.ref b16), .val (.int (0 : Int32)), .val (.ref lb109)] [(.int (if b1_ = x1 then (if b2_ = x2 then (if b3_ = x3 then (if b4_ = x4 then (1 : Int32) else (0 : Int32)) else (0 : Int32)) else (0 : Int32)) else (0 : Int32)))])) (fun t k => st123 t k) ?_
        refine own_via (U' := T123.setTop (mkF m 171 #[.val (.long x1), .second, .val (.long x2), .second, .val (.long x3), .second, .val (.long x4), .second, .val (.long x5), .second, .val (.int x6), .val (.long b1_), .second, .val (.long b2_), .second, .val (.long b3_), .second, .val (.long b4_), .second, .val (.ref b5), .val (.ref b16), .val (.int (0 : Int32)), .val (.ref lb109)] [(.int (0 : Int32)), (.int (if b1_ = x1 then (if b2_ = x2 then (if b3_ = x3 then (if b4_ = x4 then (1 : Int32) else (0 : Int32)) else (0 : Int32)) else (0 : Int32)) else (0 : Int32)))])) (fun t k => XS.iload X123.here hx rfl (hb hby at_169) rfl k) ?_
        refine own_via (U' := T123.setTop (mkF m 174 #[.val (.long x1), .second, .val (.long x2), .second, .val (.long x3), .second, .val (.long x4), .second, .val (.long x5), .second, .val (.int x6), .val (.long b1_), .second, .val (.long b2_), .second, .val (.long b3_), .second, .val (.long b4_), .second, .val (.ref b5), .val (.ref b16), .val (.int (0 : Int32)), .val (.ref lb109)] [])) (fun t k => XS.icmpNo X123.here hx rfl (hb hby at_171) rfl (teq (by rw [if_pos hc38, if_neg hc39])).2 k) ?_
        refine own_via (U' := T123.setTop (mkF m 176 #[.val (.long x1), .second, .val (.long x2), .second, .val (.long x3), .second, .val (.long x4), .second, .val (.long x5), .second, .val (.int x6), .val (.long b1_), .second, .val (.long b2_), .second, .val (.long b3_), .second, .val (.long b4_), .second, .val (.ref b5), .val (.ref b16), .val (.int (0 : Int32)), .val (.ref lb109)] [(.ref b5)])) (fun t k => XS.aload X123.here hx rfl (hb hby at_174) rfl rfl k) ?_
        refine own_via (U' := T123.setTop (mkF m 178 #[.val (.long x1), .second, .val (.long x2), .second, .val (.long x3), .second, .val (.long x4), .second, .val (.long x5), .second, .val (.int x6), .val (.long b1_), .second, .val (.long b2_), .second, .val (.long b3_), .second, .val (.long b4_), .second, .val (.ref b5), .val (.ref b16), .val (.int (0 : Int32)), .val (.ref lb109)] [(.ref b5), (.ref b5)])) (fun t k => XS.aload X123.here hx rfl (hb hby at_176) rfl rfl k) ?_
        obtain ⟨_, T124, L124, X124, hQ124, st124⟩ := own_callV X123 hx hZ (y := (⟨"com/example/gridloom/gridloom/index/Counter", "equals", "(Ljava/lang/Object;)Z"⟩ : MethodName)) (W := 0) (C := "com/example/gridloom/gridloom/index/Counter") hown (hw _ (List.mem_of_getElem? (i := 30) rfl)) (hw _ (List.mem_of_getElem? (i := 31) rfl)) (hw _ (List.mem_of_getElem? (i := 33) rfl)) (hw _ (List.mem_of_getElem? (i := 32) rfl)) (hw _ (List.mem_of_getElem? (i := 2) rfl)) (hw _ (List.mem_of_getElem? (i := 34) rfl)) (by decide) (rm_Qe1 l Z a0 hw [] b5 b5 x1 x2 x3 x4 x1 x2 x3 x4 T109.heap n0 Z121 f111 f112 f113 f114 f115 f112 f113 f114 f115) (by decide) (by decide) e123 f111 (g := (mkF m 178 #[.val (.long x1), .second, .val (.long x2), .second, .val (.long x3), .second, .val (.long x4), .second, .val (.long x5), .second, .val (.int x6), .val (.long b1_), .second, .val (.long b2_), .second, .val (.long b3_), .second, .val (.long b4_), .second, .val (.ref b5), .val (.ref b16), .val (.int (0 : Int32)), .val (.ref lb109)] [(.ref b5), (.ref b5)])) rfl (by rw [hml]; rfl) (argsL := [(.ref b5)]) (rest := []) rfl (lenOf pd_Ljava_lang_Object___Z rfl) rfl (by show 2 * 0 + _ ≤ _; exact Nat.le_of_eq rfl) (hb hby at_178) (by decide) (by decide)
        obtain ⟨rfl, N124q, e124⟩ := hQ124
        have N124 := Fr.app N123 N124q
        refine own_via (U' := T124.setTop (mkF m 181 #[.val (.long x1), .second, .val (.long x2), .second, .val (.long x3), .second, .val (.long x4), .second, .val (.long x5), .second, .val (.int x6), .val (.long b1_), .second, .val (.long b2_), .second, .val (.long b3_), .second, .val (.long b4_), .second, .val (.ref b5), .val (.ref b16), .val (.int (0 : Int32)), .val (.ref lb109)] [(.int (if x1 = x1 then (if x2 = x2 then (if x3 = x3 then (if x4 = x4 then (1 : Int32) else (0 : Int32)) else (0 : Int32)) else (0 : Int32)) else (0 : Int32)))])) (fun t k => st124 t k) ?_
        refine own_via (U' := T124.setTop (mkF m 184 #[.val (.long x1), .second, .val (.long x2), .second, .val (.long x3), .second, .val (.long x4), .second, .val (.long x5), .second, .val (.int x6), .val (.long b1_), .second, .val (.long b2_), .second, .val (.long b3_), .second, .val (.long b4_), .second, .val (.ref b5), .val (.ref b16), .val (.int (0 : Int32)), .val (.ref lb109)] [])) (fun t k => XS.ifNo X124.here hx rfl (hb hby at_181) rfl ((if0 _ _).trans (feq (by rw [if_pos rfl, if_pos rfl, if_pos rfl, if_pos rfl]; decide)).1) k) ?_
        refine own_via (U' := T124.setTop (mkF m 186 #[.val (.long x1), .second, .val (.long x2), .second, .val (.long x3), .second, .val (.long x4), .second, .val (.long x5), .second, .val (.int x6), .val (.long b1_), .second, .val (.long b2_), .second, .val (.long b3_), .second, .val (.long b4_), .second, .val (.ref b5), .val (.ref b16), .val (.int (0 : Int32)), .val (.ref lb109)] [(.ref b5)])) (fun t k => XS.aload X124.here hx rfl (hb hby at_184) rfl rfl k) ?_
        refine own_via (U' := T124.setTop (mkF m 188 #[.val (.long x1), .second, .val (.long x2), .second, .val (.long x3), .second, .val (.long x4), .second, .val (.long x5), .second, .val (.int x6), .val (.long b1_), .second, .val (.long b2_), .second, .val (.long b3_), .second, .val (.long b4_), .second, .val (.ref b5), .val (.ref b16), .val (.int (0 : Int32)), .val (.ref lb109)] [(.ref lb109), (.ref b5)])) (fun t k => XS.aload X124.here hx rfl (hb hby at_186) rfl rfl k) ?_
        obtain ⟨_, T125, L125, X125, hQ125, st125⟩ := own_callV X124 hx hZ (y := (⟨"com/example/gridloom/gridloom/index/Counter", "equals", "(Ljava/lang/Object;)Z"⟩ : MethodName)) (W := 0) (C := "com/example/gridloom/gridloom/index/Counter") hown (hw _ (List.mem_of_getElem? (i := 30) rfl)) (hw _ (List.mem_of_getElem? (i := 31) rfl)) (hw _ (List.mem_of_getElem? (i := 33) rfl)) (hw _ (List.mem_of_getElem? (i := 32) rfl)) (hw _ (List.mem_of_getElem? (i := 2) rfl)) (hw _ (List.mem_of_getElem? (i := 34) rfl)) (by decide) (rm_Qe3 l Z a0 hw [] b5 lb109 T109.heap n0 Z121 E109q) (by decide) (by decide) e124 f111 (g := (mkF m 188 #[.val (.long x1), .second, .val (.long x2), .second, .val (.long x3), .second, .val (.long x4), .second, .val (.long x5), .second, .val (.int x6), .val (.long b1_), .second, .val (.long b2_), .second, .val (.long b3_), .second, .val (.long b4_), .second, .val (.ref b5), .val (.ref b16), .val (.int (0 : Int32)), .val (.ref lb109)] [(.ref lb109), (.ref b5)])) rfl (by rw [hml]; rfl) (argsL := [(.ref lb109)]) (rest := []) rfl (lenOf pd_Ljava_lang_Object___Z rfl) rfl (by show 2 * 0 + _ ≤ _; exact Nat.le_of_eq rfl) (hb hby at_188) (by decide) (by decide)
        obtain ⟨rfl, N125q, e125⟩ := hQ125
        have N125 := Fr.app N124 N125q
        refine own_via (U' := T125.setTop (mkF m 191 #[.val (.long x1), .second, .val (.long x2), .second, .val (.long x3), .second, .val (.long x4), .second, .val (.long x5), .second, .val (.int x6), .val (.long b1_), .second, .val (.long b2_), .second, .val (.long b3_), .second, .val (.long b4_), .second, .val (.ref b5), .val (.ref b16), .val (.int (0 : Int32)), .val (.ref lb109)] [(.int (0 : Int32))])) (fun t k => st125 t k) ?_
        refine own_via (U' := T125.setTop (mkF m 194 #[.val (.long x1), .second, .val (.long x2), .second, .val (.long x3), .second, .val (.long x4), .second, .val (.long x5), .second, .val (.int x6), .val (.long b1_), .second, .val (.long b2_), .second, .val (.long b3_), .second, .val (.long b4_), .second, .val (.ref b5), .val (.ref b16), .val (.int (0 : Int32)), .val (.ref lb109)] [])) (fun t k => XS.ifNo X125.here hx rfl (hb hby at_191) rfl ((if0 _ _).trans (teq (by decide : ((0 : Int32) = (0 : Int32)))).2) k) ?_
        refine own_via (U' := T125.setTop (mkF m 195 #[.val (.long x1), .second, .val (.long x2), .second, .val (.long x3), .second, .val (.long x4), .second, .val (.long x5), .second, .val (.int x6), .val (.long b1_), .second, .val (.long b2_), .second, .val (.long b3_), .second, .val (.long b4_), .second, .val (.ref b5), .val (.ref b16), .val (.int (0 : Int32)), .val (.ref lb109)] [(.int (1 : Int32))])) (fun t k => XS.iconst X125.here hx rfl (hb hby at_194) k) ?_
        refine own_via (U' := T125.setTop (mkF m 199 #[.val (.long x1), .second, .val (.long x2), .second, .val (.long x3), .second, .val (.long x4), .second, .val (.long x5), .second, .val (.int x6), .val (.long b1_), .second, .val (.long b2_), .second, .val (.long b3_), .second, .val (.long b4_), .second, .val (.ref b5), .val (.ref b16), .val (.int (0 : Int32)), .val (.ref lb109)] [(.int (1 : Int32))])) (fun t k => XS.goto X125.here hx rfl (pc0 := 195) (pc' := 199) rfl (hb hby at_195) (by decide) (by decide) k) ?_
        exact own_ret X125 (v := some (.int (1 : Int32))) (fun h => by rw [Bd.returns] at h; cases h) hlk (fun fs hr => retN X125 hx (t := .boolean) Bd.returns (by simp) (hb hby at_199) hr) (by rw [e125]; exact ⟨rfl, N125⟩) (by decide) (by decide)
      case neg =>
        refine own_via (U' := T29.setTop (mkF m 140 #[.val (.long x1), .second, .val (.long x2), .second, .val (.long x3), .second, .val (.long x4), .second, .val (.long x5), .second, .val (.int x6), .val (.long b1_), .second, .val (.long b2_), .second, .val (.long b3_), .second, .val (.long b4_), .second, .val (.ref b5), .val (.ref b16), .val (.int (0 : Int32)), .unset] [])) (fun t k => XS.ifNo X29.here hx rfl (hb hby at_137) rfl ((if0 _ _).trans (feq hc108).1) k) ?_
        refine own_via (U' := T29.setTop (mkF m 141 #[.val (.long x1), .second, .val (.long x2), .second, .val (.long x3), .second, .val (.long x4), .second, .val (.long x5), .second, .val (.int x6), .val (.long b1_), .second, .val (.long b2_), .second, .val (.long b3_), .second, .val (.long b4_), .second, .val (.ref b5), .val (.ref b16), .val (.int (0 : Int32)), .unset] [.null])) (fun t k => XS.aconstNull X29.here hx rfl (hb hby at_140) k) ?_
        refine own_via (U' := T29.setTop (mkF m 148 #[.val (.long x1), .second, .val (.long x2), .second, .val (.long x3), .second, .val (.long x4), .second, .val (.long x5), .second, .val (.int x6), .val (.long b1_), .second, .val (.long b2_), .second, .val (.long b3_), .second, .val (.long b4_), .second, .val (.ref b5), .val (.ref b16), .val (.int (0 : Int32)), .unset] [.null])) (fun t k => XS.goto X29.here hx rfl (pc0 := 141) (pc' := 148) rfl (hb hby at_141) (by decide) (by decide) k) ?_
        refine own_via (U' := T29.setTop (mkF m 150 #[.val (.long x1), .second, .val (.long x2), .second, .val (.long x3), .second, .val (.long x4), .second, .val (.long x5), .second, .val (.int x6), .val (.long b1_), .second, .val (.long b2_), .second, .val (.long b3_), .second, .val (.long b4_), .second, .val (.ref b5), .val (.ref b16), .val (.int (0 : Int32)), .val .null] [])) (fun t k => XS.astore X29.here hx rfl (hb hby at_148) rfl rfl (l' := #[.val (.long x1), .second, .val (.long x2), .second, .val (.long x3), .second, .val (.long x4), .second, .val (.long x5), .second, .val (.int x6), .val (.long b1_), .second, .val (.long b2_), .second, .val (.long b3_), .second, .val (.long b4_), .second, .val (.ref b5), .val (.ref b16), .val (.int (0 : Int32)), .val .null]) rfl k) ?_
        refine own_via (U' := T29.setTop (mkF m 152 #[.val (.long x1), .second, .val (.long x2), .second, .val (.long x3), .second, .val (.long x4), .second, .val (.long x5), .second, .val (.int x6), .val (.long b1_), .second, .val (.long b2_), .second, .val (.long b3_), .second, .val (.long b4_), .second, .val (.ref b5), .val (.ref b16), .val (.int (0 : Int32)), .val .null] [(.ref b5)])) (fun t k => XS.aload X29.here hx rfl (hb hby at_150) rfl rfl k) ?_
        refine own_via (U' := T29.setTop (mkF m 154 #[.val (.long x1), .second, .val (.long x2), .second, .val (.long x3), .second, .val (.long x4), .second, .val (.long x5), .second, .val (.int x6), .val (.long b1_), .second, .val (.long b2_), .second, .val (.long b3_), .second, .val (.long b4_), .second, .val (.ref b5), .val (.ref b16), .val (.int (0 : Int32)), .val .null] [(.ref b16), (.ref b5)])) (fun t k => XS.aload X29.here hx rfl (hb hby at_152) rfl rfl k) ?_
        obtain ⟨_, T126, L126, X126, hQ126, st126⟩ := own_callV X29 hx hZ (y := (⟨"com/example/gridloom/gridloom/index/Counter", "equals", "(Ljava/lang/Object;)Z"⟩ : MethodName)) (W := 0) (C := "com/example/gridloom/gridloom/index/Counter") hown (hw _ (List.mem_of_getElem? (i := 30) rfl)) (hw _ (List.mem_of_getElem? (i := 31) rfl)) (hw _ (List.mem_of_getElem? (i := 33) rfl)) (hw _ (List.mem_of_getElem? (i := 32) rfl)) (hw _ (List.mem_of_getElem? (i := 2) rfl)) (hw _ (List.mem_of_getElem? (i := 34) rfl)) (by decide) (rm_Qe1 l Z a0 hw [] b5 b16 x1 x2 x3 x4 b1_ b2_ b3_ b4_ T29.heap n0 Z37 E29q f32 f33 f34 f35 F29q0 F29q1 F29q2 F29q3) (by decide) (by decide) rfl f31 (g := (mkF m 154 #[.val (.long x1), .second, .val (.long x2), .second, .val (.long x3), .second, .val (.long x4), .second, .val (.long x5), .second, .val (.int x6), .val (.long b1_), .second, .val (.long b2_), .second, .val (.long b3_), .second, .val (.long b4_), .second, .val (.ref b5), .val (.ref b16), .val (.int (0 : Int32)), .val .null] [(.ref b16), (.ref b5)])) rfl (by rw [hml]; rfl) (argsL := [(.ref b16)]) (rest := []) rfl (lenOf pd_Ljava_lang_Object___Z rfl) rfl (by show 2 * 0 + _ ≤ _; exact Nat.le_of_eq rfl) (hb hby at_154) (by decide) (by decide)
        obtain ⟨rfl, N126q, e126⟩ := hQ126
        have N126 := Fr.app N29 N126q
        refine own_via (U' := T126.setTop (mkF m 157 #[.val (.long x1), .second, .val (.long x2), .second, .val (.long x3), .second, .val (.long x4), .second, .val (.long x5), .second, .val (.int x6), .val (.long b1_), .second, .val (.long b2_), .second, .val (.long b3_), .second, .val (.long b4_), .second, .val (.ref b5), .val (.ref b16), .val (.int (0 : Int32)), .val .null] [(.int (if x1 = b1_ then (if x2 = b2_ then (if x3 = b3_ then (if x4 = b4_ then (1 : Int32) else (0 : Int32)) else (0 : Int32)) else (0 : Int32)) else (0 : Int32)))])) (fun t k => st126 t k) ?_
        refine own_via (U' := T126.setTop (mkF m 159 #[.val (.long x1), .second, .val (.long x2), .second, .val (.long x3), .second, .val (.long x4), .second, .val (.long x5), .second, .val (.int x6), .val (.long b1_), .second, .val (.long b2_), .second, .val (.long b3_), .second, .val (.long b4_), .second, .val (.ref b5), .val (.ref b16), .val (.int (0 : Int32)), .val .null] [(.int (0 : Int32)), (.int (if x1 = b1_ then (if x2 = b2_ then (if x3 = b3_ then (if x4 = b4_ then (1 : Int32) else (0 : Int32)) else (0 : Int32)) else (0 : Int32)) else (0 : Int32)))])) (fun t k => XS.iload X126.here hx rfl (hb hby at_157) rfl k) ?_
        refine own_via (U' := T126.setTop (mkF m 162 #[.val (.long x1), .second, .val (.long x2), .second, .val (.long x3), .second, .val (.long x4), .second, .val (.long x5), .second, .val (.int x6), .val (.long b1_), .second, .val (.long b2_), .second, .val (.long b3_), .second, .val (.long b4_), .second, .val (.ref b5), .val (.ref b16), .val (.int (0 : Int32)), .val .null] [])) (fun t k => XS.icmpNo X126.here hx rfl (hb hby at_159) rfl (teq (by rw [if_pos hc38.symm, if_neg (fun z => hc39 z.symm)])).2 k) ?_
        refine own_via (U' := T126.setTop (mkF m 164 #[.val (.long x1), .second, .val (.long x2), .second, .val (.long x3), .second, .val (.long x4), .second, .val (.long x5), .second, .val (.int x6), .val (.long b1_), .second, .val (.long b2_), .second, .val (.long b3_), .second, .val (.long b4_), .second, .val (.ref b5), .val (.ref b16), .val (.int (0 : Int32)), .val .null] [(.ref b16)])) (fun t k => XS.aload X126.here hx rfl (hb hby at_162) rfl rfl k) ?_
        refine own_via (U' := T126.setTop (mkF m 166 #[.val (.long x1), .second, .val (.long x2), .second, .val (.long x3), .second, .val (.long x4), .second, .val (.long x5), .second, .val (.int x6), .val (.long b1_), .second, .val (.long b2_), .second, .val (.long b3_), .second, .val (.long b4_), .second, .val (.ref b5), .val (.ref b16), .val (.int (0 : Int32)), .val .null] [(.ref b5), (.ref b16)])) (fun t k => XS.aload X126.here hx rfl (hb hby at_164) rfl rfl k) ?_
        obtain ⟨_, T127, L127, X127, hQ127, st127⟩ := own_callV X126 hx hZ (y := (⟨"com/example/gridloom/gridloom/index/Counter", "equals", "(Ljava/lang/Object;)Z"⟩ : MethodName)) (W := 0) (C := "com/example/gridloom/gridloom/index/Counter") hown (hw _ (List.mem_of_getElem? (i := 30) rfl)) (hw _ (List.mem_of_getElem? (i := 31) rfl)) (hw _ (List.mem_of_getElem? (i := 33) rfl)) (hw _ (List.mem_of_getElem? (i := 32) rfl)) (hw _ (List.mem_of_getElem? (i := 2) rfl)) (hw _ (List.mem_of_getElem? (i := 34) rfl)) (by decide) (rm_Qe1 l Z a0 hw [] b16 b5 b1_ b2_ b3_ b4_ x1 x2 x3 x4 T29.heap n0 Z37 f31 F29q0 F29q1 F29q2 F29q3 f32 f33 f34 f35) (by decide) (by decide) e126 E29q (g := (mkF m 166 #[.val (.long x1), .second, .val (.long x2), .second, .val (.long x3), .second, .val (.long x4), .second, .val (.long x5), .second, .val (.int x6), .val (.long b1_), .second, .val (.long b2_), .second, .val (.long b3_), .second, .val (.long b4_), .second, .val (.ref b5), .val (.ref b16), .val (.int (0 : Int32)), .val .null] [(.ref b5), (.ref b16)])) rfl (by rw [hml]; rfl) (argsL := [(.ref b5)]) (rest := []) rfl (lenOf pd_Ljava_lang_Object___Z rfl) rfl (by show 2 * 0 + _ ≤ _; exact Nat.le_of_eq rfl) (hb hby at_166) (by decide) (by decide)
        obtain ⟨rfl, N127q, e127⟩ := hQ127
        have N127 := Fr.app N126 N127q
        refine own_via (U' := T127.setTop (mkF m 169 #[.val (.long x1), .second, .val (.long x2), .second, .val (.long x3), .second, .val (.long x4), .second, .val (.long x5), .second, .val (.int x6), .val (.long b1_), .second, .val (.long b2_), .second, .val (.long b3_), .second, .val (.long b4_), .second, .val (.ref b5), .val (.ref b16), .val (.int (0 : Int32)), .val .null] [(.int (if b1_ = x1 then (if b2_ = x2 then (if b3_ = x3 then (if b4_ = x4 then (1 : Int32) else (0 : Int32)) else (0 : Int32)) else (0 : Int32)) else (0 : Int32)))])) (fun t k => st127 t k) ?_
        refine own_via (U' := T127.setTop (mkF m 171 #[.val (.long x1), .second, .val (.long x2), .second, .val (.long x3), .second, .val (.long x4), .second, .val (.long x5), .second, .val (.int x6), .val (.long b1_), .second, .val (.long b2_), .second, .val (.long b3_), .second, .val (.long b4_), .second, .val (.ref b5), .val (.ref b16), .val (.int (0 : Int32)), .val .null] [(.int (0 : Int32)), (.int (if b1_ = x1 then (if b2_ = x2 then (if b3_ = x3 then (if b4_ = x4 then (1 : Int32) else (0 : Int32)) else (0 : Int32)) else (0 : Int32)) else (0 : Int32)))])) (fun t k => XS.iload X127.here hx rfl (hb hby at_169) rfl k) ?_
        refine own_via (U' := T127.setTop (mkF m 174 #[.val (.long x1), .second, .val (.long x2), .second, .val (.long x3), .second, .val (.long x4), .second, .val (.long x5), .second, .val (.int x6), .val (.long b1_), .second, .val (.long b2_), .second, .val (.long b3_), .second, .val (.long b4_), .second, .val (.ref b5), .val (.ref b16), .val (.int (0 : Int32)), .val .null] [])) (fun t k => XS.icmpNo X127.here hx rfl (hb hby at_171) rfl (teq (by rw [if_pos hc38, if_neg hc39])).2 k) ?_
        refine own_via (U' := T127.setTop (mkF m 176 #[.val (.long x1), .second, .val (.long x2), .second, .val (.long x3), .second, .val (.long x4), .second, .val (.long x5), .second, .val (.int x6), .val (.long b1_), .second, .val (.long b2_), .second, .val (.long b3_), .second, .val (.long b4_), .second, .val (.ref b5), .val (.ref b16), .val (.int (0 : Int32)), .val .null] [(.ref b5)])) (fun t k => XS.aload X127.here hx rfl (hb hby at_174) rfl rfl k) ?_
        refine own_via (U' := T127.setTop (mkF m 178 #[.val (.long x1), .second, .val (.long x2), .second, .val (.long x3), .second, .val (.long x4), .second, .val (.long x5), .second, .val (.int x6), .val (.long b1_), .second, .val (.long b2_), .second, .val (.long b3_), .second, .val (.long b4_), .second, .val (.ref b5), .val (.ref b16), .val (.int (0 : Int32)), .val .null] [(.ref b5), (.ref b5)])) (fun t k => XS.aload X127.here hx rfl (hb hby at_176) rfl rfl k) ?_
        obtain ⟨_, T128, L128, X128, hQ128, st128⟩ := own_callV X127 hx hZ (y := (⟨"com/example/gridloom/gridloom/index/Counter", "equals", "(Ljava/lang/Object;)Z"⟩ : MethodName)) (W := 0) (C := "com/example/gridloom/gridloom/index/Counter") hown (hw _ (List.mem_of_getElem? (i := 30) rfl)) (hw _ (List.mem_of_getElem? (i := 31) rfl)) (hw _ (List.mem_of_getElem? (i := 33) rfl)) (hw _ (List.mem_of_getElem? (i := 32) rfl)) (hw _ (List.mem_of_getElem? (i := 2) rfl)) (hw _ (List.mem_of_getElem? (i := 34) rfl)) (by decide) (rm_Qe1 l Z a0 hw [] b5 b5 x1 x2 x3 x4 x1 x2 x3 x4 T29.heap n0 Z37 f31 f32 f33 f34 f35 f32 f33 f34 f35) (by decide) (by decide) e127 f31 (g := (mkF m 178 #[.val (.long x1), .second, .val (.long x2), .second, .val (.long x3), .second, .val (.long x4), .second, .val (.long x5), .second, .val (.int x6), .val (.long b1_), .second, .val (.long b2_), .second, .val (.long b3_), .second, .val (.long b4_), .second, .val (.ref b5), .val (.ref b16), .val (.int (0 : Int32)), .val .null] [(.ref b5), (.ref b5)])) rfl (by rw [hml]; rfl) (argsL := [(.ref b5)]) (rest := []) rfl (lenOf pd_Ljava_lang_Object___Z rfl) rfl (by show 2 * 0 + _ ≤ _; exact Nat.le_of_eq rfl) (hb hby at_178) (by decide) (by decide)
        obtain ⟨rfl, N128q, e128⟩ := hQ128
        have N128 := Fr.app N127 N128q
        refine own_via (U' := T128.setTop (mkF m 181 #[.val (.long x1), .second, .val (.long x2), .second, .val (.long x3), .second, .val (.long x4), .second, .val (.long x5), .second, .val (.int x6), .val (.long b1_), .second, .val (.long b2_), .second, .val (.long b3_), .second, .val (.long b4_), .second, .val (.ref b5), .val (.ref b16), .val (.int (0 : Int32)), .val .null] [(.int (if x1 = x1 then (if x2 = x2 then (if x3 = x3 then (if x4 = x4 then (1 : Int32) else (0 : Int32)) else (0 : Int32)) else (0 : Int32)) else (0 : Int32)))])) (fun t k => st128 t k) ?_
        refine own_via (U' := T128.setTop (mkF m 184 #[.val (.long x1), .second, .val (.long x2), .second, .val (.long x3), .second, .val (.long x4), .second, .val (.long x5), .second, .val (.int x6), .val (.long b1_), .second, .val (.long b2_), .second, .val (.long b3_), .second, .val (.long b4_), .second, .val (.ref b5), .val (.ref b16), .val (.int (0 : Int32)), .val .null] [])) (fun t k => XS.ifNo X128.here hx rfl (hb hby at_181) rfl ((if0 _ _).trans (feq (by rw [if_pos rfl, if_pos rfl, if_pos rfl, if_pos rfl]; decide)).1) k) ?_
        refine own_via (U' := T128.setTop (mkF m 186 #[.val (.long x1), .second, .val (.long x2), .second, .val (.long x3), .second, .val (.long x4), .second, .val (.long x5), .second, .val (.int x6), .val (.long b1_), .second, .val (.long b2_), .second, .val (.long b3_), .second, .val (.long b4_), .second, .val (.ref b5), .val (.ref b16), .val (.int (0 : Int32)), .val .null] [(.ref b5)])) (fun t k => XS.aload X128.here hx rfl (hb hby at_184) rfl rfl k) ?_
        refine own_via (U' := T128.setTop (mkF m 188 #[.val (.long x1), .second, .val (.long x2), .second, .val (.long x3), .second, .val (.long x4), .second, .val (.long x5), .second, .val (.int x6), .val (.long b1_), .second, .val (.long b2_), .second, .val (.long b3_), .second, .val (.long b4_), .second, .val (.ref b5), .val (.ref b16), .val (.int (0 : Int32)), .val .null] [.null, (.ref b5)])) (fun t k => XS.aload X128.here hx rfl (hb hby at_186) rfl rfl k) ?_
        obtain ⟨_, T129, L129, X129, hQ129, st129⟩ := own_callV X128 hx hZ (y := (⟨"com/example/gridloom/gridloom/index/Counter", "equals", "(Ljava/lang/Object;)Z"⟩ : MethodName)) (W := 0) (C := "com/example/gridloom/gridloom/index/Counter") hown (hw _ (List.mem_of_getElem? (i := 30) rfl)) (hw _ (List.mem_of_getElem? (i := 31) rfl)) (hw _ (List.mem_of_getElem? (i := 33) rfl)) (hw _ (List.mem_of_getElem? (i := 32) rfl)) (hw _ (List.mem_of_getElem? (i := 2) rfl)) (hw _ (List.mem_of_getElem? (i := 34) rfl)) (by decide) (rm_Qe2 l Z a0 hw [] b5 T29.heap n0 Z37) (by decide) (by decide) e128 f31 (g := (mkF m 188 #[.val (.long x1), .second, .val (.long x2), .second, .val (.long x3), .second, .val (.long x4), .second, .val (.long x5), .second, .val (.int x6), .val (.long b1_), .second, .val (.long b2_), .second, .val (.long b3_), .second, .val (.long b4_), .second, .val (.ref b5), .val (.ref b16), .val (.int (0 : Int32)), .val .null] [.null, (.ref b5)])) rfl (by rw [hml]; rfl) (argsL := [.null]) (rest := []) rfl (lenOf pd_Ljava_lang_Object___Z rfl) rfl (by show 2 * 0 + _ ≤ _; exact Nat.le_of_eq rfl) (hb hby at_188) (by decide) (by decide)
        obtain ⟨rfl, N129q, e129⟩ := hQ129
        have N129 := Fr.app N128 N129q
        refine own_via (U' := T129.setTop (mkF m 191 #[.val (.long x1), .second, .val (.long x2), .second, .val (.long x3), .second, .val (.long x4), .second, .val (.long x5), .second, .val (.int x6), .val (.long b1_), .second, .val (.long b2_), .second, .val (.long b3_), .second, .val (.long b4_), .second, .val (.ref b5), .val (.ref b16), .val (.int (0 : Int32)), .val .null] [(.int (0 : Int32))])) (fun t k => st129 t k) ?_
        refine own_via (U' := T129.setTop (mkF m 194 #[.val (.long x1), .second, .val (.long x2), .second, .val (.long x3), .second, .val (.long x4), .second, .val (.long x5), .second, .val (.int x6), .val (.long b1_), .second, .val (.long b2_), .second, .val (.long b3_), .second, .val (.long b4_), .second, .val (.ref b5), .val (.ref b16), .val (.int (0 : Int32)), .val .null] [])) (fun t k => XS.ifNo X129.here hx rfl (hb hby at_191) rfl ((if0 _ _).trans (teq (by decide : ((0 : Int32) = (0 : Int32)))).2) k) ?_
        refine own_via (U' := T129.setTop (mkF m 195 #[.val (.long x1), .second, .val (.long x2), .second, .val (.long x3), .second, .val (.long x4), .second, .val (.long x5), .second, .val (.int x6), .val (.long b1_), .second, .val (.long b2_), .second, .val (.long b3_), .second, .val (.long b4_), .second, .val (.ref b5), .val (.ref b16), .val (.int (0 : Int32)), .val .null] [(.int (1 : Int32))])) (fun t k => XS.iconst X129.here hx rfl (hb hby at_194) k) ?_
        refine own_via (U' := T129.setTop (mkF m 199 #[.val (.long x1), .second, .val (.long x2), .second, .val (.long x3), .second, .val (.long x4), .second, .val (.long x5), .second, .val (.int x6), .val (.long b1_), .second, .val (.long b2_), .second, .val (.long b3_), .second, .val (.long b4_), .second, .val (.ref b5), .val (.ref b16), .val (.int (0 : Int32)), .val .null] [(.int (1 : Int32))])) (fun t k => XS.goto X129.here hx rfl (pc0 := 195) (pc' := 199) rfl (hb hby at_195) (by decide) (by decide) k) ?_
        exact own_ret X129 (v := some (.int (1 : Int32))) (fun h => by rw [Bd.returns] at h; cases h) hlk (fun fs hr => retN X129 hx (t := .boolean) Bd.returns (by simp) (hb hby at_199) hr) (by rw [e129]; exact ⟨rfl, N129⟩) (by decide) (by decide)
  case neg =>
    refine own_via (U' := T29.setTop (mkF m 129 #[.val (.long x1), .second, .val (.long x2), .second, .val (.long x3), .second, .val (.long x4), .second, .val (.long x5), .second, .val (.int x6), .val (.long b1_), .second, .val (.long b2_), .second, .val (.long b3_), .second, .val (.long b4_), .second, .val (.ref b5), .val (.ref b16), .unset, .unset] [])) (fun t k => XS.ifYes X29.here hx rfl (pc0 := 99) (pc' := 129) rfl (hb hby at_99) rfl (own_jne hc38).2 (by decide) (by decide) k) ?_
    refine own_via (U' := T29.setTop (mkF m 130 #[.val (.long x1), .second, .val (.long x2), .second, .val (.long x3), .second, .val (.long x4), .second, .val (.long x5), .second, .val (.int x6), .val (.long b1_), .second, .val (.long b2_), .second, .val (.long b3_), .second, .val (.long b4_), .second, .val (.ref b5), .val (.ref b16), .unset, .unset] [(.int (0 : Int32))])) (fun t k => XS.iconst X29.here hx rfl (hb hby at_129) k) ?_
    refine own_via (U' := T29.setTop (mkF m 132 #[.val (.long x1), .second, .val (.long x2), .second, .val (.long x3), .second, .val (.long x4), .second, .val (.long x5), .second, .val (.int x6), .val (.long b1_), .second, .val (.long b2_), .second, .val (.long b3_), .second, .val (.long b4_), .second, .val (.ref b5), .val (.ref b16), .val (.int (0 : Int32)), .unset] [])) (fun t k => XS.istore X29.here hx rfl (hb hby at_130) rfl (l' := #[.val (.long x1), .second, .val (.long x2), .second, .val (.long x3), .second, .val (.long x4), .second, .val (.long x5), .second, .val (.int x6), .val (.long b1_), .second, .val (.long b2_), .second, .val (.long b3_), .second, .val (.long b4_), .second, .val (.ref b5), .val (.ref b16), .val (.int (0 : Int32)), .unset]) rfl k) ?_
    refine own_via (U' := T29.setTop (mkF m 134 #[.val (.long x1), .second, .val (.long x2), .second, .val (.long x3), .second, .val (.long x4), .second, .val (.long x5), .second, .val (.int x6), .val (.long b1_), .second, .val (.long b2_), .second, .val (.long b3_), .second, .val (.long b4_), .second, .val (.ref b5), .val (.ref b16), .val (.int (0 : Int32)), .unset] [(.int x6)])) (fun t k => XS.iload X29.here hx rfl (hb hby at_132) rfl k) ?_
    refine own_via (U' := T29.setTop (mkF m 136 #[.val (.long x1), .second, .val (.long x2), .second, .val (.long x3), .second, .val (.long x4), .second, .val (.long x5), .second, .val (.int x6), .val (.long b1_), .second, .val (.long b2_), .second, .val (.long b3_), .second, .val (.long b4_), .second, .val (.ref b5), .val (.ref b16), .val (.int (0 : Int32)), .unset] [(.int (16 : Int32)), (.int x6)])) (fun t k => XS.bipush X29.here hx rfl (hb hby at_134) k) ?_
    refine own_via (U' := T29.setTop (mkF m 137 #[.val (.long x1), .second, .val (.long x2), .second, .val (.long x3), .second, .val (.long x4), .second, .val (.long x5), .second, .val (.int x6), .val (.long b1_), .second, .val (.long b2_), .second, .val (.long b3_), .second, .val (.long b4_), .second, .val (.ref b5), .val (.ref b16), .val (.int (0 : Int32)), .unset] [(.int (x6 &&& (16 : Int32)))])) (fun t k => XS.iand X29.here hx rfl (hb hby at_136) rfl k) ?_
    by_cases hc130 : (x6 &&& (16 : Int32)) = (0 : Int32)
    case pos =>
      refine own_via (U' := T29.setTop (mkF m 144 #[.val (.long x1), .second, .val (.long x2), .second, .val (.long x3), .second, .val (.long x4), .second, .val (.long x5), .second, .val (.int x6), .val (.long b1_), .second, .val (.long b2_), .second, .val (.long b3_), .second, .val (.long b4_), .second, .val (.ref b5), .val (.ref b16), .val (.int (0 : Int32)), .unset] [])) (fun t k => XS.ifYes X29.here hx rfl (pc0 := 137) (pc' := 144) rfl (hb hby at_137) rfl ((if0 _ _).trans (teq hc130).1) (by decide) (by decide) k) ?_
      refine own_via (U' := T29.setTop (mkF m 145 #[.val (.long x1), .second, .val (.long x2), .second, .val (.long x3), .second, .val (.long x4), .second, .val (.long x5), .second, .val (.int x6), .val (.long b1_), .second, .val (.long b2_), .second, .val (.long b3_), .second, .val (.long b4_), .second, .val (.ref b5), .val (.ref b16), .val (.int (0 : Int32)), .unset] [(.long x1)])) (fun t k => XS.lloadN X29.here hx rfl (hb hby at_144) rfl k) ?_
      obtain ⟨_, T131, L131, X131, hQ131, st131⟩ := own_callS X29 hx hZ (y := (⟨"java/lang/Long", "valueOf", "(J)Ljava/lang/Long;"⟩ : MethodName)) (W := 0) hown (hw _ (List.mem_of_getElem? (i := 22) rfl)) (hw _ (List.mem_of_getElem? (i := 23) rfl)) (hw _ (List.mem_of_getElem? (i := 24) rfl)) (hw _ (List.mem_of_getElem? (i := 25) rfl)) (by decide) (rm_Qvo l Z a0 hw [] x1 ca cl T29.heap n0 Z37 f30 Sc Bx) (by decide) (by decide) rfl (g := (mkF m 145 #[.val (.long x1), .second, .val (.long x2), .second, .val (.long x3), .second, .val (.long x4), .second, .val (.long x5), .second, .val (.int x6), .val (.long b1_), .second, .val (.long b2_), .second, .val (.long b3_), .second, .val (.long b4_), .second, .val (.ref b5), .val (.ref b16), .val (.int (0 : Int32)), .unset] [(.long x1)])) rfl (by rw [hml]; rfl) (argsL := [(.long x1)]) (rest := []) rfl (lenOf pd_J__Ljava_lang_Long_ rfl) rfl (by show 2 * 0 + _ ≤ _; exact Nat.le_of_eq rfl) (hb hby at_145) (by decide) (by decide)
      obtain ⟨lb131, rfl, N131q, K131q, E131q⟩ := hQ131
      have N131 := Fr.app N29 N131q
      have f132 := f30.keep K131q all0
      have f133 := f31.keep K131q
      have f134 := f32.keep K131q nin0
      have f135 := f33.keep K131q nin0
      have f136 := f34.keep K131q nin0
      have f137 := f35.keep K131q nin0
      have f138 := E29q.keep K131q
      have f139 := F29q0.keep K131q nin0
      have f140 := F29q1.keep K131q nin0
      have f141 := F29q2.keep K131q nin0
      have f142 := F29q3.keep K131q nin0
      have Z143 : n0 ≤ T131.heap.size := Nat.le_trans Z37 K131q.1
      have K143 := K37.trans K131q all0
      refine own_via (U' := T131.setTop (mkF m 148 #[.val (.long x1), .second, .val (.long x2), .second, .val (.long x3), .second, .val (.long x4), .second, .val (.long x5), .second, .val (.int x6), .val (.long b1_), .second, .val (.long b2_), .second, .val (.long b3_), .second, .val (.long b4_), .second, .val (.ref b5), .val (.ref b16), .val (.int (0 : Int32)), .unset] [(.ref lb131)])) (fun t k => st131 t k) ?_
      refine own_via (U' := T131.setTop (mkF m 150 #[.val (.long x1), .second, .val (.long x2), .second, .val (.long x3), .second, .val (.long x4), .second, .val (.long x5), .second, .val (.int x6), .val (.long b1_), .second, .val (.long b2_), .second, .val (.long b3_), .second, .val (.long b4_), .second, .val (.ref b5), .val (.ref b16), .val (.int (0 : Int32)), .val (.ref lb131)] [])) (fun t k => XS.astore X131.here hx rfl (hb hby at_148) rfl rfl (l' := #[.val (.long x1), .second, .val (.long x2), .second, .val (.long x3), .second, .val (.long x4), .second, .val (.long x5), .second, .val (.int x6), .val (.long b1_), .second, .val (.long b2_), .second, .val (.long b3_), .second, .val (.long b4_), .second, .val (.ref b5), .val (.ref b16), .val (.int (0 : Int32)), .val (.ref lb131)]) rfl k) ?_
      refine own_via (U' := T131.setTop (mkF m 152 #[.val (.long x1), .second, .val (.long x2), .second, .val (.long x3), .second, .val (.long x4), .second, .val (.long x5), .second, .val (.int x6), .val (.long b1_), .second, .val (.long b2_), .second, .val (.long b3_), .second, .val (.long b4_), .second, .val (.ref b5), .val (.ref b16), .val (.int (0 : Int32)), .val (.ref lb131)] [(.ref b5)])) (fun t k => XS.aload X131.here hx rfl (hb hby at_150) rfl rfl k) ?_
      refine own_via (U' := T131.setTop (mkF m 154 #[.val (.long x1), .second, .val (.long x2), .second, .val (.long x3), .second, .val (.long x4), .second, .val (.long x5), .second, .val (.int x6), .val (.long b1_), .second, .val (.long b2_), .second, .val (.long b3_), .second, .val (.long b4_), .second, .val (.ref b5), .val (.ref b16), .val (.int (0 : Int32)), .val (.ref lb131)] [(.ref b16), (.ref b5)])) (fun t k => XS.aload X131.here hx rfl (hb hby at_152) rfl rfl k) ?_
      obtain ⟨_, T144, L144, X144, hQ144, st144⟩ := own_callV X131 hx hZ (y := (⟨"com/example/gridloom/gridloom/index/Counter", "equals", "(Ljava/lang/Object;)Z"⟩ : MethodName)) (W := 0) (C := "com/example/gridloom/gridloom/index/Counter") hown (hw _ (List.mem_of_getElem? (i := 30) rfl)) (hw _ (List.mem_of_getElem? (i := 31) rfl)) (hw _ (List.mem_of_getElem? (i := 33) rfl)) (hw _ (List.mem_of_getElem? (i := 32) rfl)) (hw _ (List.mem_of_getElem? (i := 2) rfl)) (hw _ (List.mem_of_getElem? (i := 34) rfl)) (by decide) (rm_Qe1 l Z a0 hw [] b5 b16 x1 x2 x3 x4 b1_ b2_ b3_ b4_ T131.heap n0 Z143 f138 f134 f135 f136 f137 f139 f140 f141 f142) (by decide) (by decide) rfl f133 (g := (mkF m 154 #[.val (.long x1), .second, .val (.long x2), .second, .val (.long x3), .second, .val (.long x4), .second, .val (.long x5), .second, .val (.int x6), .val (.long b1_), .second, .val (.long b2_), .second, .val (.long b3_), .second, .val (.long b4_), .second, .val (.ref b5), .val (.ref b16), .val (.int (0 : Int32)), .val (.ref lb131)] [(.ref b16), (.ref b5)])) rfl (by rw [hml]; rfl) (argsL := [(.ref b16)]) (rest := []) rfl (lenOf pd_Ljava_lang_Object___Z rfl) rfl (by show 2 * 0 + _ ≤ _; exact Nat.le_of_eq rfl) (hb hby at_154) (by decide) (by decide)
      obtain ⟨rfl, N144q, e144⟩ := hQ144
      have N144 := Fr.app N131 N144q
      refine own_via (U' := T144.setTop (mkF m 157 #[.val (.long x1), .second, .val (.long x2), .second, .val (.long x3), .second, .val (.long x4), .second, .val (.long x5), .second, .val (.int x6), .val (.long b1_), .second, .val (.long b2_), .second, .val (.long b3_), .second, .val (.long b4_), .second, .val (.ref b5), .val (.ref b16), .val (.int (0 : Int32)), .val (.ref lb131)] [(.int (if x1 = b1_ then (if x2 = b2_ then (if x3 = b3_ then (if x4 = b4_ then (1 : Int32) else (0 : Int32)) else (0 : Int32)) else (0 : Int32)) else (0 : Int32)))])) (fun t k => st144 t k) ?_
      refine own_via (U' := T144.setTop (mkF m 159 #[.val (.long x1), .second, .val (.long x2), .second, .val (.long x3), .second, .val (.long x4), .second, .val (.long x5), .second, .val (.int x6), .val (.long b1_), .second, .val (.long b2_), .second, .val (.long b3_), .second, .val (.long b4_), .second, .val (.ref b5), .val (.ref b16), .val (.int (0 : Int32)), .val (.ref lb131)] [(.int (0 : Int32)), (.int (if x1 = b1_ then (if x2 = b2_ then (if x3 = b3_ then (if x4 = b4_ then (1 : Int32) else (0 : Int32)) else (0 : Int32)) else (0 : Int32)) else (0 : Int32)))])) (fun t k => XS.iload X144.here hx rfl (hb hby at_157) rfl k) ?_
      refine own_via (U' := T144.setTop (mkF m 162 #[.val (.long x1), .second, .val (.long x2), .second, .val (.long x3), .second, .val (.long x4), .second, .val (.long x5), .second, .val (.int x6), .val (.long b1_), .second, .val (.long b2_), .second, .val (.long b3_), .second, .val (.long b4_), .second, .val (.ref b5), .val (.ref b16), .val (.int (0 : Int32)), .val (.ref lb131)] [])) (fun t k => XS.icmpNo X144.here hx rfl (hb hby at_159) rfl (teq (by rw [if_neg (fun z => hc38 z.symm)])).2 k) ?_
      refine own_via (U' := T144.setTop (mkF m 164 #[.val (.long x1), .second, .val (.long x2), .second, .val (.long x3), .second, .val (.long x4), .second, .val (.long x5), .second, .val (.int x6), .val (.long b1_), .second, .val (.long b2_), .second, .val (.long b3_), .second, .val (.long b4_), .second, .val (.ref b5), .val (.ref b16), .val (.int (0 : Int32)), .val (.ref lb131)] [(.ref b16)])) (fun t k => XS.aload X144.here hx rfl (hb hby at_162) rfl rfl k) ?_
      refine own_via (U' := T144.setTop (mkF m 166 #[.val (.long x1), .second, .val (.long x2), .second, .val (.long x3), .second, .val (.long x4), .second, .val (.long x5), .second, .val (.int x6), .val (.long b1_), .second, .val (.long b2_), .second, .val (.long b3_), .second, .val (.long b4_), .second, .val (.ref b5), .val (.ref b16), .val (.int (0 : Int32)), .val (.ref lb131)] [(.ref b5), (.ref b16)])) (fun t k => XS.aload X144.here hx rfl (hb hby at_164) rfl rfl k) ?_
      obtain ⟨_, T145, L145, X145, hQ145, st145⟩ := own_callV X144 hx hZ (y := (⟨"com/example/gridloom/gridloom/index/Counter", "equals", "(Ljava/lang/Object;)Z"⟩ : MethodName)) (W := 0) (C := "com/example/gridloom/gridloom/index/Counter") hown (hw _ (List.mem_of_getElem? (i := 30) rfl)) (hw _ (List.mem_of_getElem? (i := 31) rfl)) (hw _ (List.mem_of_getElem? (i := 33) rfl)) (hw _ (List.mem_of_getElem? (i := 32) rfl)) (hw _ (List.mem_of_getElem? (i := 2) rfl)) (hw _ (List.mem_of_getElem? (i := 34) rfl)) (by decide) (rm_Qe1 l Z a0 hw [] b16 b5 b1_ b2_ b3_ b4_ x1 x2 x3 x4 T131.heap n0 Z143 f133 f139 f140 f141 f142 f134 f135 f136 f137) (by decide) (by decide) e144 f138 (g := (mkF m 166 #[.val (.long x1), .second, .val (.long x2), .second, .val (.long x3), .second, .val (.long x4), .second, .val (.long x5), .second, .val (.int x6), .val (.long b1_), .second, .val (.long b2_), .second, .val (.long b3_), .second, .val (.long b4_), .second, .val (.ref b5), .val (.ref b16), .val (.int (0 : Int32)), .val (.ref lb131)] [(.ref b5), (.ref b16)])) rfl (by rw [hml]; rfl) (argsL := [(.ref b5)]) (rest := []) rfl (lenOf pd_Ljava_lang_Object___Z rfl) rfl (by show 2 * 0 + _ ≤ _; exact Nat.le_of_eq rfl) (hb hby at_166) (by decide) (by decide)
      obtain ⟨rfl, N145q, e145⟩ := hQ145
      have N145 := Fr.app N144 N145q
      refine own_via (U' := T145.setTop (mkF m 169 #[.val (.long x1), .second, .val (.long x2), .second, .val (.long x3), .second, .val (.long x4), .second, .val (.long x5), .second, .val (.int x6), .val (.long b1_), .second, .val (.long b2_), .second, .val (.long b3_), .second, .val (.long b4_), .second, .val (.ref b5), .val (.ref b16), .val (.int (0 : Int32)), .val (.ref lb131)] [(.int (if b1_ = x1 then (if b2_ = x2 then (if b3_ = x3 then (if b4_ = x4 then (1 : Int32) else (0 : Int32)) else (0 : Int32)) else (0 : Int32)) else (0 : Int32)))])) (fun t k => st145 t k) ?_
      refine own_via (U' := T145.setTop (mkF m 171 #[.val (.long x1), .second, .val (.long x2), .second, .val (.long x3), .second, .val (.long x4), .second, .val (.long x5), .second, .val (.int x6), .val (.long b1_), .second, .val (.long b2_), .second, .val (.long b3_), .second, .val (.long b4_), .second, .val (.ref b5), .val (.ref b16), .val (.int (0 : Int32)), .val (.ref lb131)] [(.int (0 : Int32)), (.int (if b1_ = x1 then (if b2_ = x2 then (if b3_ = x3 then (if b4_ = x4 then (1 : Int32) else (0 : Int32)) else (0 : Int32)) else (0 : Int32)) else (0 : Int32)))])) (fun t k => XS.iload X145.here hx rfl (hb hby at_169) rfl k) ?_
      refine own_via (U' := T145.setTop (mkF m 174 #[.val (.long x1), .second, .val (.long x2), .second, .val (.long x3), .second, .val (.long x4), .second, .val (.long x5), .second, .val (.int x6), .val (.long b1_), .second, .val (.long b2_), .second, .val (.long b3_), .second, .val (.long b4_), .second, .val (.ref b5), .val (.ref b16), .val (.int (0 : Int32)), .val (.ref lb131)] [])) (fun t k => XS.icmpNo X145.here hx rfl (hb hby at_171) rfl (teq (by rw [if_neg hc38])).2 k) ?_
      refine own_via (U' := T145.setTop (mkF m 176 #[.val (.long x1), .second, .val (.long x2), .second, .val (.long x3), .second, .val (.long x4), .second, .val (.long x5), .second, .val (.int x6), .val (.long b1_), .second, .val (.long b2_), .second, .val (.long b3_), .second, .val (.long b4_), .second, .val (.ref b5), .val (.ref b16), .val (.int (0 : Int32)), .val (.ref lb131)] [(.ref b5)])) (fun t k => XS.aload X145.here hx rfl (hb hby at_174) rfl rfl k) ?_
      refine own_via (U' := T145.setTop (mkF m 178 #[.val (.long x1), .second, .val (.long x2), .second, .val (.long x3), .second, .val (.long x4), .second, .val (.long x5), .second, .val (.int x6), .val (.long b1_), .second, .val (.long b2_), .second, .val (.long b3_), .second, .val (.long b4_), .second, .val (.ref b5), .val (.ref b16), .val (.int (0 : Int32)), .val (.ref lb131)] [(.ref b5), (.ref b5)])) (fun t k => XS.aload X145.here hx rfl (hb hby at_176) rfl rfl k) ?_
      obtain ⟨_, T146, L146, X146, hQ146, st146⟩ := own_callV X145 hx hZ (y := (⟨"com/example/gridloom/gridloom/index/Counter", "equals", "(Ljava/lang/Object;)Z"⟩ : MethodName)) (W := 0) (C := "com/example/gridloom/gridloom/index/Counter") hown (hw _ (List.mem_of_getElem? (i := 30) rfl)) (hw _ (List.mem_of_getElem? (i := 31) rfl)) (hw _ (List.mem_of_getElem? (i := 33) rfl)) (hw _ (List.mem_of_getElem? (i := 32) rfl)) (hw _ (List.mem_of_getElem? (i := 2) rfl)) (hw _ (List.mem_of_getElem? (i := 34) rfl)) (by decide) (rm_Qe1 l Z a0 hw [] b5 b5 x1 x2 x3 x4 x1 x2 x3 x4 T131.heap n0 Z143 f133 f134 f135 f136 f137 f134 f135 f136 f137) (by decide) (by decide) e145 f133 (g := (mkF m 178 #[.val (.long x1), .second, .val (.long x2), .second, .val (.long x3), .second, .val (.long x4), .second, .val (.long x5), .second, .val (.int x6), .val (.long b1_), .second, .val (.long b2_), .second, .val (.long b3_), .second, .val (.long b4_), .second, .val (.ref b5), .val (.ref b16), .val (.int (0 : Int32)), .val (.ref lb131)] [(.ref b5), (.ref b5)])) rfl (by rw [hml]; rfl) (argsL := [(.ref b5)]) (rest := []) rfl (lenOf pd_Ljava_lang_Object___Z rfl) rfl (by show 2 * 0 + _ ≤ _; exact Nat.le_of_eq rfl) (hb hby at_178) (by decide) (by decide)
      obtain ⟨rfl, N146q, e146⟩ := hQ146
      have N146 := Fr.app N145 N146q
      refine own_via (U' := T146.setTop (mkF m 181 #[.val (.long x1), .second, .val (.long x2), .second, .val (.long x3), .second, .val (.long x4), .second, .val (.long x5), .second, .val (.int x6), .val (.long b1_), .second, .val (.long b2_), .second, .val (.long b3_), .second, .val (.long b4_), .second, .val (.ref b5), .val (.ref b16), .val (.int (0 : Int32)), .val (.ref lb131)] [(.int (if x1 = x1 then (if x2 = x2 then (if x3 = x3 then (if x4 = x4 then (1 : Int32) else (0 : Int32)) else (0 : Int32)) else (0 : Int32)) else (0 : Int32)))])) (fun t k => st146 t k) ?_
      refine own_via (U' := T146.setTop (mkF m 184 #[.val (.long x1), .second, .val (.long x2), .second, .val (.long x3), .second, .val (.long x4), .second, .val (.long x5), .second, .val (.int x6), .val (.long b1_), .second, .val (.long b2_), .second, .val (.long b3_), .second, .val (.long b4_), .second, .val (.ref b5), .val (.ref b16), .val (.int (0 : Int32)), .val (.ref lb131)] [])) (fun t k => XS.ifNo X146.here hx rfl (hb hby at_181) rfl ((if0 _ _).trans (feq (by rw [if_pos rfl, if_pos rfl, if_pos rfl, if_pos rfl]; decide)).1) k) ?_
      refine own_via (U' := T146.setTop (mkF m 186 #[.val (.long x1), .second, .val (.long x2), .second, .val (.long x3), .second, .val (.long x4), .second, .val (.long x5), .second, .val (.int x6), .val (.long b1_), .second, .val (.long b2_), .second, .val (.long b3_), .second, .val (.long b4_), .second, .val (.ref b5), .val (.ref b16), .val (.int (0 : Int32)), .val (.ref lb131)] [(.ref b5)])) (fun t k => XS.aload X146.here hx rfl (hb hby at_184) rfl rfl k) ?_
      refine own_via (U' := T146.setTop (mkF m 188 #[.val (.long x1), .second, .val (.long x2), .second, .val (.long x3), .second, .val (.long x4), .second, .val (.long x5), .second, .val (.int x6), .val (.long b1_), .second, .val (.long b2_), .second, .val (.long b3_), .second, .val (.long b4_), .second, .val (.ref b5), .val (.ref b16), .val (.int (0 : Int32)), .val (.ref lb131)] [(.ref lb131), (.ref b5)])) (fun t k => XS.aload X146.here hx rfl (hb hby at_186) rfl rfl k) ?_
      obtain ⟨_, T147, L147, X147, hQ147, st147⟩ := own_callV X146 hx hZ (y := (⟨"com/example/gridloom/gridloom/index/Counter", "equals", "(Ljava/lang/Object;)Z"⟩ : MethodName)) (W := 0) (C := "com/example/gridloom/gridloom/index/Counter") hown (hw _ (List.mem_of_getElem? (i := 30) rfl)) (hw _ (List.mem_of_getElem? (i := 31) rfl)) (hw _ (List.mem_of_getElem? (i := 33) rfl)) (hw _ (List.mem_of_getElem? (i := 32) rfl)) (hw _ (List.mem_of_getElem? (i := 2) rfl)) (hw _ (List.mem_of_getElem? (i := 34) rfl)) (by decide) (rm_Qe3 l Z a0 hw [] b5 lb131 T131.heap n0 Z143 E131q) (by decide) (by decide) e146 f133 (g := (mkF m 188 #[.val (.long x1), .second, .val (.long x2), .second, .val (.long x3), .second, .val (.long x4), .second, .val (.long x5), .second, .val (.int x6), .val (.long b1_), .second, .val (.long b2_), .second, .val (.long b3_), .second, .val (.long b4_), .second, .val (.ref b5), .val (.ref b16), .val (.int (0 : Int32)), .val (.ref lb131)] [(.ref lb131), (.ref b5)])) rfl (by rw [hml]; rfl) (argsL := [(.ref lb131)]) (rest := []) rfl (lenOf pd_Ljava_lang_Object___Z rfl) rfl (by show 2 * 0 + _ ≤ _; exact Nat.le_of_eq rfl) (hb hby at_188) (by decide) (by decide)
      obtain ⟨rfl, N147q, e147⟩ := hQ147
      have N147 := Fr.app N146 N147q
      refine own_via (U' := T147.setTop (mkF m 191 #[.val (.long x1), .second, .val (.long x2), .second, .val (.long x3), .second, .val (.long x4), .second, .val (.long x5), .second, .val (.int x6), .val (.long b1_), .second, .val (.long b2_), .second, .val (.long b3_), .second, .val (.long b4_), .second, .val (.ref b5), .val (.ref b16), .val (.int (0 : Int32)), .val (.ref lb131)] [(.int (0 : Int32))])) (fun t k => st147 t k) ?_
      refine own_via (U' := T147.setTop (mkF m 194 #[.val (.long x1), .second, .val (.long x2), .second, .val (.long x3), .second, .val (.long x4), .second, .val (.long x5), .second, .val (.int x6), .val (.long b1_), .second, .val (.long b2_), .second, .val (.long b3_), .second, .val (.long b4_), .second, .val (.ref b5), .val (.ref b16), .val (.int (0 : Int32)), .val (.ref lb131)] [])) (fun t k => XS.ifNo X147.here hx rfl (hb hby at_191) rfl ((if0 _ _).trans (teq (by decide : ((0 : Int32) = (0 : Int32)))).2) k) ?_
      refine own_via (U' := T147.setTop (mkF m 195 #[.val (.long x1), .second, .val (.long x2), .second, .val (.long x3), .second, .val (.long x4), .second, .val (.long x5), .second, .val (.int x6), .val (.long b1_), .second, .val (.long b2_), .second, .val (.long b3_), .second, .val (.long b4_), .second, .val (.ref b5), .val (.ref b16), .val (.int (0 : Int32)), .val (.ref lb131)] [(.int (1 : Int32))])) (fun t k => XS.iconst X147.here hx rfl (hb hby at_194) k) ?_
      refine own_via (U' := T147.setTop (mkF m 199 #[.val (.long x1), .second, .val (.long x2), .second, .val (.long x3), .second, .val (.long x4), .second, .val (.long x5), .second, .val (.int x6), .val (.long b1_), .second, .val (.long b2_), .second, .val (.long b3_), .second, .val (.long b4_), .second, .val (.ref b5), .val (.ref b16), .val (.int (0 : Int32)), .val (.ref lb131)] [(.int (1 : Int32))])) (fun t k => XS.goto X147.here hx rfl (pc0 := 195) (pc' := 199) rfl (hb hby at_195) (by decide) (by decide) k) ?_
      exact own_ret X147 (v := some (.int (1 : Int32))) (fun h => by rw [Bd.returns] at h; cases h) hlk (fun fs hr => retN X147 hx (t := .boolean) Bd.returns (by simp) (hb hby at_199) hr) (by rw [e147]; exact ⟨rfl, N147⟩) (by decide) (by decide)
    case neg =>
      refine own_via (U' := T29.setTop (mkF m 140 #[.val (.long x1), .second, .val (.long x2), .second, .val (.long x3), .second, .val (.long x4), .second, .val (.long x5), .second, .val (.int x6), .val (.long b1_), .second, .val (.long b2_), .second, .val (.long b3_), .second, .val (.long b4_), .second, .val (.ref b5), .val (.ref b16), .val (.int (0 : Int32)), .unset] [])) (fun t k => XS.ifNo X29.here hx rfl (hb hby at_137) rfl ((if0 _ _).trans (feq hc130).1) k) ?_
      refine own_via (U' := T29.setTop (mkF m 141 #[.val (.long x1), .second, .val (.long x2), .second, .val (.long x3), .second, .val (.long x4), .second, .val (.long x5), .second, .val (.int x6), .val (.long b1_), .second, .val (.long b2_), .second, .val (.long b3_), .second, .val (.long b4_), .second, .val (.ref b5), .val (.ref b16), .val (.int (0 : Int32)), .unset] [.null])) (fun t k => XS.aconstNull X29.here hx rfl (hb hby at_140) k) ?_
      refine own_via (U' := T29.setTop (mkF m 148 #[.val (.long x1), .second, .val (.long x2), .second, .val (.long x3), .second, .val (.long x4), .second, .val (.long x5), .second, .val (.int x6), .val (.long b1_), .second, .val (.long b2_), .second, .val (.long b3_), .second, .val (.long b4_), .second, .val (.ref b5), .val (.ref b16), .val (.int (0 : Int32)), .unset] [.null])) (fun t k => XS.goto X29.here hx rfl (pc0 := 141) (pc' := 148) rfl (hb hby at_141) (by decide) (by decide) k) ?_
      refine own_via (U' := T29.setTop (mkF m 150 #[.val (.long x1), .second, .val (.long x2), .second, .val (.long x3), .second, .val (.long x4), .second, .val (.long x5), .second, .val (.int x6), .val (.long b1_), .second, .val (.long b2_), .second, .val (.long b3_), .second, .val (.long b4_), .second, .val (.ref b5), .val (.ref b16), .val (.int (0 : Int32)), .val .null] [])) (fun t k => XS.astore X29.here hx rfl (hb hby at_148) rfl rfl (l' := #[.val (.long x1), .second, .val (.long x2), .second, .val (.long x3), .second, .val (.long x4), .second, .val (.long x5), .second, .val (.int x6), .val (.long b1_), .second, .val (.long b2_), .second, .val (.long b3_), .second, .val (.long b4_), .second, .val (.ref b5), .val (.ref b16), .val (.int (0 : Int32)), .val .null]) rfl k) ?_
      refine own_via (U' := T29.setTop (mkF m 152 #[.val (.long x1), .second, .val (.long x2), .second, .val (.long x3), .second, .val (.long x4), .second, .val (.long x5), .second, .val (.int x6), .val (.long b1_), .second, .val (.long b2_), .second, .val (.long b3_), .second, .val (.long b4_), .second, .val (.ref b5), .val (.ref b16), .val (.int (0 : Int32)), .val .null] [(.ref b5)])) (fun t k => XS.aload X29.here hx rfl (hb hby at_150) rfl rfl k) ?_
      refine own_via (U' := T29.setTop (mkF m 154 #[.val (.long x1), .second, .val (.long x2), .second, .val (.long x3), .second, .val (.long x4), .second, .val (.long x5), .second, .val (.int x6), .val (.long b1_), .second, .val (.long b2_), .second, .val (.long b3_), .second, .val (.long b4_), .second, .val (.ref b5), .val (.ref b16), .val (.int (0 : Int32)), .val .null] [(.ref b16), (.ref b5)])) (fun t k => XS.aload X29.here hx rfl (hb hby at_152) rfl rfl k) ?_
      obtain ⟨_, T148, L148, X148, hQ148, st148⟩ := own_callV X29 hx hZ (y := (⟨"com/example/gridloom/gridloom/index/Counter", "equals", "(Ljava/lang/Object;)Z"⟩ : MethodName)) (W := 0) (C := "com/example/gridloom/gridloom/index/Counter") hown (hw _ (List.mem_of_getElem? (i := 30) rfl)) (hw _ (List.mem_of_getElem? (i := 31) rfl)) (hw _ (List.mem_of_getElem? (i := 33) rfl)) (hw _ (List.mem_of_getElem? (i := 32) rfl)) (hw _ (List.mem_of_getElem? (i := 2) rfl)) (hw _ (List.mem_of_getElem? (i := 34) rfl)) (by decide) (rm_Qe1 l Z a0 hw [] b5 b16 x1 x2 x3 x4 b1_ b2_ b3_ b4_ T29.heap n0 Z37 E29q f32 f33 f34 f35 F29q0 F29q1 F29q2 F29q3) (by decide) (by decide) rfl f31 (g := (mkF m 154 #[.val (.long x1), .second, .val (.long x2), .second, .val (.long x3), .second, .val (.long x4), .second, .val (.long x5), .second, .val (.int x6), .val (.long b1_), .second, .val (.long b2_), .second, .val (.long b3_), .second, .val (.long b4_), .second, .val (.ref b5), .val (.ref b16), .val (.int (0 : Int32)), .val .null] [(.ref b16), (.ref b5)])) rfl (by rw [hml]; rfl) (argsL := [(.ref b16)]) (rest := []) rfl (lenOf pd_Ljava_lang_Object___Z rfl) rfl (by show 2 * 0 + _ ≤ _; exact Nat.le_of_eq rfl) (hb hby at_154) (by decide) (by decide)
      obtain ⟨rfl, N148q, e148⟩ := hQ148
      have N148 := Fr.app N29 N148q
      refine own_via (U' := T148.setTop (mkF m 157 #[.val (.long x1), .second, .val (.long x2), .second, .val (.long x3), .second, .val (.long x4), .second, .val (.long x5), .second, .val (.int x6), .val (.long b1_), .second, .val (.long b2_), .second, .val (.long b3_), .second, .val (.long b4_), .second, .val (.ref b5), .val (.ref b16), .val (.int (0 : Int32)), .val .null] [(.int (if x1 = b1_ then (if x2 = b2_ then (if x3 = b3_ then (if x4 = b4_ then (1 : Int32) else (0 : Int32)) else (0 : Int32)) else (0 : Int32)) else (0 : Int32)))])) (fun t k => st148 t k) ?_
      refine own_via (U' := T148.setTop (mkF m 159 #[.val (.long x1), .second, .val (.long x2), .second, .val (.long x3), .second, .val (.long x4), .second, .val (.long x5), .second, .val (.int x6), .val (.long b1_), .second, .val (.long b2_), .second, .val (.long b3_), .second, .val (.long b4_), .second, .val (.ref b5), .val (.ref b16), .val (.int (0 : Int32)), .val .null] [(.int (0 : Int32)), (.int (if x1 = b1_ then (if x2 = b2_ then (if x3 = b3_ then (if x4 = b4_ then (1 : Int32) else (0 : Int32)) else (0 : Int32)) else (0 : Int32)) else (0 : Int32)))])) (fun t k => XS.iload X148.here hx rfl (hb hby at_157) rfl k) ?_
      refine own_via (U' := T148.setTop (mkF m 162 #[.val (.long x1), .second, .val (.long x2), .second, .val (.long x3), .second, .val (.long x4), .second, .val (.long x5), .second, .val (.int x6), .val (.long b1_), .second, .val (.long b2_), .second, .val (.long b3_), .second, .val (.long b4_), .second, .val (.ref b5), .val (.ref b16), .val (.int (0 : Int32)), .val .null] [])) (fun t k => XS.icmpNo X148.here hx rfl (hb hby at_159) rfl (teq (by rw [if_neg (fun z => hc38 z.symm)])).2 k) ?_
      refine own_via (U' := T148.setTop (mkF m 164 #[.val (.long x1), .second, .val (.long x2), .second, .val (.long x3), .second, .val (.long x4), .second, .val (.long x5), .second, .val (.int x6), .val (.long b1_), .second, .val (.long b2_), .second, .val (.long b3_), .second, .val (.long b4_), .second, .val (.ref b5), .val (.ref b16), .val (.int (0 : Int32)), .val .null] [(.ref b16)])) (fun t k => XS.aload X148.here hx rfl (hb hby at_162) rfl rfl k) ?_
      refine own_via (U' := T148.setTop (mkF m 166 #[.val (.long x1), .second, .val (.long x2), .second, .val (.long x3), .second, .val (.long x4), .second, .val (.long x5), .second, .val (.int x6), .val (.long b1_), .second, .val (.long b2_), .second, .val (.long b3_), .second, .val (.long b4_), .second, .val (.ref b5), .val (.ref b16), .val (.int (0 : Int32)), .val .null] [(.ref b5), (.ref b16)])) (fun t k => XS.aload X148.here hx rfl (hb hby at_164) rfl rfl k) ?_
      obtain ⟨_, T149, L149, X149, hQ149, st149⟩ := own_callV X148 hx hZ (y := (⟨"com/example/gridloom/gridloom/index/Counter", "equals", "(Ljava/lang/Object;)Z"⟩ : MethodName)) (W := 0) (C := "com/example/gridloom/gridloom/index/Counter") hown (hw _ (List.mem_of_getElem? (i := 30) rfl)) (hw _ (List.mem_of_getElem? (i := 31) rfl)) (hw _ (List.mem_of_getElem? (i := 33) rfl)) (hw _ (List.mem_of_getElem? (i := 32) rfl)) (hw _ (List.mem_of_getElem? (i := 2) rfl)) (hw _ (List.mem_of_getElem? (i := 34) rfl)) (by decide) (rm_Qe1 l Z a0 hw [] b16 b5 b1_ b2_ b3_ b4_ x1 x2 x3 x4 T29.heap n0 Z37 f31 F29q0 F29q1 F29q2 F29q3 f32 f33 f34 f35) (by decide) (by decide) e148 E29q (g := (mkF m 166 #[.val (.long x1), .second, .val (.long x2), .second, .val (.long x3), .second, .val (.long x4), .second, .val (.long x5), .second, .val (.int x6), .val (.long b1_), .second, .val (.long b2_), .second, .val (.long b3_), .second, .val (.long b4_), .second, .val (.ref b5), .val (.ref b16), .val (.int (0 : Int32)), .val .null] [(.ref b5), (.ref b16)])) rfl (by rw [hml]; rfl) (argsL := [(.ref b5)]) (rest := []) rfl (lenOf pd_Ljava_lang_Object___Z rfl) rfl (by show 2 * 0 + _ ≤ _; exact Nat.le_of_eq rfl) (hb hby at_166) (by decide) (by decide)
      obtain ⟨rfl, N149q, e149⟩ := hQ149
      have N149 := Fr.app N148 N149q
      refine own_via (U' := T149.setTop (mkF m 169 #[.val (.long x1), .second, .val (.long x2), .second, .val (.long x3), .second, .val (.long x4), .second, .val (.long x5), .second, .val (.int x6), .val (.long b1_), .second, .val (.long b2_), .second, .val (.long b3_), .second, .val (.long b4_), .second, .val (.ref b5), .val (.ref b16), .val (.int (0 : Int32)), .val .null] [(.int (if b1_ = x1 then (if b2_ = x2 then (if b3_ = x3 then (if b4_ = x4 then (1 : Int32) else (0 : Int32)) else (0 : Int32)) else (0 : Int32)) else (0 : Int32)))])) (fun t k => st149 t k) ?_
      refine own_via (U' := T149.setTop (mkF m 171 #[.val (.long x1), .second, .val (.long x2), .second, .val (.long x3), .second, .val (.long x4), .second, .val (.long x5), .second, .val (.int x6), .val (.long b1_), .second, .val (.long b2_), .second, .val (.long b3_), .second, .val (.long b4_), .second, .val (.ref b5), .val (.ref b16), .val (.int (0 : Int32)), .val .null] [(.int (0 : Int32)), (.int (if b1_ = x1 then (if b2_ = x2 then (if b3_ = x3 then (if b4_ = x4 then (1 : Int32) else (0 : Int32)) else (0 : Int32)) else (0 : Int32)) else (0 : Int32)))])) (fun t k => XS.iload X149.here hx rfl (hb hby at_169) rfl k) ?_
      refine own_via (U' := T149.setTop (mkF m 174 #[.val (.long x1), .second, .val (.long x2), .second, .val (.long x3), .second, .val (.long x4), .second, .val (.long x5), .second, .val (.int x6), .val (.long b1_), .second, .val (.long b2_), .second, .val (.long b3_), .second, .val (.long b4_), .second, .val (.ref b5), .val (.ref b16), .val (.int (0 : Int32)), .val .null] [])) (fun t k => XS.icmpNo X149.here hx rfl (hb hby at_171) rfl (teq (by rw [if_neg hc38])).2 k) ?_
      refine own_via (U' := T149.setTop (mkF m 176 #[.val (.long x1), .second, .val (.long x2), .second, .val (.long x3), .second, .val (.long x4), .second, .val (.long x5), .second, .val (.int x6), .val (.long b1_), .second, .val (.long b2_), .second, .val (.long b3_), .second, .val (.long b4_), .second, .val (.ref b5), .val (.ref b16), .val (.int (0 : Int32)), .val .null] [(.ref b5)])) (fun t k => XS.aload X149.here hx rfl (hb hby at_174) rfl rfl k) ?_
      refine own_via (U' := T149.setTop (mkF m 178 #[.val (.long x1), .second, .val (.long x2), .second, .val (.long x3), .second, .val (.long x4), .second, .val (.long x5), .second, .val (.int x6), .val (.long b1_), .second, .val (.long b2_), .second, .val (.long b3_), .second, .val (.long b4_), .second, .val (.ref b5), .val (.ref b16), .val (.int (0 : Int32)), .val .null] [(.ref b5), (.ref b5)])) (fun t k => XS.aload X149.here hx rfl (hb hby at_176) rfl rfl k) ?_
      obtain ⟨_, T150, L150, X150, hQ150, st150⟩ := own_callV X149 hx hZ (y := (⟨"com/example/gridloom/gridloom/index/Counter", "equals", "(Ljava/lang/Object;)Z"⟩ : MethodName)) (W := 0) (C := "com/example/gridloom/gridloom/index/Counter") hown (hw _ (List.mem_of_getElem? (i := 30) rfl)) (hw _ (List.mem_of_getElem? (i := 31) rfl)) (hw _ (List.mem_of_getElem? (i := 33) rfl)) (hw _ (List.mem_of_getElem? (i := 32) rfl)) (hw _ (List.mem_of_getElem? (i := 2) rfl)) (hw _ (List.mem_of_getElem? (i := 34) rfl)) (by decide) (rm_Qe1 l Z a0 hw [] b5 b5 x1 x2 x3 x4 x1 x2 x3 x4 T29.heap n0 Z37 f31 f32 f33 f34 f35 f32 f33 f34 f35) (by decide) (by decide) e149 f31 (g := (mkF m 178 #[.val (.long x1), .second, .val (.long x2), .second, .val (.long x3), .second, .val (.long x4), .second, .val (.long x5), .second, .val (.int x6), .val (.long b1_), .second, .val (.long b2_), .second, .val (.long b3_), .second, .val (.long b4_), .second, .val (.ref b5), .val (.ref b16), .val (.int (0 : Int32)), .val .null] [(.ref b5), (.ref b5)])) rfl (by rw [hml]; rfl) (argsL := [(.ref b5)]) (rest := []) rfl (lenOf pd_Ljava_lang_Object___Z rfl) rfl (by show 2 * 0 + _ ≤ _; exact Nat.le_of_eq rfl) (hb hby at_178) (by decide) (by decide)
      obtain ⟨rfl, N150q, e150⟩ := hQ150
      have N150 := Fr.app N149 N150q
      refine own_via (U' := T150.setTop (mkF m 181 #[.val (.long x1), .second, .val (.long x2), .second, .val (.long x3), .second, .val (.long x4), .second, .val (.long x5), .second, .val (.int x6), .val (.long b1_), .second, .val (.long b2_), .second, .val (.long b3_), .second, .val (.long b4_), .second, .val (.ref b5), .val (.ref b16), .val (.int (0 : Int32)), .val .null] [(.int (if x1 = x1 then (if x2 = x2 then (if x3 = x3 then (if x4 = x4 then (1 : Int32) else (0 : Int32)) else (0 : Int32)) else (0 : Int32)) else (0 : Int32)))])) (fun t k => st150 t k) ?_
      refine own_via (U' := T150.setTop (mkF m 184 #[.val (.long x1), .second, .val (.long x2), .second, .val (.long x3), .second, .val (.long x4), .second, .val (.long x5), .second, .val (.int x6), .val (.long b1_), .second, .val (.long b2_), .second, .val (.long b3_), .second, .val (.long b4_), .second, .val (.ref b5), .val (.ref b16), .val (.int (0 : Int32)), .val .null] [])) (fun t k => XS.ifNo X150.here hx rfl (hb hby at_181) rfl ((if0 _ _).trans (feq (by rw [if_pos rfl, if_pos rfl, if_pos rfl, if_pos rfl]; decide)).1) k) ?_
      refine own_via (U' := T150.setTop (mkF m 186 #[.val (.long x1), .second, .val (.long x2), .second, .val (.long x3), .second, .val (.long x4), .second, .val (.long x5), .second, .val (.int x6), .val (.long b1_), .second, .val (.long b2_), .second, .val (.long b3_), .second, .val (.long b4_), .second, .val (.ref b5), .val (.ref b16), .val (.int (0 : Int32)), .val .null] [(.ref b5)])) (fun t k => XS.aload X150.here hx rfl (hb hby at_184) rfl rfl k) ?_
      refine own_via (U' := T150.setTop (mkF m 188 #[.val (.long x1), .second, .val (.long x2), .second, .val (.long x3), .second, .val (.long x4), .second, .val (.long x5), .second, .val (.int x6), .val (.long b1_), .second, .val (.long b2_), .second, .val (.long b3_), .second, .val (.long b4_), .second, .val (.ref b5), .val (.ref b16), .val (.int (0 : Int32)), .val .null] [.null, (.ref b5)])) (fun t k => XS.aload X150.here hx rfl (hb hby at_186) rfl rfl k) ?_
      obtain ⟨_, T151, L151, X151, hQ151, st151⟩ := own_callV X150 hx hZ (y := (⟨"com/example/gridloom/gridloom/index/Counter", "equals", "(Ljava/lang/Object;)Z"⟩ : MethodName)) (W := 0) (C := "com/example/gridloom/gridloom/index/Counter") hown (hw _ (List.mem_of_getElem? (i := 30) rfl)) (hw _ (List.mem_of_getElem? (i := 31) rfl)) (hw _ (List.mem_of_getElem? (i := 33) rfl)) (hw _ (List.mem_of_getElem? (i := 32) rfl)) (hw _ (List.mem_of_getElem? (i := 2) rfl)) (hw _ (List.mem_of_getElem? (i := 34) rfl)) (by decide) (rm_Qe2 l Z a0 hw [] b5 T29.heap n0 Z37) (by decide) (by decide) e150 f31 (g := (mkF m 188 #[.val (.long x1), .second, .val (.long x2), .second, .val (.long x3), .second, .val (.long x4), .second, .val (.long x5), .second, .val (.int x6), .val (.long b1_), .second, .val (.long b2_), .second, .val (.long b3_), .second, .val (.long b4_), .second, .val (.ref b5), .val (.ref b16), .val (.int (0 : Int32)), .val .null] [.null, (.ref b5)])) rfl (by rw [hml]; rfl) (argsL := [.null]) (rest := []) rfl (lenOf pd_Ljava_lang_Object___Z rfl) rfl (by show 2 * 0 + _ ≤ _; exact Nat.le_of_eq rfl) (hb hby at_188) (by decide) (by decide)
      obtain ⟨rfl, N151q, e151⟩ := hQ151
      have N151 := Fr.app N150 N151q
      refine own_via (U' := T151.setTop (mkF m 191 #[.val (.long x1), .second, .val (.long x2), .second, .val (.long x3), .second, .val (.long x4), .second, .val (.long x5), .second, .val (.int x6), .val (.long b1_), .second, .val (.long b2_), .second, .val (.long b3_), .second, .val (.long b4_), .second, .val (.ref b5), .val (.ref b16), .val (.int (0 : Int32)), .val .null] [(.int (0 : Int32))])) (fun t k => st151 t k) ?_
      refine own_via (U' := T151.setTop (mkF m 194 #[.val (.long x1), .second, .val (.long x2), .second, .val (.long x3), .second, .val (.long x4), .second, .val (.long x5), .second, .val (.int x6), .val (.long b1_), .second, .val (.long b2_), .second, .val (.long b3_), .second, .val (.long b4_), .second, .val (.ref b5), .val (.ref b16), .val (.int (0 : Int32)), .val .null] [])) (fun t k => XS.ifNo X151.here hx rfl (hb hby at_191) rfl ((if0 _ _).trans (teq (by decide : ((0 : Int32) = (0 : Int32)))).2) k) ?_
      refine own_via (U' := T151.setTop (mkF m 195 #[.val (.long x1), .second, .val (.long x2), .second, .val (.long x3), .second, .val (.long x4), .second, .val (.long x5), .second, .val (.int x6), .val (.long b1_), .second, .val (.long b2_), .second, .val (.long b3_), .second, .val (.long b4_), .second, .val (.ref b5), .val (.ref b16), .val (.int (0 : Int32)), .val .null] [(.int (1 : Int32))])) (fun t k => XS.iconst X151.here hx rfl (hb hby at_194) k) ?_
      refine own_via (U' := T151.setTop (mkF m 199 #[.val (.long x1), .second, .val (.long x2), .second, .val (.long x3), .second, .val (.long x4), .second, .val (.long x5), .second, .val (.int x6), .val (.long b1_), .second, .val (.long b2_), .second, .val (.long b3_), .second, .val (.long b4_), .second, .val (.ref b5), .val (.ref b16), .val (.int (0 : Int32)), .val .null] [(.int (1 : Int32))])) (fun t k => XS.goto X151.here hx rfl (pc0 := 195) (pc' := 199) rfl (hb hby at_195) (by decide) (by decide) k) ?_
      exact own_ret X151 (v := some (.int (1 : Int32))) (fun h => by rw [Bd.returns] at h; cases h) hlk (fun fs hr => retN X151 hx (t := .boolean) Bd.returns (by simp) (hb hby at_199) hr) (by rw [e151]; exact ⟨rfl, N151⟩) (by decide) (by decide)
set_option maxRecDepth 65536 in
set_option maxHeartbeats 40000000 in
theorem comes_1 {Post : Tables → Env → Array Value → State → Outcome → State → Prop} (hpost : ∀ tb e args s v u, (limb_1_1.after args s (.returned v) u = true ∧ limb_1_2.after args s (.returned v) u = true ∧ True) → FrameEnd s (.returned v) u (Jvm.fieldLocs frame_1_writes args s ++ Jvm.arrayLocs frame_1_arrays args s ++ Jvm.staticLocs frame_1_statics s) 16 128 → Post tb e args s (.returned v) u) :
    ArmFor flags0 classFile x code maxLocals ret World_1 tables_1 room_1 Calls_1 rest_1 Pre_1 Post := by
  intro l hfl _ _ p e ha hc hk s m args below hf hA hF happ hP
  obtain ⟨hcalls, hrest, hpre⟩ := hP
  obtain ⟨-, -, -, hnamed, -, -, -, hat⟩ := (Spec.applies_iff hf).mp happ
  obtain ⟨hg, hn⟩ := and_e (Cond.before_iff.mp (show (Jvm.Cond.and given_1 narrow_1).before args s = true from hpre))
  obtain ⟨hcount, r0⟩ := and_e hg
  obtain ⟨k0, r1⟩ := and_e r0
  obtain ⟨k1, r2⟩ := and_e r1
  obtain ⟨k2, r3⟩ := and_e r2
  obtain ⟨k3, r4⟩ := and_e r3
  obtain ⟨k4, r5⟩ := and_e r4
  obtain ⟨w0, w1, w2, w3, w4, w5, rfl⟩ : ∃ w0 w1 w2 w3 w4 w5 : Value, args = #[w0, w1, w2, w3, w4, w5] := by
    have hs : args.size = 6 := by simpa [Cond.value, given_1] using hcount
    obtain ⟨L⟩ := args
    match L, hs with
    | [w0, w1, w2, w3, w4, w5], _ => exact ⟨w0, w1, w2, w3, w4, w5, rfl⟩
  have hw := fun d (hd : d ∈ tables_1) => atoms_spec (ws := Jvm.Cond.code x code maxLocals ret :: tables_1) hat d (List.mem_cons_of_mem _ hd)
  have hfit : Fit s := fun {y c} hc i hi => by
    obtain ⟨ha, rfl⟩ := Array.getElem?_eq_some_iff.mp hc
    have q := List.all_eq_true.mp ((Array.all_eq_true_iff_forall_mem.mp hF) _ (Array.getElem_mem ha)) i (List.mem_range.mpr hi)
    simpa [Array.getElem?_eq_getElem hi] using q
  obtain ⟨hsets, hown0⟩ := atoms_of _ (rest_1_c_eq ▸ (show rest_1_c.before _ s = true from hrest))
  have hr0 := Cond.before_iff.mp hown0
  obtain ⟨i0, ei0⟩ := isL_v k0
  obtain rfl : w0 = (.long i0) := Option.some.inj ei0
  obtain ⟨i1, ei1⟩ := isL_v k1
  obtain rfl : w1 = (.long i1) := Option.some.inj ei1
  obtain ⟨i2, ei2⟩ := isL_v k2
  obtain rfl : w2 = (.long i2) := Option.some.inj ei2
  obtain ⟨i3, ei3⟩ := isL_v k3
  obtain rfl : w3 = (.long i3) := Option.some.inj ei3
  obtain ⟨i4, ei4⟩ := isL_v k4
  obtain rfl : w4 = (.long i4) := Option.some.inj ei4
  obtain ⟨i5, ei5⟩ := is_v r5
  obtain rfl : w5 = (.int i5) := Option.some.inj ei5
  have na := Cond.before_iff.mp (hsets _ (List.mem_of_getElem? (i := 3) rfl))
  obtain ⟨ca, v0⟩ := exa_v na
  have Sc := Sta.start v0 (Or.inl (hsets _ (List.mem_of_getElem? (i := 1) rfl)))
  obtain ⟨cl, Ac⟩ := Arr.start v0 (Cond.before_iff.mp (hsets _ (List.mem_of_getElem? (i := 2) rfl)))
  have hlen := Cond.before_iff.mp (hsets _ (List.mem_of_getElem? (i := 4) rfl))
  obtain ⟨lv, ly, le1, le2, -, -⟩ := cmp_v (Or.inl hlen)
  obtain ⟨la, lc, lf1, lf2, rfl⟩ := Term.length_spec le1
  have lg := eqv_i (Term.int_eval (256 : Int32)) hlen
  cases v0.symm.trans lf1
  cases (Ac.fin (Vm.Alike.refl _)).symm.trans lf2
  have l256 : cl.slots.size.toInt32 = (256 : Int32) := Value.int.inj (Option.some.inj (le1.symm.trans lg))
  have lsz : cl.slots.size < 2 ^ 31 := own_lsz v0 (Ac.fin (Vm.Alike.refl _)) le1
  have Bx := Bxs.start (K := "java/lang/Long") (d := "J") (z := (256 : Int32)) (val := fun j => .long ((j - (128 : Int32)).toInt64)) (fun _ => v0) Ac lsz l256 (by decide) (Cond.before_iff.mp (hsets _ (List.mem_of_getElem? (i := 5) rfl))) (fun X j hj h => eqv_l (i2l_at (by simp [Term.eval, own_idx hj])) h)
  obtain ⟨n, o, h1, h2, h3, _, L, rfl, ⟨rfl, N⟩, hq⟩ := rm_Q0 l s _ hw tables_1 i0 i1 i2 i3 i4 i5 ca cl s.heap s.heap.size (Nat.le_refl _) (Old.start s) Sc Bx p e ha hc hk s m _ below hf ((Spec.applies_iff_loose hf).mp happ).1 ⟨rfl, State.Warmed39.refl s, rfl⟩ trivial
  refine ⟨n, _, h1, h2, h3, hpost _ _ _ _ _ _ ⟨Cond.after_iff.mpr rfl, Cond.after_iff.mpr (eq_i res_at (Term.int_eval (1)) rfl), trivial⟩ ⟨hq.1, hq.2.1, (hq.2.2.sift fun y hy => Or.inr (N y hy)).mono (by decide) (by decide)⟩⟩
theorem main_1_1 : Claimed_1_1 := comes_1 fun _ _ _ _ _ _ h hF => ⟨h.1, hF⟩
theorem main_1_2 : Claimed_1_2 := comes_1 fun _ _ _ _ _ _ h hF => ⟨h.2.1, hF⟩
end Jvm.Pilot.@@N@@
namespace Jvm.Pilot.@@N@@
open Jvm Jvm.ClassFile Sem Op Lib Jvm.Free Jvm.Stand Jvm.Pilot.@@N@@.Jvm.D
/-! MADE BY PROGRAM (witnessworld.py) out of the Statement's table words and the real class files: 17 classes; the members and pool entries that the words name. The judged class is class 1, her method 1. -/
namespace start1
open Jvm.ClassFile
def u (s : String) : CpInfo := .utf8 (stringToUtf16 s)
/-- a pool by its gaps: so many unusable entries, then the entry; so many at the end -/
def gap : Nat → List CpInfo → List CpInfo
  | 0, r => r
  | n + 1, r => .unusable :: gap n r
def poolList (es : List (Nat × CpInfo)) (last : Nat) : List CpInfo := es.foldr (fun e r => gap e.1 (e.2 :: r)) (gap last [])
def pool (es : List (Nat × CpInfo)) (last : Nat) : Array CpInfo := ⟨poolList es last⟩
def fileOf (pool : Array CpInfo) (this : Nat) (attrs : Array Attribute := #[]) (ms : Array MethodInfo := #[]) (fl : Nat := 33) (sup : Nat := 0) (ifs : Array Nat := #[]) (fds : Array FieldInfo := #[]) : ClassFile where
  minorVersion := 0
  majorVersion := 65
  constantPool := pool
  accessFlags := fl
  thisClass := this
  superClass := sup
  interfaces := ifs
  fields := fds
  methods := ms
  attributes := attrs
def plain (name : String) (sup : Option ClassId) : Class where
  name := name
  kind := .ordinary
  loader := none
  accessFlags := 33
  super := sup
  interfaces := #[]
  cf := none
  fields := #[]
  methods := #[]
  instanceTypes := #[]
  staticTypes := #[]
  resolved := #[]
  callSites := []
  init := .initialized
  statics := none
  mirror := none

def pool0 : Array CpInfo := pool [(5, u "<init>"), (0, u "()V"), (1, .class_ 10), (1, u "java/lang/Object")] 113

def k0c0 : Code := { maxStack := 0, maxLocals := 1, code := object_method_1_code, exceptionTable := #[], attributes := #[] }
def k0m0 : Method := { name := "<init>", desc := "()V", sig := { parameters := [], returnType := none }, accessFlags := 1, code := some k0c0 }
/-- java/lang/Object -/
def k0 : Class := { plain "java/lang/Object" none with
  accessFlags := 33
  interfaces := #[]
  cf := some (fileOf pool0 8 #[] #[{ accessFlags := 1, nameIndex := 5, descriptorIndex := 6, attributes := #[] }] 33 0 #[] #[])
  fields := #[]
  methods := #[k0m0]
  instanceTypes := #[]
  staticTypes := #[]
  resolved := Array.replicate 124 none
  statics := none }

def pool1 : Array CpInfo := pool [(2, .class_ 4), (1, u "java/lang/Object"), (0, u "<init>"), (0, u "()V"), (0, .class_ 8), (0, u "com/example/gridloom/gridloom/index/Counter"), (0, .methodref 7 10), (0, .nameAndType 5 11), (0, u "(JJJJ)V"), (0, .methodref 13 14), (0, .class_ 15), (0, .nameAndType 16 17), (0, u "java/lang/Long"), (0, u "valueOf"), (0, u "(J)Ljava/lang/Long;"), (0, .methodref 7 19), (0, .nameAndType 20 21), (0, u "equals"), (0, u "(Ljava/lang/Object;)Z"), (0, .class_ 23), (0, u "com/example/gridloom/gridloom/index/CounterEqualsPinLaw"), (2, u "law"), (0, u "(JJJJJI)Z")] 3

def k1m0 : Method := { name := "<init>", desc := "()V", sig := { parameters := [], returnType := none }, accessFlags := 1, code := none }
def k1c1 : Code := { maxStack := 10, maxLocals := 23, code := code, exceptionTable := #[], attributes := #[] }
def k1m1 : Method := { name := "law", desc := "(JJJJJI)Z", sig := { parameters := [.long, .long, .long, .long, .long, .int], returnType := some .boolean }, accessFlags := 9, code := some k1c1 }
/-- com/example/gridloom/gridloom/index/CounterEqualsPinLaw -/
def k1 : Class := { plain "com/example/gridloom/gridloom/index/CounterEqualsPinLaw" (some 0) with
  accessFlags := 49
  interfaces := #[]
  cf := some (fileOf pool1 22 #[] #[{ accessFlags := 1, nameIndex := 5, descriptorIndex := 6, attributes := #[] }, { accessFlags := 9, nameIndex := 26, descriptorIndex := 27, attributes := #[] }] 49 2 #[] #[])
  fields := #[]
  methods := #[k1m0, k1m1]
  instanceTypes := #[]
  staticTypes := #[]
  resolved := Array.replicate 31 none
  statics := none }

def pool2 : Array CpInfo := pool [(1, .methodref 2 3), (0, .class_ 4), (0, .nameAndType 5 6), (0, u "java/lang/Object"), (0, u "<init>"), (0, u "()V"), (0, .class_ 8), (0, u "java/lang/Record")] 13

def k2c0 : Code := { maxStack := 1, maxLocals := 1, code := jdk_30_method_1_code, exceptionTable := #[], attributes := #[] }
def k2m0 : Method := { name := "<init>", desc := "()V", sig := { parameters := [], returnType := none }, accessFlags := 4, code := some k2c0 }
/-- java/lang/Record -/
def k2 : Class := { plain "java/lang/Record" (some 0) with
  accessFlags := 1057
  interfaces := #[]
  cf := some (fileOf pool2 7 #[] #[{ accessFlags := 4, nameIndex := 5, descriptorIndex := 6, attributes := #[] }] 1057 2 #[] #[])
  fields := #[]
  methods := #[k2m0]
  instanceTypes := #[]
  staticTypes := #[]
  resolved := Array.replicate 22 none
  statics := none }

def pool3 : Array CpInfo := pool [(1, .class_ 2), (0, u "java/lang/Comparable"), (0, .class_ 4), (0, u "java/lang/Object")] 7

/-- java/lang/Comparable -/
def k3 : Class := { plain "java/lang/Comparable" (some 0) with
  accessFlags := 1537
  interfaces := #[]
  cf := some (fileOf pool3 1 #[] #[] 1537 3 #[] #[])
  fields := #[]
  methods := #[]
  instanceTypes := #[]
  staticTypes := #[]
  resolved := Array.replicate 12 none
  statics := none }

def pool4 : Array CpInfo := pool [(1, .methodref 2 3), (0, .class_ 4), (0, .nameAndType 5 6), (0, u "java/lang/Record"), (0, u "<init>"), (0, u "()V"), (0, .fieldref 8 9), (0, .class_ 10), (0, .nameAndType 11 12), (0, u "com/example/gridloom/gridloom/index/Counter"), (0, u "x"), (0, u "J"), (0, .fieldref 8 14), (0, .nameAndType 15 12), (0, u "y"), (0, .fieldref 8 17), (0, .nameAndType 18 12), (0, u "z"), (0, .fieldref 8 20), (0, .nameAndType 21 12), (0, u "type"), (32, u "COLUMNS"), (0, u "Ljava/util/List;"), (0, .class_ 57), (0, u "java/lang/Comparable"), (2, u "(JJJJ)V"), (3, u "equals"), (0, u "(Ljava/lang/Object;)Z")] 30

def k4c0 : Code := { maxStack := 3, maxLocals := 9, code := prog_143_method_1_code, exceptionTable := #[], attributes := #[] }
def k4m0 : Method := { name := "<init>", desc := "(JJJJ)V", sig := { parameters := [.long, .long, .long, .long], returnType := none }, accessFlags := 1, code := some k4c0 }
def k4c1 : Code := { maxStack := 4, maxLocals := 3, code := prog_143_method_2_code, exceptionTable := #[], attributes := #[] }
def k4m1 : Method := { name := "equals", desc := "(Ljava/lang/Object;)Z", sig := { parameters := [(.object "java/lang/Object")], returnType := some .boolean }, accessFlags := 1, code := some k4c1 }
/-- com/example/gridloom/gridloom/index/Counter -/
def k4 : Class := { plain "com/example/gridloom/gridloom/index/Counter" (some 2) with
  accessFlags := 49
  interfaces := #[3]
  cf := some (fileOf pool4 8 #[] #[{ accessFlags := 1, nameIndex := 5, descriptorIndex := 60, attributes := #[] }, { accessFlags := 1, nameIndex := 64, descriptorIndex := 65, attributes := #[] }] 49 2 #[56] #[{ accessFlags := 18, nameIndex := 11, descriptorIndex := 12, attributes := #[] }, { accessFlags := 18, nameIndex := 15, descriptorIndex := 12, attributes := #[] }, { accessFlags := 18, nameIndex := 18, descriptorIndex := 12, attributes := #[] }, { accessFlags := 18, nameIndex := 21, descriptorIndex := 12, attributes := #[] }, { accessFlags := 25, nameIndex := 54, descriptorIndex := 55, attributes := #[] }])
  fields := #[{ name := "x", type := .long, accessFlags := 18, slot := 0, constantValue := 0 }, { name := "y", type := .long, accessFlags := 18, slot := 1, constantValue := 0 }, { name := "z", type := .long, accessFlags := 18, slot := 2, constantValue := 0 }, { name := "type", type := .long, accessFlags := 18, slot := 3, constantValue := 0 }, { name := "COLUMNS", type := (.object "java/util/List"), accessFlags := 25, slot := 0, constantValue := 0 }]
  methods := #[k4m0, k4m1]
  instanceTypes := #[.long, .long, .long, .long]
  staticTypes := #[(.object "java/util/List")]
  resolved := Array.replicate 96 none
  statics := none }

def pool5 : Array CpInfo := pool [(1, .class_ 2), (0, u "java/io/Serializable"), (0, .class_ 4), (0, u "java/lang/Object")] 2

/-- java/io/Serializable -/
def k5 : Class := { plain "java/io/Serializable" (some 0) with
  accessFlags := 1537
  interfaces := #[]
  cf := some (fileOf pool5 1 #[] #[] 1537 3 #[] #[])
  fields := #[]
  methods := #[]
  instanceTypes := #[]
  staticTypes := #[]
  resolved := Array.replicate 7 none
  statics := none }

def pool6 : Array CpInfo := pool [(1, .methodref 2 3), (0, .class_ 4), (0, .nameAndType 5 6), (0, u "java/lang/Object"), (0, u "<init>"), (0, u "()V"), (1, .class_ 10), (1, u "java/lang/Number"), (2, .class_ 14), (0, u "java/io/Serializable"), (0, u "serialVersionUID"), (0, u "J")] 20

def k6c0 : Code := { maxStack := 1, maxLocals := 1, code := jdk_18_method_1_code, exceptionTable := #[], attributes := #[] }
def k6m0 : Method := { name := "<init>", desc := "()V", sig := { parameters := [], returnType := none }, accessFlags := 1, code := some k6c0 }
/-- java/lang/Number -/
def k6 : Class := { plain "java/lang/Number" (some 0) with
  accessFlags := 1057
  interfaces := #[5]
  cf := some (fileOf pool6 8 #[] #[{ accessFlags := 1, nameIndex := 5, descriptorIndex := 6, attributes := #[] }] 1057 2 #[13] #[{ accessFlags := 26, nameIndex := 15, descriptorIndex := 16, attributes := #[] }])
  fields := #[{ name := "serialVersionUID", type := .long, accessFlags := 26, slot := 0, constantValue := 0 }]
  methods := #[k6m0]
  instanceTypes := #[]
  staticTypes := #[.long]
  resolved := Array.replicate 37 none
  statics := none }

def pool7 : Array CpInfo := pool [(1, .class_ 2), (0, u "java/lang/constant/Constable"), (0, .class_ 4), (0, u "java/lang/Object")] 6

/-- java/lang/constant/Constable -/
def k7 : Class := { plain "java/lang/constant/Constable" (some 0) with
  accessFlags := 1537
  interfaces := #[]
  cf := some (fileOf pool7 1 #[] #[] 1537 3 #[] #[])
  fields := #[]
  methods := #[]
  instanceTypes := #[]
  staticTypes := #[]
  resolved := Array.replicate 11 none
  statics := none }

def pool8 : Array CpInfo := pool [(1, .class_ 2), (0, u "java/lang/constant/ConstantDesc"), (0, .class_ 4), (0, u "java/lang/Object")] 32

/-- java/lang/constant/ConstantDesc -/
def k8 : Class := { plain "java/lang/constant/ConstantDesc" (some 0) with
  accessFlags := 1537
  interfaces := #[]
  cf := some (fileOf pool8 1 #[] #[] 1537 3 #[] #[])
  fields := #[]
  methods := #[]
  instanceTypes := #[]
  staticTypes := #[]
  resolved := Array.replicate 37 none
  statics := none }

def pool9 : Array CpInfo := pool [(1, .class_ 2), (0, u "java/lang/Long"), (55, .nameAndType 59 60), (0, u "<init>"), (0, u "()V"), (24, u "valueOf"), (143, u "(J)Ljava/lang/Long;"), (0, .long 18446744073709551488), (1, .long 127), (1, .fieldref 235 236), (0, .class_ 237), (0, .nameAndType 238 239), (0, u "java/lang/Long$LongCache"), (0, u "cache"), (0, u "[Ljava/lang/Long;"), (0, .methodref 1 241), (0, .nameAndType 59 242), (0, u "(J)V"), (27, .methodref 271 58), (0, .class_ 272), (0, u "java/lang/Number"), (0, .fieldref 1 274), (0, .nameAndType 275 276), (0, u "value"), (0, u "J"), (84, u "TYPE"), (0, u "Ljava/lang/Class;"), (0, .class_ 364), (0, u "java/lang/Comparable"), (0, .class_ 366), (0, u "java/lang/constant/Constable"), (0, .class_ 368), (0, u "java/lang/constant/ConstantDesc"), (0, u "MIN_VALUE"), (1, u "MAX_VALUE"), (4, u "SIZE"), (0, u "I"), (1, u "BYTES"), (1, u "serialVersionUID")] 142

def k9c0 : Code := { maxStack := 4, maxLocals := 3, code := jdk_35_method_24_code, exceptionTable := #[], attributes := #[] }
def k9m0 : Method := { name := "valueOf", desc := "(J)Ljava/lang/Long;", sig := { parameters := [.long], returnType := some (.object "java/lang/Long") }, accessFlags := 9, code := some k9c0 }
def k9c1 : Code := { maxStack := 3, maxLocals := 3, code := jdk_35_method_26_code, exceptionTable := #[], attributes := #[] }
def k9m1 : Method := { name := "<init>", desc := "(J)V", sig := { parameters := [.long], returnType := none }, accessFlags := 1, code := some k9c1 }
/-- java/lang/Long -/
def k9 : Class := { plain "java/lang/Long" (some 6) with
  accessFlags := 49
  interfaces := #[3, 7, 8]
  cf := some (fileOf pool9 1 #[.nestMembers #[235]] #[{ accessFlags := 9, nameIndex := 85, descriptorIndex := 229, attributes := #[] }, { accessFlags := 1, nameIndex := 59, descriptorIndex := 242, attributes := #[] }] 49 271 #[363, 365, 367] #[{ accessFlags := 25, nameIndex := 369, descriptorIndex := 276, attributes := #[] }, { accessFlags := 25, nameIndex := 371, descriptorIndex := 276, attributes := #[] }, { accessFlags := 25, nameIndex := 361, descriptorIndex := 362, attributes := #[] }, { accessFlags := 18, nameIndex := 275, descriptorIndex := 276, attributes := #[] }, { accessFlags := 25, nameIndex := 376, descriptorIndex := 377, attributes := #[] }, { accessFlags := 25, nameIndex := 379, descriptorIndex := 377, attributes := #[] }, { accessFlags := 26, nameIndex := 381, descriptorIndex := 276, attributes := #[] }])
  fields := #[{ name := "MIN_VALUE", type := .long, accessFlags := 25, slot := 0, constantValue := 0 }, { name := "MAX_VALUE", type := .long, accessFlags := 25, slot := 1, constantValue := 0 }, { name := "TYPE", type := (.object "java/lang/Class"), accessFlags := 25, slot := 2, constantValue := 0 }, { name := "value", type := .long, accessFlags := 18, slot := 0, constantValue := 0 }, { name := "SIZE", type := .int, accessFlags := 25, slot := 3, constantValue := 0 }, { name := "BYTES", type := .int, accessFlags := 25, slot := 4, constantValue := 0 }, { name := "serialVersionUID", type := .long, accessFlags := 26, slot := 5, constantValue := 0 }]
  methods := #[k9m0, k9m1]
  instanceTypes := #[.long]
  staticTypes := #[.long, .long, (.object "java/lang/Class"), .int, .int, .long]
  resolved := Array.replicate 524 none
  statics := none }

def pool10 : Array CpInfo := pool [(2, .class_ 4), (1, u "java/lang/Object"), (0, u "<init>"), (0, u "()V"), (0, .class_ 8), (0, u "java/lang/Long"), (7, .class_ 18), (1, u "java/lang/Long$LongCache"), (0, u "$assertionsDisabled"), (0, u "Z"), (8, u "archivedCache"), (0, u "[Ljava/lang/Long;"), (7, u "cache")] 24

def k10m0 : Method := { name := "<init>", desc := "()V", sig := { parameters := [], returnType := none }, accessFlags := 2, code := none }
/-- java/lang/Long$LongCache -/
def k10 : Class := { plain "java/lang/Long$LongCache" (some 0) with
  accessFlags := 48
  interfaces := #[]
  cf := some (fileOf pool10 16 #[.nestHost 7] #[{ accessFlags := 2, nameIndex := 5, descriptorIndex := 6, attributes := #[] }] 48 2 #[] #[{ accessFlags := 24, nameIndex := 38, descriptorIndex := 30, attributes := #[] }, { accessFlags := 8, nameIndex := 29, descriptorIndex := 30, attributes := #[] }, { accessFlags := 4120, nameIndex := 19, descriptorIndex := 20, attributes := #[] }])
  fields := #[{ name := "cache", type := (.array (.object "java/lang/Long")), accessFlags := 24, slot := 0, constantValue := 0 }, { name := "archivedCache", type := (.array (.object "java/lang/Long")), accessFlags := 8, slot := 1, constantValue := 0 }, { name := "$assertionsDisabled", type := .boolean, accessFlags := 4120, slot := 2, constantValue := 0 }]
  methods := #[k10m0]
  instanceTypes := #[]
  staticTypes := #[(.array (.object "java/lang/Long")), (.array (.object "java/lang/Long")), .boolean]
  resolved := Array.replicate 63 none
  statics := some 0 }

def pool11 : Array CpInfo := pool [(1, u "java/lang/Cloneable"), (0, .class_ 1), (0, u "java/lang/Object"), (0, .class_ 3)] 3

/-- java/lang/Cloneable -/
def k11 : Class := { plain "java/lang/Cloneable" (some 0) with
  accessFlags := 1537
  interfaces := #[]
  cf := some (fileOf pool11 2 #[] #[] 1537 4 #[] #[])
  fields := #[]
  methods := #[]
  instanceTypes := #[]
  staticTypes := #[]
  resolved := Array.replicate 8 none
  statics := none }

/-- the primitive byte -/
def k12 : Class := { plain "byte" none with kind := .primitive 'B', accessFlags := 0x411 }
/-- [B -/
def k13 : Class := { plain "[B" (some 0) with kind := .array 12 .byte, interfaces := #[11, 5], accessFlags := 1041 }

/-- the primitive int -/
def k14 : Class := { plain "int" none with kind := .primitive 'I', accessFlags := 0x411 }
/-- [I -/
def k15 : Class := { plain "[I" (some 0) with kind := .array 14 .int, interfaces := #[11, 5], accessFlags := 1041 }

/-- [Ljava/lang/Long; -/
def k16 : Class := { plain "[Ljava/lang/Long;" (some 0) with kind := .array 9 (.object "java/lang/Long"), interfaces := #[11, 5], accessFlags := 1041 }

def heap : Heap := #[{ cls := 10, slots := #[.ref 1, .null, .int 0], vm := .statics 10 },
  { cls := 16, slots := #[.ref 2, .ref 3, .ref 4, .ref 5, .ref 6, .ref 7, .ref 8, .ref 9, .ref 10, .ref 11, .ref 12, .ref 13, .ref 14, .ref 15, .ref 16, .ref 17, .ref 18, .ref 19, .ref 20, .ref 21, .ref 22, .ref 23, .ref 24, .ref 25, .ref 26, .ref 27, .ref 28, .ref 29, .ref 30, .ref 31, .ref 32, .ref 33, .ref 34, .ref 35, .ref 36, .ref 37, .ref 38, .ref 39, .ref 40, .ref 41, .ref 42, .ref 43, .ref 44, .ref 45, .ref 46, .ref 47, .ref 48, .ref 49, .ref 50, .ref 51, .ref 52, .ref 53, .ref 54, .ref 55, .ref 56, .ref 57, .ref 58, .ref 59, .ref 60, .ref 61, .ref 62, .ref 63, .ref 64, .ref 65, .ref 66, .ref 67, .ref 68, .ref 69, .ref 70, .ref 71, .ref 72, .ref 73, .ref 74, .ref 75, .ref 76, .ref 77, .ref 78, .ref 79, .ref 80, .ref 81, .ref 82, .ref 83, .ref 84, .ref 85, .ref 86, .ref 87, .ref 88, .ref 89, .ref 90, .ref 91, .ref 92, .ref 93, .ref 94, .ref 95, .ref 96, .ref 97, .ref 98, .ref 99, .ref 100, .ref 101, .ref 102, .ref 103, .ref 104, .ref 105, .ref 106, .ref 107, .ref 108, .ref 109, .ref 110, .ref 111, .ref 112, .ref 113, .ref 114, .ref 115, .ref 116, .ref 117, .ref 118, .ref 119, .ref 120, .ref 121, .ref 122, .ref 123, .ref 124, .ref 125, .ref 126, .ref 127, .ref 128, .ref 129, .ref 130, .ref 131, .ref 132, .ref 133, .ref 134, .ref 135, .ref 136, .ref 137, .ref 138, .ref 139, .ref 140, .ref 141, .ref 142, .ref 143, .ref 144, .ref 145, .ref 146, .ref 147, .ref 148, .ref 149, .ref 150, .ref 151, .ref 152, .ref 153, .ref 154, .ref 155, .ref 156, .ref 157, .ref 158, .ref 159, .ref 160, .ref 161, .ref 162, .ref 163, .ref 164, .ref 165, .ref 166, .ref 167, .ref 168, .ref 169, .ref 170, .ref 171, .ref 172, .ref 173, .ref 174, .ref 175, .ref 176, .ref 177, .ref 178, .ref 179, .ref 180, .ref 181, .ref 182, .ref 183, .ref 184, .ref 185, .ref 186, .ref 187, .ref 188, .ref 189, .ref 190, .ref 191, .ref 192, .ref 193, .ref 194, .ref 195, .ref 196, .ref 197, .ref 198, .ref 199, .ref 200, .ref 201, .ref 202, .ref 203, .ref 204, .ref 205, .ref 206, .ref 207, .ref 208, .ref 209, .ref 210, .ref 211, .ref 212, .ref 213, .ref 214, .ref 215, .ref 216, .ref 217, .ref 218, .ref 219, .ref 220, .ref 221, .ref 222, .ref 223, .ref 224, .ref 225, .ref 226, .ref 227, .ref 228, .ref 229, .ref 230, .ref 231, .ref 232, .ref 233, .ref 234, .ref 235, .ref 236, .ref 237, .ref 238, .ref 239, .ref 240, .ref 241, .ref 242, .ref 243, .ref 244, .ref 245, .ref 246, .ref 247, .ref 248, .ref 249, .ref 250, .ref 251, .ref 252, .ref 253, .ref 254, .ref 255, .ref 256, .ref 257], vm := .none },
  { cls := 9, slots := #[.long (-128)], vm := .none },
  { cls := 9, slots := #[.long (-127)], vm := .none },
  { cls := 9, slots := #[.long (-126)], vm := .none },
  { cls := 9, slots := #[.long (-125)], vm := .none },
  { cls := 9, slots := #[.long (-124)], vm := .none },
  { cls := 9, slots := #[.long (-123)], vm := .none },
  { cls := 9, slots := #[.long (-122)], vm := .none },
  { cls := 9, slots := #[.long (-121)], vm := .none },
  { cls := 9, slots := #[.long (-120)], vm := .none },
  { cls := 9, slots := #[.long (-119)], vm := .none },
  { cls := 9, slots := #[.long (-118)], vm := .none },
  { cls := 9, slots := #[.long (-117)], vm := .none },
  { cls := 9, slots := #[.long (-116)], vm := .none },
  { cls := 9, slots := #[.long (-115)], vm := .none },
  { cls := 9, slots := #[.long (-114)], vm := .none },
  { cls := 9, slots := #[.long (-113)], vm := .none },
  { cls := 9, slots := #[.long (-112)], vm := .none },
  { cls := 9, slots := #[.long (-111)], vm := .none },
  { cls := 9, slots := #[.long (-110)], vm := .none },
  { cls := 9, slots := #[.long (-109)], vm := .none },
  { cls := 9, slots := #[.long (-108)], vm := .none },
  { cls := 9, slots := #[.long (-107)], vm := .none },
  { cls := 9, slots := #[.long (-106)], vm := .none },
  { cls := 9, slots := #[.long (-105)], vm := .none },
  { cls := 9, slots := #[.long (-104)], vm := .none },
  { cls := 9, slots := #[.long (-103)], vm := .none },
  { cls := 9, slots := #[.long (-102)], vm := .none },
  { cls := 9, slots := #[.long (-101)], vm := .none },
  { cls := 9, slots := #[.long (-100)], vm := .none },
  { cls := 9, slots := #[.long (-99)], vm := .none },
  { cls := 9, slots := #[.long (-98)], vm := .none },
  { cls := 9, slots := #[.long (-97)], vm := .none },
  { cls := 9, slots := #[.long (-96)], vm := .none },
  { cls := 9, slots := #[.long (-95)], vm := .none },
  { cls := 9, slots := #[.long (-94)], vm := .none },
  { cls := 9, slots := #[.long (-93)], vm := .none },
  { cls := 9, slots := #[.long (-92)], vm := .none },
  { cls := 9, slots := #[.long (-91)], vm := .none },
  { cls := 9, slots := #[.long (-90)], vm := .none },
  { cls := 9, slots := #[.long (-89)], vm := .none },
  { cls := 9, slots := #[.long (-88)], vm := .none },
  { cls := 9, slots := #[.long (-87)], vm := .none },
  { cls := 9, slots := #[.long (-86)], vm := .none },
  { cls := 9, slots := #[.long (-85)], vm := .none },
  { cls := 9, slots := #[.long (-84)], vm := .none },
  { cls := 9, slots := #[.long (-83)], vm := .none },
  { cls := 9, slots := #[.long (-82)], vm := .none },
  { cls := 9, slots := #[.long (-81)], vm := .none },
  { cls := 9, slots := #[.long (-80)], vm := .none },
  { cls := 9, slots := #[.long (-79)], vm := .none },
  { cls := 9, slots := #[.long (-78)], vm := .none },
  { cls := 9, slots := #[.long (-77)], vm := .none },
  { cls := 9, slots := #[.long (-76)], vm := .none },
  { cls := 9, slots := #[.long (-75)], vm := .none },
  { cls := 9, slots := #[.long (-74)], vm := .none },
  { cls := 9, slots := #[.long (-73)], vm := .none },
  { cls := 9, slots := #[.long (-72)], vm := .none },
  { cls := 9, slots := #[.long (-71)], vm := .none },
  { cls := 9, slots := #[.long (-70)], vm := .none },
  { cls := 9, slots := #[.long (-69)], vm := .none },
  { cls := 9, slots := #[.long (-68)], vm := .none },
  { cls := 9, slots := #[.long (-67)], vm := .none },
  { cls := 9, slots := #[.long (-66)], vm := .none },
  { cls := 9, slots := #[.long (-65)], vm := .none },
  { cls := 9, slots := #[.long (-64)], vm := .none },
  { cls := 9, slots := #[.long (-63)], vm := .none },
  { cls := 9, slots := #[.long (-62)], vm := .none },
  { cls := 9, slots := #[.long (-61)], vm := .none },
  { cls := 9, slots := #[.long (-60)], vm := .none },
  { cls := 9, slots := #[.long (-59)], vm := .none },
  { cls := 9, slots := #[.long (-58)], vm := .none },
  { cls := 9, slots := #[.long (-57)], vm := .none },
  { cls := 9, slots := #[.long (-56)], vm := .none },
  { cls := 9, slots := #[.long (-55)], vm := .none },
  { cls := 9, slots := #[.long (-54)], vm := .none },
  { cls := 9, slots := #[.long (-53)], vm := .none },
  { cls := 9, slots := #[.long (-52)], vm := .none },
  { cls := 9, slots := #[.long (-51)], vm := .none },
  { cls := 9, slots := #[.long (-50)], vm := .none },
  { cls := 9, slots := #[.long (-49)], vm := .none },
  { cls := 9, slots := #[.long (-48)], vm := .none },
  { cls := 9, slots := #[.long (-47)], vm := .none },
  { cls := 9, slots := #[.long (-46)], vm := .none },
  { cls := 9, slots := #[.long (-45)], vm := .none },
  { cls := 9, slots := #[.long (-44)], vm := .none },
  { cls := 9, slots := #[.long (-43)], vm := .none },
  { cls := 9, slots := #[.long (-42)], vm := .none },
  { cls := 9, slots := #[.long (-41)], vm := .none },
  { cls := 9, slots := #[.long (-40)], vm := .none },
  { cls := 9, slots := #[.long (-39)], vm := .none },
  { cls := 9, slots := #[.long (-38)], vm := .none },
  { cls := 9, slots := #[.long (-37)], vm := .none },
  { cls := 9, slots := #[.long (-36)], vm := .none },
  { cls := 9, slots := #[.long (-35)], vm := .none },
  { cls := 9, slots := #[.long (-34)], vm := .none },
  { cls := 9, slots := #[.long (-33)], vm := .none },
  { cls := 9, slots := #[.long (-32)], vm := .none },
  { cls := 9, slots := #[.long (-31)], vm := .none },
  { cls := 9, slots := #[.long (-30)], vm := .none },
  { cls := 9, slots := #[.long (-29)], vm := .none },
  { cls := 9, slots := #[.long (-28)], vm := .none },
  { cls := 9, slots := #[.long (-27)], vm := .none },
  { cls := 9, slots := #[.long (-26)], vm := .none },
  { cls := 9, slots := #[.long (-25)], vm := .none },
  { cls := 9, slots := #[.long (-24)], vm := .none },
  { cls := 9, slots := #[.long (-23)], vm := .none },
  { cls := 9, slots := #[.long (-22)], vm := .none },
  { cls := 9, slots := #[.long (-21)], vm := .none },
  { cls := 9, slots := #[.long (-20)], vm := .none },
  { cls := 9, slots := #[.long (-19)], vm := .none },
  { cls := 9, slots := #[.long (-18)], vm := .none },
  { cls := 9, slots := #[.long (-17)], vm := .none },
  { cls := 9, slots := #[.long (-16)], vm := .none },
  { cls := 9, slots := #[.long (-15)], vm := .none },
  { cls := 9, slots := #[.long (-14)], vm := .none },
  { cls := 9, slots := #[.long (-13)], vm := .none },
  { cls := 9, slots := #[.long (-12)], vm := .none },
  { cls := 9, slots := #[.long (-11)], vm := .none },
  { cls := 9, slots := #[.long (-10)], vm := .none },
  { cls := 9, slots := #[.long (-9)], vm := .none },
  { cls := 9, slots := #[.long (-8)], vm := .none },
  { cls := 9, slots := #[.long (-7)], vm := .none },
  { cls := 9, slots := #[.long (-6)], vm := .none },
  { cls := 9, slots := #[.long (-5)], vm := .none },
  { cls := 9, slots := #[.long (-4)], vm := .none },
  { cls := 9, slots := #[.long (-3)], vm := .none },
  { cls := 9, slots := #[.long (-2)], vm := .none },
  { cls := 9, slots := #[.long (-1)], vm := .none },
  { cls := 9, slots := #[.long 0], vm := .none },
  { cls := 9, slots := #[.long 1], vm := .none },
  { cls := 9, slots := #[.long 2], vm := .none },
  { cls := 9, slots := #[.long 3], vm := .none },
  { cls := 9, slots := #[.long 4], vm := .none },
  { cls := 9, slots := #[.long 5], vm := .none },
  { cls := 9, slots := #[.long 6], vm := .none },
  { cls := 9, slots := #[.long 7], vm := .none },
  { cls := 9, slots := #[.long 8], vm := .none },
  { cls := 9, slots := #[.long 9], vm := .none },
  { cls := 9, slots := #[.long 10], vm := .none },
  { cls := 9, slots := #[.long 11], vm := .none },
  { cls := 9, slots := #[.long 12], vm := .none },
  { cls := 9, slots := #[.long 13], vm := .none },
  { cls := 9, slots := #[.long 14], vm := .none },
  { cls := 9, slots := #[.long 15], vm := .none },
  { cls := 9, slots := #[.long 16], vm := .none },
  { cls := 9, slots := #[.long 17], vm := .none },
  { cls := 9, slots := #[.long 18], vm := .none },
  { cls := 9, slots := #[.long 19], vm := .none },
  { cls := 9, slots := #[.long 20], vm := .none },
  { cls := 9, slots := #[.long 21], vm := .none },
  { cls := 9, slots := #[.long 22], vm := .none },
  { cls := 9, slots := #[.long 23], vm := .none },
  { cls := 9, slots := #[.long 24], vm := .none },
  { cls := 9, slots := #[.long 25], vm := .none },
  { cls := 9, slots := #[.long 26], vm := .none },
  { cls := 9, slots := #[.long 27], vm := .none },
  { cls := 9, slots := #[.long 28], vm := .none },
  { cls := 9, slots := #[.long 29], vm := .none },
  { cls := 9, slots := #[.long 30], vm := .none },
  { cls := 9, slots := #[.long 31], vm := .none },
  { cls := 9, slots := #[.long 32], vm := .none },
  { cls := 9, slots := #[.long 33], vm := .none },
  { cls := 9, slots := #[.long 34], vm := .none },
  { cls := 9, slots := #[.long 35], vm := .none },
  { cls := 9, slots := #[.long 36], vm := .none },
  { cls := 9, slots := #[.long 37], vm := .none },
  { cls := 9, slots := #[.long 38], vm := .none },
  { cls := 9, slots := #[.long 39], vm := .none },
  { cls := 9, slots := #[.long 40], vm := .none },
  { cls := 9, slots := #[.long 41], vm := .none },
  { cls := 9, slots := #[.long 42], vm := .none },
  { cls := 9, slots := #[.long 43], vm := .none },
  { cls := 9, slots := #[.long 44], vm := .none },
  { cls := 9, slots := #[.long 45], vm := .none },
  { cls := 9, slots := #[.long 46], vm := .none },
  { cls := 9, slots := #[.long 47], vm := .none },
  { cls := 9, slots := #[.long 48], vm := .none },
  { cls := 9, slots := #[.long 49], vm := .none },
  { cls := 9, slots := #[.long 50], vm := .none },
  { cls := 9, slots := #[.long 51], vm := .none },
  { cls := 9, slots := #[.long 52], vm := .none },
  { cls := 9, slots := #[.long 53], vm := .none },
  { cls := 9, slots := #[.long 54], vm := .none },
  { cls := 9, slots := #[.long 55], vm := .none },
  { cls := 9, slots := #[.long 56], vm := .none },
  { cls := 9, slots := #[.long 57], vm := .none },
  { cls := 9, slots := #[.long 58], vm := .none },
  { cls := 9, slots := #[.long 59], vm := .none },
  { cls := 9, slots := #[.long 60], vm := .none },
  { cls := 9, slots := #[.long 61], vm := .none },
  { cls := 9, slots := #[.long 62], vm := .none },
  { cls := 9, slots := #[.long 63], vm := .none },
  { cls := 9, slots := #[.long 64], vm := .none },
  { cls := 9, slots := #[.long 65], vm := .none },
  { cls := 9, slots := #[.long 66], vm := .none },
  { cls := 9, slots := #[.long 67], vm := .none },
  { cls := 9, slots := #[.long 68], vm := .none },
  { cls := 9, slots := #[.long 69], vm := .none },
  { cls := 9, slots := #[.long 70], vm := .none },
  { cls := 9, slots := #[.long 71], vm := .none },
  { cls := 9, slots := #[.long 72], vm := .none },
  { cls := 9, slots := #[.long 73], vm := .none },
  { cls := 9, slots := #[.long 74], vm := .none },
  { cls := 9, slots := #[.long 75], vm := .none },
  { cls := 9, slots := #[.long 76], vm := .none },
  { cls := 9, slots := #[.long 77], vm := .none },
  { cls := 9, slots := #[.long 78], vm := .none },
  { cls := 9, slots := #[.long 79], vm := .none },
  { cls := 9, slots := #[.long 80], vm := .none },
  { cls := 9, slots := #[.long 81], vm := .none },
  { cls := 9, slots := #[.long 82], vm := .none },
  { cls := 9, slots := #[.long 83], vm := .none },
  { cls := 9, slots := #[.long 84], vm := .none },
  { cls := 9, slots := #[.long 85], vm := .none },
  { cls := 9, slots := #[.long 86], vm := .none },
  { cls := 9, slots := #[.long 87], vm := .none },
  { cls := 9, slots := #[.long 88], vm := .none },
  { cls := 9, slots := #[.long 89], vm := .none },
  { cls := 9, slots := #[.long 90], vm := .none },
  { cls := 9, slots := #[.long 91], vm := .none },
  { cls := 9, slots := #[.long 92], vm := .none },
  { cls := 9, slots := #[.long 93], vm := .none },
  { cls := 9, slots := #[.long 94], vm := .none },
  { cls := 9, slots := #[.long 95], vm := .none },
  { cls := 9, slots := #[.long 96], vm := .none },
  { cls := 9, slots := #[.long 97], vm := .none },
  { cls := 9, slots := #[.long 98], vm := .none },
  { cls := 9, slots := #[.long 99], vm := .none },
  { cls := 9, slots := #[.long 100], vm := .none },
  { cls := 9, slots := #[.long 101], vm := .none },
  { cls := 9, slots := #[.long 102], vm := .none },
  { cls := 9, slots := #[.long 103], vm := .none },
  { cls := 9, slots := #[.long 104], vm := .none },
  { cls := 9, slots := #[.long 105], vm := .none },
  { cls := 9, slots := #[.long 106], vm := .none },
  { cls := 9, slots := #[.long 107], vm := .none },
  { cls := 9, slots := #[.long 108], vm := .none },
  { cls := 9, slots := #[.long 109], vm := .none },
  { cls := 9, slots := #[.long 110], vm := .none },
  { cls := 9, slots := #[.long 111], vm := .none },
  { cls := 9, slots := #[.long 112], vm := .none },
  { cls := 9, slots := #[.long 113], vm := .none },
  { cls := 9, slots := #[.long 114], vm := .none },
  { cls := 9, slots := #[.long 115], vm := .none },
  { cls := 9, slots := #[.long 116], vm := .none },
  { cls := 9, slots := #[.long 117], vm := .none },
  { cls := 9, slots := #[.long 118], vm := .none },
  { cls := 9, slots := #[.long 119], vm := .none },
  { cls := 9, slots := #[.long 120], vm := .none },
  { cls := 9, slots := #[.long 121], vm := .none },
  { cls := 9, slots := #[.long 122], vm := .none },
  { cls := 9, slots := #[.long 123], vm := .none },
  { cls := 9, slots := #[.long 124], vm := .none },
  { cls := 9, slots := #[.long 125], vm := .none },
  { cls := 9, slots := #[.long 126], vm := .none },
  { cls := 9, slots := #[.long 127], vm := .none }]
def classes : Array Class := #[k0, k1, k2, k3, k4, k5, k6, k7, k8, k9, k10, k11, k12, k13, k14, k15, k16]
def interned : List (Array UInt16 × Addr) := []
def slotsUsed : Nat := 515
def theMethod : MethodId := ⟨1, 1⟩
def args0 : Array Value := #[.long 5, .long 7, .long 8, .long 9, .long 1, .int 3]
def aboutOver (below : List Frame) : State where
  vm := { classes := classes, interned := interned.toArray }
  heap := heap
  slotsUsed := slotsUsed
  threads := #[{ frames := .invoking theMethod args0 :: below }]
def below0 : List Frame := [.native { method := ⟨0, 0⟩, args := #[] }]
def about1 : State := aboutOver below0
def p0 : Program := .bare "" "" ""
def e0 : Env := launch0.env 0 0 0
theorem w_frames : about1.frames = Frame.invoking theMethod args0 :: below0 := rfl
set_option maxRecDepth 65536 in
theorem w_args : argsFit about1.vm theMethod args0 = true := by decide +kernel
set_option maxRecDepth 65536 in
theorem w_heap : heapFits about1 = true := by decide +kernel
set_option maxRecDepth 65536 in
theorem w_runnable : about1.curStatus? = some .runnable := by decide +kernel
set_option maxRecDepth 65536 in
theorem w_alone : about1.alone = true := by decide +kernel
set_option maxRecDepth 65536 in
theorem w_named : about1.methodNamed? x = some theMethod := by decide +kernel
set_option maxRecDepth 65536 in
theorem w_hears : about1.hears theMethod below0 = true := by decide +kernel
set_option maxRecDepth 65536 in
theorem w_ripe : about1.ripe theMethod args0 below0 = true := by decide +kernel
theorem w_running : about1.status = .running := rfl
set_option maxRecDepth 65536 in
theorem w_room : about1.hasRoom e0.platform room_1 = true :=
  launch0.hasRoom_least _ room_1 (by decide +kernel) (by decide +kernel) (by decide +kernel) (by decide +kernel) (by decide +kernel) (by decide +kernel)
theorem allAtoms_all (ts : List Jvm.Cond) (a : Array Jvm.Value) (st : Jvm.State) : (allAtoms ts).before a st = ts.all (fun c => c.before a st) := by
  induction ts with
  | nil => rfl
  | cons c t ih =>
    show (Jvm.Cond.and c (allAtoms t)).before a st = _
    rw [Jvm.Cond.before_and, ih, List.all_cons]
def words1 : List Jvm.Cond := Jvm.Cond.code x code maxLocals ret :: tables_1
/-- a 'code' word, met by the world's own term for the bytes: nothing is compared byte by byte -/
theorem code_word {y : MethodName} {bytes : ByteArray} {mx : Nat} {rt : Option FieldType} {a : Array Value} {s : State} {m : MethodId} {meth : Method} {c : Code} (h1 : s.methodNamed? y = some m) (h2 : s.vm.method? m = some meth) (h3 : meth.code = some c) (h4 : c.code = bytes)
    (h5 : (c.maxLocals == mx && c.exceptionTable.isEmpty && decide (c.maxStack ≤ mostOperands) && decide (meth.sig.returnType = rt) && !meth.locks && decide (parseMethodDescriptor y.desc = some meth.sig)) = true) : (Jvm.Cond.code y bytes mx rt).before a s = true := by
  simp only [Bool.and_eq_true, beq_iff_eq, Bool.not_eq_true', decide_eq_true_eq] at h5
  obtain ⟨⟨⟨⟨⟨g1, g2⟩, g3⟩, g4⟩, g5⟩, g6⟩ := h5
  simp [Cond.before, Cond.holds, Cond.value, h1, h2, h3, h4, g1, g2, g3, g4, g5, g6]
def isCode : Jvm.Cond → Bool
  | .code _ _ _ _ => true
  | _ => false
theorem all_split {L : List Jvm.Cond} {P : Jvm.Cond → Bool} (h1 : L.all (fun c => isCode c || P c) = true) (h2 : ∀ c ∈ L.filter isCode, P c = true) : L.all P = true := by
  refine List.all_eq_true.mpr fun c hc => ?_
  have h := List.all_eq_true.mp h1 c hc
  rcases Bool.eq_false_or_eq_true (isCode c) with hi | hi
  · exact h2 c (List.mem_filter.mpr ⟨hc, hi⟩)
  · simpa [hi] using h
set_option maxRecDepth 65536 in
theorem w_c0 : (Jvm.Cond.code x code maxLocals ret).before args0 about1 = true := code_word (m := ⟨1, 1⟩) (meth := k1m1) (c := k1c1) (by decide +kernel) rfl rfl rfl (by decide +kernel)
set_option maxRecDepth 65536 in
theorem w_c1 : (Jvm.Cond.code ({ cls := "com/example/gridloom/gridloom/index/Counter", name := "<init>", desc := "(JJJJ)V" } : Jvm.MethodName) prog_143_method_1_code (9 : Nat) (Option.none : Option Jvm.ClassFile.FieldType)).before args0 about1 = true := code_word (m := ⟨4, 0⟩) (meth := k4m0) (c := k4c0) (by decide +kernel) rfl rfl rfl (by decide +kernel)
set_option maxRecDepth 65536 in
theorem w_c2 : (Jvm.Cond.code ({ cls := "java/lang/Record", name := "<init>", desc := "()V" } : Jvm.MethodName) jdk_30_method_1_code (1 : Nat) (Option.none : Option Jvm.ClassFile.FieldType)).before args0 about1 = true := code_word (m := ⟨2, 0⟩) (meth := k2m0) (c := k2c0) (by decide +kernel) rfl rfl rfl (by decide +kernel)
set_option maxRecDepth 65536 in
theorem w_c3 : (Jvm.Cond.code ({ cls := "java/lang/Object", name := "<init>", desc := "()V" } : Jvm.MethodName) object_method_1_code (1 : Nat) (Option.none : Option Jvm.ClassFile.FieldType)).before args0 about1 = true := code_word (m := ⟨0, 0⟩) (meth := k0m0) (c := k0c0) (by decide +kernel) rfl rfl rfl (by decide +kernel)
set_option maxRecDepth 65536 in
theorem w_c4 : (Jvm.Cond.code ({ cls := "java/lang/Long", name := "valueOf", desc := "(J)Ljava/lang/Long;" } : Jvm.MethodName) jdk_35_method_24_code (3 : Nat) (Option.some (Jvm.ClassFile.FieldType.object "java/lang/Long"))).before args0 about1 = true := code_word (m := ⟨9, 0⟩) (meth := k9m0) (c := k9c0) (by decide +kernel) rfl rfl rfl (by decide +kernel)
set_option maxRecDepth 65536 in
theorem w_c5 : (Jvm.Cond.code ({ cls := "com/example/gridloom/gridloom/index/Counter", name := "equals", desc := "(Ljava/lang/Object;)Z" } : Jvm.MethodName) prog_143_method_2_code (3 : Nat) (Option.some Jvm.ClassFile.FieldType.boolean)).before args0 about1 = true := code_word (m := ⟨4, 1⟩) (meth := k4m1) (c := k4c1) (by decide +kernel) rfl rfl rfl (by decide +kernel)
set_option maxRecDepth 65536 in
theorem w_c6 : (Jvm.Cond.code ({ cls := "java/lang/Long", name := "<init>", desc := "(J)V" } : Jvm.MethodName) jdk_35_method_26_code (3 : Nat) (Option.none : Option Jvm.ClassFile.FieldType)).before args0 about1 = true := code_word (m := ⟨9, 1⟩) (meth := k9m1) (c := k9c1) (by decide +kernel) rfl rfl rfl (by decide +kernel)
set_option maxRecDepth 65536 in
theorem w_c7 : (Jvm.Cond.code ({ cls := "java/lang/Number", name := "<init>", desc := "()V" } : Jvm.MethodName) jdk_18_method_1_code (1 : Nat) (Option.none : Option Jvm.ClassFile.FieldType)).before args0 about1 = true := code_word (m := ⟨6, 0⟩) (meth := k6m0) (c := k6c0) (by decide +kernel) rfl rfl rfl (by decide +kernel)
def codes1 : List Jvm.Cond := [Jvm.Cond.code x code maxLocals ret, Jvm.Cond.code ({ cls := "com/example/gridloom/gridloom/index/Counter", name := "<init>", desc := "(JJJJ)V" } : Jvm.MethodName) prog_143_method_1_code (9 : Nat) (Option.none : Option Jvm.ClassFile.FieldType), Jvm.Cond.code ({ cls := "java/lang/Record", name := "<init>", desc := "()V" } : Jvm.MethodName) jdk_30_method_1_code (1 : Nat) (Option.none : Option Jvm.ClassFile.FieldType), Jvm.Cond.code ({ cls := "java/lang/Object", name := "<init>", desc := "()V" } : Jvm.MethodName) object_method_1_code (1 : Nat) (Option.none : Option Jvm.ClassFile.FieldType), Jvm.Cond.code ({ cls := "java/lang/Long", name := "valueOf", desc := "(J)Ljava/lang/Long;" } : Jvm.MethodName) jdk_35_method_24_code (3 : Nat) (Option.some (Jvm.ClassFile.FieldType.object "java/lang/Long")), Jvm.Cond.code ({ cls := "com/example/gridloom/gridloom/index/Counter", name := "equals", desc := "(Ljava/lang/Object;)Z" } : Jvm.MethodName) prog_143_method_2_code (3 : Nat) (Option.some Jvm.ClassFile.FieldType.boolean), Jvm.Cond.code ({ cls := "java/lang/Long", name := "<init>", desc := "(J)V" } : Jvm.MethodName) jdk_35_method_26_code (3 : Nat) (Option.none : Option Jvm.ClassFile.FieldType), Jvm.Cond.code ({ cls := "java/lang/Number", name := "<init>", desc := "()V" } : Jvm.MethodName) jdk_18_method_1_code (1 : Nat) (Option.none : Option Jvm.ClassFile.FieldType)]
set_option maxRecDepth 65536 in
theorem codes_eq : words1.filter isCode = codes1 := rfl
theorem w_codes : ∀ c ∈ words1.filter isCode, c.before args0 about1 = true := by
  rw [codes_eq]
  intro c hc
  simp only [codes1, List.mem_cons, List.not_mem_nil, or_false] at hc
  rcases hc with rfl | rfl | rfl | rfl | rfl | rfl | rfl | rfl
  · exact w_c0
  · exact w_c1
  · exact w_c2
  · exact w_c3
  · exact w_c4
  · exact w_c5
  · exact w_c6
  · exact w_c7
set_option maxRecDepth 65536 in
theorem w_t1 : (words1.take 24).all (fun c => isCode c || c.before args0 about1) = true := by decide +kernel
set_option maxRecDepth 65536 in
theorem w_t2 : ((words1.drop 24).take 24).all (fun c => isCode c || c.before args0 about1) = true := by decide +kernel
set_option maxRecDepth 65536 in
theorem w_t3 : ((words1.drop 24).drop 24).all (fun c => isCode c || c.before args0 about1) = true := by decide +kernel
theorem w_tables : (allAtoms (Jvm.Cond.code x code maxLocals ret :: tables_1)).before args0 about1 = true := by
  rw [allAtoms_all]
  show words1.all (fun c => c.before args0 about1) = true
  refine all_split ?_ w_codes
  rw [← List.take_append_drop 24 words1, List.all_append, w_t1, ← List.take_append_drop 24 (words1.drop 24), List.all_append, w_t2, w_t3]
  rfl
set_option maxRecDepth 65536 in
theorem w_rest : rest_1_c.before args0 about1 = true := by decide +kernel
set_option maxRecDepth 65536 in
theorem w_case : (Jvm.Cond.and given_1 narrow_1).before args0 about1 = true := by decide +kernel
theorem w_applies : (headSpec (Jvm.Cond.code x code maxLocals ret :: tables_1) room_1).applies x e0.platform about1 = true :=
  (Spec.applies_iff w_frames).mpr ⟨w_running, w_runnable, w_alone, w_named, w_hears, w_ripe, w_room, w_tables⟩
theorem atStart : AtStart classFile x code maxLocals ret World_1 tables_1 room_1 Calls_1 rest_1 Pre_1 launch0 p0 e0 about1 theMethod args0 below0 :=
  ⟨lists_1, trivial, launch0.admits_env _ _ _, launch0.least_env, fairChoices_fair.cas, fairChoices_fair.clock, w_frames, w_args, w_heap, w_applies, trivial, w_rest, w_case⟩
end start1
theorem witness_1 : WitnessClaimed_1 := ⟨start1.p0, start1.e0, start1.about1, start1.theMethod, start1.args0, start1.below0, start1.atStart⟩
end Jvm.Pilot.@@N@@
