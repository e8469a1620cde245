import JvmDerived
import JvmDerived.Pilot.@@N@@Statement
import JvmDerived.Pilot.@@N@@Code
set_option linter.unusedVariables false
set_option linter.unusedSimpArgs false
namespace Jvm.Pilot.@@N@@
open Jvm Jvm.ClassFile Sem Op Lib Jvm.Free Jvm.Stand Jvm.LawKit Jvm.RoadKit Bundle Jvm.Pilot.@@N@@.Jvm.D
/-! own laws: the run from a state to the return, in continuation form -/
section OwnG
variable {p : Program} {l : Launch} {e : Env} {R : Room} {s : State} {m : MethodId} {args : Array Value} {below : List Frame} {meth : Method} {c : Code} {T : State} {locs : List Loc} {cells slots : Nat} {Z : State} {a0 : Array Value} {h : Heap} {Q : Option Value → Heap → List Loc → Prop} {ck sk : Nat}
def own_G (p : Program) (e : Env) (below : List Frame) (s : State) (Q : Option Value → Heap → List Loc → Prop) (ck sk : Nat) (U : State) : Prop :=
  ∃ s₂ o, Steps p.tables e below U s₂ ∧ s₂.status = .running ∧ Ended s₂ below o ∧ ∃ v L, o = .returned v ∧ Q v s₂.heap L ∧ FrameEnd s o s₂ L ck sk
theorem own_via {U U' : State} (k : ∀ t, Steps p.tables e below U' t → Steps p.tables e below U t) (g : own_G p e below s Q ck sk U') : own_G p e below s Q ck sk U := by
  obtain ⟨s2, o, h1, r⟩ := g
  exact ⟨s2, o, k _ h1, r⟩
theorem own_mono {Q' : Option Value → Heap → List Loc → Prop} {U : State} (k : ∀ v h L, Q v h L → Q' v h L) (g : own_G p e below s Q ck sk U) : own_G p e below s Q' ck sk U := by
  obtain ⟨s2, o, h1, h2, h3, v, L, h4, h5, h6⟩ := g
  exact ⟨s2, o, h1, h2, h3, v, L, h4, k _ _ _ h5, h6⟩
theorem own_ret (X : Stand p l e R s m args below meth c T locs cells slots) {v : Option Value} (hv : meth.sig.returnType = none → v = none) (hlk : meth.locks = false) {f : JFrame}
    (st : ∀ fs, (∀ (f : JFrame) (acts : List Action), f.method = m → f.locked = none → f.entered = [] → (doReturn e (T.setTop f) acts v).1 = T.setFrames fs) → Steps p.tables e below (T.setTop f) (T.setFrames fs))
    (hQ : Q v T.heap locs) (hc : cells ≤ ck) (hs : slots ≤ sk) : own_G p e below s Q ck sk (T.setTop f) := by
  obtain ⟨fs, hr, hrun, hended, hW, hsame⟩ := X.leave (v := v) hv hlk
  exact ⟨_, _, st fs hr, hrun, hended, _, _, rfl, hQ, ⟨_, rfl⟩, hW, hsame.mono hc hs⟩
theorem own_callS (X : Stand p l e R s m args below meth c T locs cells slots) (hx : p.tables.exec = Jvm.exec) (hZ : Z.Warmed39 s.vm) {own : String} {index : Nat} {y : MethodName} {bytes : ByteArray} {maxL : Nat} {ret : Option FieldType} {rm : Room} {as' : Array Value} {W : Nat}
    (hown : s.vm.findClass own = some m.cls) (w1 : (Jvm.Cond.methodLink own index y).before a0 Z = true) (w2 : (Jvm.Cond.static y).before a0 Z = true) (w3 : (Jvm.Cond.initialized y.cls).before a0 Z = true) (w4 : (Jvm.Cond.code y bytes maxL ret).before a0 Z = true)
    (hy : y.cls ≠ "java/lang/invoke/MethodHandle" ∧ y.cls ≠ "java/lang/invoke/VarHandle")
    (hM : MetFree l y (head1 [Jvm.Cond.code y bytes maxL ret] rm) (fun a U => a = as' ∧ Z.Warmed39 U.vm ∧ U.heap = h) (fun _ _ _ _ _ => True) (fun _ U o U' => ∃ v L, o = .returned v ∧ Q v U'.heap L ∧ FrameEnd U o U' L rm.cells rm.slots))
    (hf : rm.frames + 1 ≤ R.frames) (hl : W + (maxL + 11) + rm.locals ≤ R.locals) (eT : T.heap = h)
    {g : JFrame} (hg : g.method = m) (hsize : g.locals.size = c.maxLocals) {argsL rest : List Value} (has : argsL.toArray = as') (hlen : ∀ sig, parseMethodDescriptor y.desc = some sig → argsL.length = sig.parameters.length)
    (hstack : g.stack = argsL.reverse ++ rest) (hW : 2 * g.monitorRoom + (rest.map fun v => v.category).sum ≤ W) (hdg : decode c.code g.pc = .ok (.invokestatic index, 3))
    (hcells : cells + rm.cells ≤ R.cells) (hslots : slots + rm.slots ≤ R.slots) :
    ∃ v T' L', Stand p l e R s m args below meth c T' (locs ++ L') (cells + rm.cells) (slots + rm.slots) ∧ Q v T'.heap L' ∧ ∀ t, Steps p.tables e below (T'.setTop { g with pc := g.pc + 3, stack := v.toList ++ rest }) t → Steps p.tables e below (T.setTop g) t := by
  obtain ⟨v, vm1, ⟨T', L', k', n'⟩, -, X', ⟨Lc, hQ, q1, q2, q3⟩, st⟩ := Jvm.LawKit.callS X hx hown (mvT hZ w1) (mvT hZ w2) (mvT hZ w3) (mvT hZ w4) hy (backOf (W := W) hM hZ w4 w3 hf hl) hg hsize hlen hstack hW hdg (fun _ _ => ⟨has, eT, hcells, hslots⟩)
  dsimp only [Pt.U, Pt.locs, Pt.cells, Pt.slots] at X' q1 q2 q3 st hQ
  subst q1 q2 q3
  exact ⟨v, T', Lc, X', hQ, st⟩
theorem own_callI (X : Stand p l e R s m args below meth c T locs cells slots) (hx : p.tables.exec = Jvm.exec) (hZ : Z.Warmed39 s.vm) {own : String} {index : Nat} {y : MethodName} (hy1 : y.name = "<init>") {bytes : ByteArray} {maxL : Nat} {rm : Room} {as' : Array Value} {W : Nat}
    (hown : s.vm.findClass own = some m.cls) (w1 : (Jvm.Cond.methodLink own index y).before a0 Z = true) (w2 : (Jvm.Cond.instanceMethod y).before a0 Z = true) (w3 : (Jvm.Cond.initialized y.cls).before a0 Z = true) (w4 : (Jvm.Cond.code y bytes maxL none).before a0 Z = true)
    (hy : y.cls ≠ "java/lang/invoke/MethodHandle" ∧ y.cls ≠ "java/lang/invoke/VarHandle")
    (hM : MetFree l y (head1 [Jvm.Cond.code y bytes maxL none] rm) (fun a U => a = as' ∧ Z.Warmed39 U.vm ∧ U.heap = h) (fun _ _ _ _ _ => True) (fun _ U o U' => ∃ v L, o = .returned v ∧ Q v U'.heap L ∧ FrameEnd U o U' L rm.cells rm.slots))
    (hf : rm.frames + 1 ≤ R.frames) (hl : W + (maxL + 11) + rm.locals ≤ R.locals) (eT : T.heap = h)
    {g : JFrame} (hg : g.method = m) (hsize : g.locals.size = c.maxLocals) {a : Addr} {argsL rest : List Value} (has : (.ref a :: argsL).toArray = as') (hlen : ∀ sig, parseMethodDescriptor y.desc = some sig → argsL.length = sig.parameters.length)
    (hstack : g.stack = argsL.reverse ++ .ref a :: rest) (hW : 2 * g.monitorRoom + (rest.map fun v => v.category).sum ≤ W) (hdg : decode c.code g.pc = .ok (.invokespecial index, 3))
    (hcells : cells + rm.cells ≤ R.cells) (hslots : slots + rm.slots ≤ R.slots) :
    ∃ v T' L', Stand p l e R s m args below meth c T' (locs ++ L') (cells + rm.cells) (slots + rm.slots) ∧ Q v T'.heap L' ∧ ∀ t, Steps p.tables e below (T'.setTop { g with pc := g.pc + 3, stack := v.toList ++ rest }) t → Steps p.tables e below (T.setTop g) t := by
  obtain ⟨v, vm1, ⟨T', L', k', n'⟩, -, X', ⟨Lc, hQ, q1, q2, q3⟩, st⟩ := X.specialBack hx hy1 hown (mvT hZ w1) (mvT hZ w2) (mvT hZ w4) hy (backOf (W := W) hM hZ w4 w3 hf hl) hg hsize (Steps.refl _) hlen hstack hW hdg (fun _ _ => ⟨has, eT, hcells, hslots⟩)
  dsimp only [Pt.U, Pt.locs, Pt.cells, Pt.slots] at X' q1 q2 q3 st hQ
  subst q1 q2 q3
  exact ⟨v, T', Lc, X', hQ, fun t k => st.trans k⟩
theorem own_callV (X : Stand p l e R s m args below meth c T locs cells slots) (hx : p.tables.exec = Jvm.exec) (hZ : Z.Warmed39 s.vm) {own : String} {index : Nat} {y : MethodName} {bytes : ByteArray} {maxL : Nat} {ret : Option FieldType} {rm : Room} {as' : Array Value} {W : Nat} {C : String}
    (hown : s.vm.findClass own = some m.cls) (w1 : (Jvm.Cond.methodLink own index y).before a0 Z = true) (w2 : (Jvm.Cond.declares y).before a0 Z = true) (w5 : (Jvm.Cond.selects C y y).before a0 Z = true) (w6 : (Jvm.Cond.instanceMethod y).before a0 Z = true) (w3 : (Jvm.Cond.initialized y.cls).before a0 Z = true) (w4 : (Jvm.Cond.code y bytes maxL ret).before a0 Z = true)
    (hy : y.cls ≠ "java/lang/invoke/MethodHandle" ∧ y.cls ≠ "java/lang/invoke/VarHandle")
    (hM : MetFree l y (head1 [Jvm.Cond.code y bytes maxL ret] rm) (fun a U => a = as' ∧ Z.Warmed39 U.vm ∧ U.heap = h) (fun _ _ _ _ _ => True) (fun _ U o U' => ∃ v L, o = .returned v ∧ Q v U'.heap L ∧ FrameEnd U o U' L rm.cells rm.slots))
    (hf : rm.frames + 1 ≤ R.frames) (hl : W + (maxL + 11) + rm.locals ≤ R.locals) (eT : T.heap = h) {b : Addr} (E : Exa Z h b C)
    {g : JFrame} (hg : g.method = m) (hsize : g.locals.size = c.maxLocals) {argsL rest : List Value} (has : (.ref b :: argsL).toArray = as') (hlen : ∀ sig, parseMethodDescriptor y.desc = some sig → argsL.length = sig.parameters.length)
    (hstack : g.stack = argsL.reverse ++ .ref b :: rest) (hW : 2 * g.monitorRoom + (rest.map fun v => v.category).sum ≤ W) (hdg : decode c.code g.pc = .ok (.invokevirtual index, 3))
    (hcells : cells + rm.cells ≤ R.cells) (hslots : slots + rm.slots ≤ R.slots) :
    ∃ v T' L', Stand p l e R s m args below meth c T' (locs ++ L') (cells + rm.cells) (slots + rm.slots) ∧ Q v T'.heap L' ∧ ∀ t, Steps p.tables e below (T'.setTop { g with pc := g.pc + 3, stack := v.toList ++ rest }) t → Steps p.tables e below (T.setTop g) t := by
  obtain ⟨cq, kq, qa, qb, qc⟩ := isOf hZ eT E
  obtain ⟨v, vm1, ⟨T', L', k', n'⟩, -, X', ⟨Lc, hQ, q1, q2, q3⟩, st⟩ := X.virtualBack hx hown (mvT hZ w1) (mvT hZ w2) (notFace_of_selects (args := #[]) (mvT hZ w5)) (mvT hZ w5) (mvT hZ w6) hy (backOf (W := W) hM hZ w4 w3 hf hl) qa qc hg hsize (Steps.refl _) hlen hstack hW hdg (fun _ _ => ⟨has, eT, hcells, hslots⟩)
  dsimp only [Pt.U, Pt.locs, Pt.cells, Pt.slots] at X' q1 q2 q3 st hQ
  subst q1 q2 q3
  exact ⟨v, T', Lc, X', hQ, fun t k => st.trans k⟩
end OwnG
theorem own_jlt {x y : Int64} (h : x < y) : ifCond.holds .lt (lcmpW x y) = true ∧ ifCond.holds .ge (lcmpW x y) = false := by
  have q := (lw_lt x y).mpr h
  exact ⟨(if0 _ _).trans (tlt q).1, (if0 _ _).trans (tlt q).2.1⟩
theorem own_jnlt {x y : Int64} (h : ¬ x < y) : ifCond.holds .lt (lcmpW x y) = false ∧ ifCond.holds .ge (lcmpW x y) = true := by
  have q := fun z => h ((lw_lt x y).mp z)
  exact ⟨(if0 _ _).trans (flt q).1, (if0 _ _).trans (flt q).2.1⟩
theorem own_jgt {x y : Int64} (h : y < x) : ifCond.holds .gt (lcmpW x y) = true ∧ ifCond.holds .le (lcmpW x y) = false := by
  have q := (lw_gt x y).mpr h
  exact ⟨(if0 _ _).trans (tlt q).2.2.1, (if0 _ _).trans (tlt q).2.2.2⟩
theorem own_jngt {x y : Int64} (h : ¬ y < x) : ifCond.holds .gt (lcmpW x y) = false ∧ ifCond.holds .le (lcmpW x y) = true := by
  have q := fun z => h ((lw_gt x y).mp z)
  exact ⟨(if0 _ _).trans (flt q).2.2.1, (if0 _ _).trans (flt q).2.2.2⟩
theorem own_jeq {x y : Int64} (h : x = y) : ifCond.holds .eq (lcmpW x y) = true ∧ ifCond.holds .ne (lcmpW x y) = false := by
  have q := (lw_eq x y).mpr h
  exact ⟨(if0 _ _).trans (teq q).1, (if0 _ _).trans (teq q).2⟩
theorem own_jne {x y : Int64} (h : ¬ x = y) : ifCond.holds .eq (lcmpW x y) = false ∧ ifCond.holds .ne (lcmpW x y) = true := by
  have q := fun z => h ((lw_eq x y).mp z)
  exact ⟨(if0 _ _).trans (feq q).1, (if0 _ _).trans (feq q).2⟩
theorem own_sta_keep {Z : State} {h h' : Heap} {C n d : String} {v : Value} {ws : List Addr} (F : Sta Z h C n d v) (K : Keep h h' ws) (q : ∀ x ∈ ws, ∃ cell : Cell, h[x]? = some cell ∧ cell.vm.isStatics = false) : Sta Z h' C n d v := by
  obtain ⟨cf, i, k, f, st, cell, h1, h2, h3, h4, h5, h6, h7⟩ := F
  refine ⟨cf, i, k, f, st, cell, h1, h2, h3, h4, K.2.1 st cell h5 (fun hm => ?_), h6, h7⟩
  obtain ⟨c', e1, e2⟩ := q st hm
  cases h5.symm.trans e1
  rw [e2] at h6; cases h6
theorem own_exa_ns {Z : State} {h : Heap} {a : Addr} {C : String} (E : Exa Z h a C) : ∃ cell : Cell, h[a]? = some cell ∧ cell.vm.isStatics = false := by
  obtain ⟨cell, k, h1, -, -, h4, -⟩ := E
  exact ⟨cell, h1, h4⟩
theorem own_arv_ns {Z : State} {h : Heap} {a : Addr} {k : ClassId} {ty : FieldType} {z : Int32} {vs : List Value} {dv : Value} (F : Arv Z h a k ty z vs dv) : ∃ cell : Cell, h[a]? = some cell ∧ cell.vm.isStatics = false := by
  obtain ⟨c, A, -⟩ := F
  exact ⟨c, A.1, A.plain⟩
theorem own_seg {tb : Tables} {e : Env} {below : List Frame} {U U' t : State} (a : Steps tb e below U' t → Steps tb e below U t) (b : Steps tb e below U' t) : Steps tb e below U t := a b
theorem own_NSroot {Z : State} {a0 : Array Value} {O K : String} {n : Nat} (w : (Jvm.Cond.noSuperclass O).before a0 Z = true) (wk : (Jvm.Cond.instantiable K n).before a0 Z = true) (hn : O ≠ K) : NS Z O K := by
  obtain ⟨c, k, h1, h2, h3, -, -⟩ := Cond.noSuperclass_spec w
  obtain ⟨t, kt, g1, -⟩ := Cond.instantiable_spec wk
  refine ⟨c, t, h1, g1, fun fuel => ?_⟩
  have ne := ids_ne h1 g1 hn
  cases fuel <;> simp [Vm.isSubclassAux, ne, h2, h3]
theorem own_NSno {Z : State} {a0 : Array Value} {C S K : String} {n : Nat} (w : (Jvm.Cond.superclass C S).before a0 Z = true) (wk : (Jvm.Cond.instantiable K n).before a0 Z = true) (nn : NS Z C K) (hn : C ≠ K) : ∃ c t, Z.vm.findClass C = some c ∧ Z.vm.findClass K = some t ∧ Z.vm.assignable c t = false := by
  obtain ⟨c, t, h0, g0, n3⟩ := nn
  obtain ⟨p, k, kp, h1, h2, h3, h4, h5, -, h7⟩ := Cond.superclass_spec h0 w
  obtain ⟨t', kt, g1, g2, g3, g4, -⟩ := Cond.instantiable_spec wk
  cases g0.symm.trans g1
  have g7 : kt.isInterface = false := by cases q : kt.isInterface <;> simp [q] at g4 ⊢
  have ne := ids_ne h0 g0 hn
  refine ⟨c, t, h0, g0, ?_⟩
  show Z.vm.assignableAux (255 + 1) c t = false
  simp [Vm.assignableAux, ne, h2, g2, h5, g3, g7, Vm.isSubclass, n3]
theorem own_lsz {args : Array Value} {s : State} {t : Term} {a : Addr} {c : Cell} {v : Value} (ht : t.eval args s none [] s = some (.ref a)) (ha : s.arrayAt? a = some c) (h : (Jvm.Term.length t).eval args s none [] s = some v) : c.slots.size < 2 ^ 31 := by
  by_cases q : c.slots.size < 2147483648
  · exact q
  · simp [Term.eval, ht, ha, q] at h
theorem own_idx {j : Int32} (hj : ¬ j < 0) : j.toNatClampNeg.toInt32 = j := (back32 hj).1
def Qrec (Z : State) (o : Addr) (h0 : Heap) (n0 : Nat) (v : Option Value) (h : Heap) (L : List Loc) : Prop := v = none ∧ Fr n0 L ∧ h = h0
theorem d_jdk_30_method_1_0 : decode jdk_30_method_1_code 0 = .ok (.aload_n 0, 1) := by decide +kernel
theorem d_jdk_30_method_1_1 : decode jdk_30_method_1_code 1 = .ok (.invokespecial 1, 3) := by decide +kernel
theorem d_jdk_30_method_1_4 : decode jdk_30_method_1_code 4 = .ok (.return_, 1) := by decide +kernel
theorem ef_rm_Qrec (m : MethodId) (x0 : Addr) : entryFrame m #[(.ref x0)] 1 = mkF m 0 #[.val (.ref x0)] [] := by first | (simp [entryFrame, mkF, argsToLocals, Value.category]; done) | rfl
theorem pn_java_lang_Record : plainName "java/lang/Record" = true := by first | (simp [plainName, overriddenIn]; done) | decide +kernel
set_option maxRecDepth 65536 in
set_option maxHeartbeats 40000000 in
theorem rm_Qrec (l : Launch) (Z : State) (a0 : Array Value) (hw : ∀ d ∈ tables_1, d.before a0 Z = true) (ws : List Jvm.Cond) (o : Addr) (h0 : Heap) (n0 : Nat) (Z0 : n0 ≤ h0.size) :
    MetFree l (⟨"java/lang/Record", "<init>", "()V"⟩ : MethodName) (head1 (Jvm.Cond.code (⟨"java/lang/Record", "<init>", "()V"⟩ : MethodName) jdk_30_method_1_code 1 none :: ws) ({ frames := 1, cells := 0, slots := 0, locals := 12 } : Room)) (fun aa_ UU_ => aa_ = #[(.ref o)] ∧ Z.Warmed39 UU_.vm ∧ UU_.heap = h0) (fun _ _ _ _ _ => True) (fun _ UU_ oo_ VV_ => ∃ vv_ LL_, oo_ = .returned vv_ ∧ Qrec Z o h0 n0 vv_ VV_.heap LL_ ∧ FrameEnd UU_ oo_ VV_ LL_ ({ frames := 1, cells := 0, slots := 0, locals := 12 } : Room).cells ({ frames := 1, cells := 0, slots := 0, locals := 12 } : Room).slots) := by
  refine MetFree.of_bodySF (plainFor_of_name pn_java_lang_Record) hisR ?_
  intro p e s m args below meth c s₁ Bd hml0 hP hK
  obtain ⟨rfl, hZ, hh⟩ := hP
  have hx := Bd.exec
  have hby := Bd.bytes
  have hml : c.maxLocals = 1 := hml0
  have hown : s.vm.findClass "java/lang/Record" = some m.cls := findClass_of_methodNamed Bd.named
  have hnm := (name_of_methodNamed Bd.named Bd.method).1
  have hlk : meth.locks = false := Bd.notSynchronized
  have X0 : Stand p l e ({ frames := 1, cells := 0, slots := 0, locals := 12 } : Room) s m #[(.ref o)] below meth c s₁ [] 0 0 := Stand.of_body Bd
  have e0 : s₁.heap = h0 := by rw [← hh, Bd.state]; rfl
  have N0 := Fr.nil n0
  have K0 := Keep.refl h0 []
  show own_G p e below s (Qrec Z o h0 n0) _ _ (s₁.setTop (entryFrame m #[(.ref o)] 1))
  rw [ef_rm_Qrec m o]
  refine own_via (U' := s₁.setTop (mkF m 1 #[.val (.ref o)] [(.ref o)])) (fun t k => XS.aloadN X0.here hx rfl (hb hby d_jdk_30_method_1_0) rfl rfl k) ?_
  obtain ⟨T1, X1, e1, st1⟩ := initO X0 hx hZ hown (hw _ (List.mem_of_getElem? (i := 11) rfl)) (hw _ (List.mem_of_getElem? (i := 12) rfl)) (hw _ (List.mem_of_getElem? (i := 13) rfl)) e0 (g := (mkF m 1 #[.val (.ref o)] [(.ref o)])) rfl (by rw [hml]; rfl) rfl (hb hby d_jdk_30_method_1_1) (by decide) (W := 0) (by show 2 * 0 + _ ≤ _; exact Nat.le_of_eq rfl) (by decide)
  refine own_via (U' := T1.setTop (mkF m 4 #[.val (.ref o)] [])) (fun t k => st1 t k) ?_
  exact own_ret X1 (v := none) (fun _ => rfl) hlk (fun fs hr => X1.returnOut hx Bd.returns (hb hby d_jdk_30_method_1_4) hr) (by rw [e1]; exact ⟨rfl, N0, rfl⟩) (by decide) (by decide)
theorem own_box (x : Int64) (h1 : ¬ x < (-128 : Int64)) (h2 : ¬ (127 : Int64) < x) : ¬ (((x.toInt32) + (128 : Int32)) < 0 ∨ 256 ≤ ((x.toInt32) + (128 : Int32)).toNatClampNeg) := by
  have e1 : (-128 : Int64).toInt = -128 := by decide
  have e2 : (127 : Int64).toInt = 127 := by decide
  have e3 : (128 : Int32).toInt = 128 := by decide
  have e0 : (0 : Int32).toInt = 0 := by decide
  rw [Int64.lt_iff_toInt_lt] at h1 h2
  have k1 := c_l2i x
  have k2 := c_iadd x.toInt32 128
  have r1 := rng32 x.toInt32
  have r2 := rng32 (x.toInt32 + 128)
  rw [Int32.lt_iff_toInt_lt]
  simp only [Int32.toNatClampNeg]
  omega
theorem own_256 : (256 : Int32).toNatClampNeg = 256 := by decide
def Qnum (Z : State) (o : Addr) (h0 : Heap) (n0 : Nat) (v : Option Value) (h : Heap) (L : List Loc) : Prop := v = none ∧ Fr n0 L ∧ h = h0
theorem d_jdk_18_method_1_0 : decode jdk_18_method_1_code 0 = .ok (.aload_n 0, 1) := by decide +kernel
theorem d_jdk_18_method_1_1 : decode jdk_18_method_1_code 1 = .ok (.invokespecial 1, 3) := by decide +kernel
theorem d_jdk_18_method_1_4 : decode jdk_18_method_1_code 4 = .ok (.return_, 1) := by decide +kernel
theorem ef_rm_Qnum (m : MethodId) (x0 : Addr) : entryFrame m #[(.ref x0)] 1 = mkF m 0 #[.val (.ref x0)] [] := by first | (simp [entryFrame, mkF, argsToLocals, Value.category]; done) | rfl
theorem pn_java_lang_Number : plainName "java/lang/Number" = true := by first | (simp [plainName, overriddenIn]; done) | decide +kernel
set_option maxRecDepth 65536 in
set_option maxHeartbeats 40000000 in
theorem rm_Qnum (l : Launch) (Z : State) (a0 : Array Value) (hw : ∀ d ∈ tables_1, d.before a0 Z = true) (ws : List Jvm.Cond) (o : Addr) (h0 : Heap) (n0 : Nat) (Z0 : n0 ≤ h0.size) :
    MetFree l (⟨"java/lang/Number", "<init>", "()V"⟩ : MethodName) (head1 (Jvm.Cond.code (⟨"java/lang/Number", "<init>", "()V"⟩ : MethodName) jdk_18_method_1_code 1 none :: ws) ({ frames := 1, cells := 0, slots := 0, locals := 12 } : Room)) (fun aa_ UU_ => aa_ = #[(.ref o)] ∧ Z.Warmed39 UU_.vm ∧ UU_.heap = h0) (fun _ _ _ _ _ => True) (fun _ UU_ oo_ VV_ => ∃ vv_ LL_, oo_ = .returned vv_ ∧ Qnum Z o h0 n0 vv_ VV_.heap LL_ ∧ FrameEnd UU_ oo_ VV_ LL_ ({ frames := 1, cells := 0, slots := 0, locals := 12 } : Room).cells ({ frames := 1, cells := 0, slots := 0, locals := 12 } : Room).slots) := by
  refine MetFree.of_bodySF (plainFor_of_name pn_java_lang_Number) hisR ?_
  intro p e s m args below meth c s₁ Bd hml0 hP hK
  obtain ⟨rfl, hZ, hh⟩ := hP
  have hx := Bd.exec
  have hby := Bd.bytes
  have hml : c.maxLocals = 1 := hml0
  have hown : s.vm.findClass "java/lang/Number" = some m.cls := findClass_of_methodNamed Bd.named
  have hnm := (name_of_methodNamed Bd.named Bd.method).1
  have hlk : meth.locks = false := Bd.notSynchronized
  have X0 : Stand p l e ({ frames := 1, cells := 0, slots := 0, locals := 12 } : Room) s m #[(.ref o)] below meth c s₁ [] 0 0 := Stand.of_body Bd
  have e0 : s₁.heap = h0 := by rw [← hh, Bd.state]; rfl
  have N0 := Fr.nil n0
  have K0 := Keep.refl h0 []
  show own_G p e below s (Qnum Z o h0 n0) _ _ (s₁.setTop (entryFrame m #[(.ref o)] 1))
  rw [ef_rm_Qnum m o]
  refine own_via (U' := s₁.setTop (mkF m 1 #[.val (.ref o)] [(.ref o)])) (fun t k => XS.aloadN X0.here hx rfl (hb hby d_jdk_18_method_1_0) rfl rfl k) ?_
  obtain ⟨T1, X1, e1, st1⟩ := initO X0 hx hZ hown (hw _ (List.mem_of_getElem? (i := 41) rfl)) (hw _ (List.mem_of_getElem? (i := 12) rfl)) (hw _ (List.mem_of_getElem? (i := 13) rfl)) e0 (g := (mkF m 1 #[.val (.ref o)] [(.ref o)])) rfl (by rw [hml]; rfl) rfl (hb hby d_jdk_18_method_1_1) (by decide) (W := 0) (by show 2 * 0 + _ ≤ _; exact Nat.le_of_eq rfl) (by decide)
  refine own_via (U' := T1.setTop (mkF m 4 #[.val (.ref o)] [])) (fun t k => st1 t k) ?_
  exact own_ret X1 (v := none) (fun _ => rfl) hlk (fun fs hr => X1.returnOut hx Bd.returns (hb hby d_jdk_18_method_1_4) hr) (by rw [e1]; exact ⟨rfl, N0, rfl⟩) (by decide) (by decide)
def Qli (Z : State) (o : Addr) (x1 : Int64) (h0 : Heap) (n0 : Nat) (v : Option Value) (h : Heap) (L : List Loc) : Prop := v = none ∧ Fr n0 L ∧ Keep h0 h [o] ∧ Exa Z h o "java/lang/Long" ∧ Fld Z h o "java/lang/Long" "value" "J" (.long x1)
theorem d_jdk_35_method_26_0 : decode jdk_35_method_26_code 0 = .ok (.aload_n 0, 1) := by decide +kernel
theorem pd___V : parseMethodDescriptor "()V" = some ⟨[], none⟩ := by decide +kernel
theorem d_jdk_35_method_26_1 : decode jdk_35_method_26_code 1 = .ok (.invokespecial 270, 3) := by decide +kernel
theorem d_jdk_35_method_26_4 : decode jdk_35_method_26_code 4 = .ok (.aload_n 0, 1) := by decide +kernel
theorem d_jdk_35_method_26_5 : decode jdk_35_method_26_code 5 = .ok (.lload_n 1, 1) := by decide +kernel
theorem d_jdk_35_method_26_6 : decode jdk_35_method_26_code 6 = .ok (.putfield 273, 3) := by decide +kernel
theorem d_jdk_35_method_26_9 : decode jdk_35_method_26_code 9 = .ok (.return_, 1) := by decide +kernel
theorem ef_rm_Qli (m : MethodId) (x0 : Addr) (x1 : Int64) : entryFrame m #[(.ref x0), (.long x1)] 3 = mkF m 0 #[.val (.ref x0), .val (.long x1), .second] [] := by first | (simp [entryFrame, mkF, argsToLocals, Value.category]; done) | rfl
theorem pn_java_lang_Long : plainName "java/lang/Long" = true := by first | (simp [plainName, overriddenIn]; done) | decide +kernel
set_option maxRecDepth 65536 in
set_option maxHeartbeats 40000000 in
theorem rm_Qli (l : Launch) (Z : State) (a0 : Array Value) (hw : ∀ d ∈ tables_1, d.before a0 Z = true) (ws : List Jvm.Cond) (o : Addr) (x1 : Int64) (h0 : Heap) (n0 : Nat) (Z0 : n0 ≤ h0.size) (Eo : Exa Z h0 o "java/lang/Long") (F_value : Fld Z h0 o "java/lang/Long" "value" "J" (.long (0 : Int64))) (gn_o : n0 ≤ o) :
    MetFree l (⟨"java/lang/Long", "<init>", "(J)V"⟩ : MethodName) (head1 (Jvm.Cond.code (⟨"java/lang/Long", "<init>", "(J)V"⟩ : MethodName) jdk_35_method_26_code 3 none :: ws) ({ frames := 2, cells := 0, slots := 0, locals := 24 } : Room)) (fun aa_ UU_ => aa_ = #[(.ref o), (.long x1)] ∧ Z.Warmed39 UU_.vm ∧ UU_.heap = h0) (fun _ _ _ _ _ => True) (fun _ UU_ oo_ VV_ => ∃ vv_ LL_, oo_ = .returned vv_ ∧ Qli Z o x1 h0 n0 vv_ VV_.heap LL_ ∧ FrameEnd UU_ oo_ VV_ LL_ ({ frames := 2, cells := 0, slots := 0, locals := 24 } : Room).cells ({ frames := 2, cells := 0, slots := 0, locals := 24 } : Room).slots) := by
  refine MetFree.of_bodySF (plainFor_of_name pn_java_lang_Long) hisR ?_
  intro p e s m args below meth c s₁ Bd hml0 hP hK
  obtain ⟨rfl, hZ, hh⟩ := hP
  have hx := Bd.exec
  have hby := Bd.bytes
  have hml : c.maxLocals = 3 := hml0
  have hown : s.vm.findClass "java/lang/Long" = some m.cls := findClass_of_methodNamed Bd.named
  have hnm := (name_of_methodNamed Bd.named Bd.method).1
  have hlk : meth.locks = false := Bd.notSynchronized
  have X0 : Stand p l e ({ frames := 2, cells := 0, slots := 0, locals := 24 } : Room) s m #[(.ref o), (.long x1)] below meth c s₁ [] 0 0 := Stand.of_body Bd
  have e0 : s₁.heap = h0 := by rw [← hh, Bd.state]; rfl
  have N0 := Fr.nil n0
  have K0 := Keep.refl h0 [o]
  show own_G p e below s (Qli Z o x1 h0 n0) _ _ (s₁.setTop (entryFrame m #[(.ref o), (.long x1)] 3))
  rw [ef_rm_Qli m o x1]
  refine own_via (U' := s₁.setTop (mkF m 1 #[.val (.ref o), .val (.long x1), .second] [(.ref o)])) (fun t k => XS.aloadN X0.here hx rfl (hb hby d_jdk_35_method_26_0) rfl rfl k) ?_
  obtain ⟨_, T1, L1, X1, hQ1, st1⟩ := own_callI X0 hx hZ (y := (⟨"java/lang/Number", "<init>", "()V"⟩ : MethodName)) rfl (W := 0) hown (hw _ (List.mem_of_getElem? (i := 35) rfl)) (hw _ (List.mem_of_getElem? (i := 36) rfl)) (hw _ (List.mem_of_getElem? (i := 39) rfl)) (hw _ (List.mem_of_getElem? (i := 40) rfl)) (by decide) (rm_Qnum l Z a0 hw [] o h0 n0 Z0) (by decide) (by decide) e0 (a := o) (g := (mkF m 1 #[.val (.ref o), .val (.long x1), .second] [(.ref o)])) rfl (by rw [hml]; rfl) (argsL := []) (rest := []) rfl (lenOf pd___V rfl) rfl (by show 2 * 0 + _ ≤ _; exact Nat.le_of_eq rfl) (hb hby d_jdk_35_method_26_1) (by decide) (by decide)
  obtain ⟨rfl, N1q, e1⟩ := hQ1
  have N1 := Fr.app N0 N1q
  refine own_via (U' := T1.setTop (mkF m 4 #[.val (.ref o), .val (.long x1), .second] [])) (fun t k => st1 t k) ?_
  refine own_via (U' := T1.setTop (mkF m 5 #[.val (.ref o), .val (.long x1), .second] [(.ref o)])) (fun t k => XS.aloadN X1.here hx rfl (hb hby d_jdk_35_method_26_4) rfl rfl k) ?_
  refine own_via (U' := T1.setTop (mkF m 6 #[.val (.ref o), .val (.long x1), .second] [(.long x1), (.ref o)])) (fun t k => XS.lloadN X1.here hx rfl (hb hby d_jdk_35_method_26_5) rfl k) ?_
  obtain ⟨T2, h2, X2, e2, W2, st2⟩ := putF (host := "") X1 hx hZ hown (Or.inl (hw _ (List.mem_of_getElem? (i := 42) rfl))) Via.refl e1 F_value Eo (Or.inr ⟨(hw _ (List.mem_of_getElem? (i := 43) rfl)), rfl, hnm⟩) (hw _ (List.mem_of_getElem? (i := 30) rfl)) (ty := .long) (by decide) rfl rfl (g := (mkF m 6 #[.val (.ref o), .val (.long x1), .second] [(.long x1), (.ref o)])) rfl rfl (hb hby d_jdk_35_method_26_6)
  have f2w := F_value.same W2
  have f3 := Eo.wr W2
  have Z4 : n0 ≤ h2.size := Nat.le_trans Z0 (Keep.of_wr W2).1
  have K4 := K0.wr W2 (Or.inl (List.mem_of_getElem? (i := 0) rfl))
  have N2 := Fr.snoc X2 N1 gn_o
  refine own_via (U' := T2.setTop (mkF m 9 #[.val (.ref o), .val (.long x1), .second] [])) (fun t k => st2 t k) ?_
  exact own_ret X2 (v := none) (fun _ => rfl) hlk (fun fs hr => X2.returnOut hx Bd.returns (hb hby d_jdk_35_method_26_9) hr) (by rw [e2]; exact ⟨rfl, N2, K4, f3, f2w⟩) (by decide) (by decide)
def Qvo (Z : State) (x1 : Int64) (ca : Addr) (cl : Cell) (h0 : Heap) (n0 : Nat) (v : Option Value) (h : Heap) (L : List Loc) : Prop := ∃ b : Addr, v = some (.ref b) ∧ Fr n0 L ∧ Keep h0 h [] ∧ Exa Z h b "java/lang/Long"
theorem d_jdk_35_method_24_0 : decode jdk_35_method_24_code 0 = .ok (.sipush 128, 3) := by decide +kernel
theorem d_jdk_35_method_24_3 : decode jdk_35_method_24_code 3 = .ok (.istore_n 2, 1) := by decide +kernel
theorem d_jdk_35_method_24_4 : decode jdk_35_method_24_code 4 = .ok (.lload_n 0, 1) := by decide +kernel
theorem d_jdk_35_method_24_5 : decode jdk_35_method_24_code 5 = .ok (.ldc2_w 230, 3) := by decide +kernel
theorem d_jdk_35_method_24_8 : decode jdk_35_method_24_code 8 = .ok (.lcmp, 1) := by decide +kernel
theorem d_jdk_35_method_24_9 : decode jdk_35_method_24_code 9 = .ok (.ifCond .lt 22, 3) := by decide +kernel
theorem d_jdk_35_method_24_31 : decode jdk_35_method_24_code 31 = .ok (.new 1, 3) := by decide +kernel
theorem d_jdk_35_method_24_34 : decode jdk_35_method_24_code 34 = .ok (.dup, 1) := by decide +kernel
theorem d_jdk_35_method_24_35 : decode jdk_35_method_24_code 35 = .ok (.lload_n 0, 1) := by decide +kernel
theorem pd_J__V : parseMethodDescriptor "(J)V" = some ⟨[.long], none⟩ := by decide +kernel
theorem d_jdk_35_method_24_36 : decode jdk_35_method_24_code 36 = .ok (.invokespecial 240, 3) := by decide +kernel
theorem d_jdk_35_method_24_39 : decode jdk_35_method_24_code 39 = .ok (.areturn, 1) := by decide +kernel
theorem d_jdk_35_method_24_12 : decode jdk_35_method_24_code 12 = .ok (.lload_n 0, 1) := by decide +kernel
theorem d_jdk_35_method_24_13 : decode jdk_35_method_24_code 13 = .ok (.ldc2_w 232, 3) := by decide +kernel
theorem d_jdk_35_method_24_16 : decode jdk_35_method_24_code 16 = .ok (.lcmp, 1) := by decide +kernel
theorem d_jdk_35_method_24_17 : decode jdk_35_method_24_code 17 = .ok (.ifCond .gt 14, 3) := by decide +kernel
theorem d_jdk_35_method_24_20 : decode jdk_35_method_24_code 20 = .ok (.getstatic 234, 3) := by decide +kernel
theorem d_jdk_35_method_24_23 : decode jdk_35_method_24_code 23 = .ok (.lload_n 0, 1) := by decide +kernel
theorem d_jdk_35_method_24_24 : decode jdk_35_method_24_code 24 = .ok (.l2i, 1) := by decide +kernel
theorem d_jdk_35_method_24_25 : decode jdk_35_method_24_code 25 = .ok (.sipush 128, 3) := by decide +kernel
theorem d_jdk_35_method_24_28 : decode jdk_35_method_24_code 28 = .ok (.iadd, 1) := by decide +kernel
theorem d_jdk_35_method_24_29 : decode jdk_35_method_24_code 29 = .ok (.aaload, 1) := by decide +kernel
theorem d_jdk_35_method_24_30 : decode jdk_35_method_24_code 30 = .ok (.areturn, 1) := by decide +kernel
theorem ef_rm_Qvo (m : MethodId) (x0 : Int64) : entryFrame m #[(.long x0)] 3 = mkF m 0 #[.val (.long x0), .second, .unset] [] := by first | (simp [entryFrame, mkF, argsToLocals, Value.category]; done) | rfl
set_option maxRecDepth 65536 in
set_option maxHeartbeats 40000000 in
theorem rm_Qvo (l : Launch) (Z : State) (a0 : Array Value) (hw : ∀ d ∈ tables_1, d.before a0 Z = true) (ws : List Jvm.Cond) (x1 : Int64) (ca : Addr) (cl : Cell) (h0 : Heap) (n0 : Nat) (Z0 : n0 ≤ h0.size) (Od : Old Z n0 h0) (Sc : Sta Z Z.heap "java/lang/Long$LongCache" "cache" "[Ljava/lang/Long;" (.ref ca)) (Bx : Bxs Z ca cl "java/lang/Long" "J" (256 : Int32) (fun j => .long ((j - (128 : Int32)).toInt64))) :
    MetFree l (⟨"java/lang/Long", "valueOf", "(J)Ljava/lang/Long;"⟩ : MethodName) (head1 (Jvm.Cond.code (⟨"java/lang/Long", "valueOf", "(J)Ljava/lang/Long;"⟩ : MethodName) jdk_35_method_24_code 3 (some (.object "java/lang/Long")) :: ws) ({ frames := 3, cells := 1, slots := 1, locals := 39 } : Room)) (fun aa_ UU_ => aa_ = #[(.long x1)] ∧ Z.Warmed39 UU_.vm ∧ UU_.heap = h0) (fun _ _ _ _ _ => True) (fun _ UU_ oo_ VV_ => ∃ vv_ LL_, oo_ = .returned vv_ ∧ Qvo Z x1 ca cl h0 n0 vv_ VV_.heap LL_ ∧ FrameEnd UU_ oo_ VV_ LL_ ({ frames := 3, cells := 1, slots := 1, locals := 39 } : Room).cells ({ frames := 3, cells := 1, slots := 1, locals := 39 } : Room).slots) := by
  refine MetFree.of_bodySF (plainFor_of_name pn_java_lang_Long) hisR ?_
  intro p e s m args below meth c s₁ Bd hml0 hP hK
  obtain ⟨rfl, hZ, hh⟩ := hP
  have hx := Bd.exec
  have hby := Bd.bytes
  have hml : c.maxLocals = 3 := hml0
  have hown : s.vm.findClass "java/lang/Long" = some m.cls := findClass_of_methodNamed Bd.named
  have hnm := (name_of_methodNamed Bd.named Bd.method).1
  have hlk : meth.locks = false := Bd.notSynchronized
  have X0 : Stand p l e ({ frames := 3, cells := 1, slots := 1, locals := 39 } : Room) s m #[(.long x1)] below meth c s₁ [] 0 0 := Stand.of_body Bd
  have e0 : s₁.heap = h0 := by rw [← hh, Bd.state]; rfl
  have N0 := Fr.nil n0
  have K0 := Keep.refl h0 []
  show own_G p e below s (Qvo Z x1 ca cl h0 n0) _ _ (s₁.setTop (entryFrame m #[(.long x1)] 3))
  rw [ef_rm_Qvo m x1]
  have Sc0 := Sc.ext Od.2
  obtain ⟨Ac0, Az0, -⟩ := Bx.ext Od.2
  refine own_via (U' := s₁.setTop (mkF m 3 #[.val (.long x1), .second, .unset] [(.int (128 : Int32))])) (fun t k => XS.sipush X0.here hx rfl (hb hby d_jdk_35_method_24_0) k) ?_
  refine own_via (U' := s₁.setTop (mkF m 4 #[.val (.long x1), .second, .val (.int (128 : Int32))] [])) (fun t k => XS.istoreN X0.here hx rfl (hb hby d_jdk_35_method_24_3) rfl (l' := #[.val (.long x1), .second, .val (.int (128 : Int32))]) rfl k) ?_
  refine own_via (U' := s₁.setTop (mkF m 5 #[.val (.long x1), .second, .val (.int (128 : Int32))] [(.long x1)])) (fun t k => XS.lloadN X0.here hx rfl (hb hby d_jdk_35_method_24_4) rfl k) ?_
  refine own_via (U' := s₁.setTop (mkF m 8 #[.val (.long x1), .second, .val (.int (128 : Int32))] [(.long (-128 : Int64)), (.long x1)])) (fun t k => X0.ldc2Long hx hown (mvT hZ (hw _ (List.mem_of_getElem? (i := 27) rfl))) (g := (mkF m 5 #[.val (.long x1), .second, .val (.int (128 : Int32))] [(.long x1)])) rfl (hb hby d_jdk_35_method_24_5) _ k) ?_
  refine own_via (U' := s₁.setTop (mkF m 9 #[.val (.long x1), .second, .val (.int (128 : Int32))] [(.int (lcmpW x1 (-128 : Int64)))])) (fun t k => XS.lcmp X0.here hx rfl (hb hby d_jdk_35_method_24_8) rfl k) ?_
  by_cases hc1 : x1 < (-128 : Int64)
  case pos =>
    refine own_via (U' := s₁.setTop (mkF m 31 #[.val (.long x1), .second, .val (.int (128 : Int32))] [])) (fun t k => XS.ifYes X0.here hx rfl (pc0 := 9) (pc' := 31) rfl (hb hby d_jdk_35_method_24_9) rfl (own_jlt hc1).1 (by decide) (by decide) k) ?_
    obtain ⟨T2, h2, X2, e2, E2, A2, D2, -, st2⟩ := newO X0 hx hZ hown (hw _ (List.mem_of_getElem? (i := 29) rfl)) (hw _ (List.mem_of_getElem? (i := 30) rfl)) (hw _ (List.mem_of_getElem? (i := 25) rfl)) e0 (g := (mkF m 31 #[.val (.long x1), .second, .val (.int (128 : Int32))] [])) rfl (hb hby d_jdk_35_method_24_31) (by decide) (by decide)
    obtain ⟨b2, g2⟩ : ∃ z, z = h0.size := ⟨_, rfl⟩
    rw [← g2] at A2 D2 st2
    have gn_b2 : n0 ≤ b2 := Nat.le_trans Z0 (Nat.le_of_eq g2.symm)
    have sz_b2 : h0.size ≤ b2 := Nat.le_trans K0.1 (Nat.le_of_eq g2.symm)
    have f3 := Sc0.ext E2
    have f4 : Fld Z h2 b2 "java/lang/Long" "value" "J" (.long (0 : Int64)) := D2 (Or.inr (hw _ (List.mem_of_getElem? (i := 43) rfl))) (ty := .long) (by decide)
    have Z5 : n0 ≤ h2.size := Nat.le_trans Z0 E2.1
    have K5 := K0.ext E2
    refine own_via (U' := T2.setTop (mkF m 34 #[.val (.long x1), .second, .val (.int (128 : Int32))] [(.ref b2)])) (fun t k => st2 t k) ?_
    refine own_via (U' := T2.setTop (mkF m 35 #[.val (.long x1), .second, .val (.int (128 : Int32))] [(.ref b2), (.ref b2)])) (fun t k => XS.dup X2.here hx rfl (hb hby d_jdk_35_method_24_34) rfl rfl k) ?_
    refine own_via (U' := T2.setTop (mkF m 36 #[.val (.long x1), .second, .val (.int (128 : Int32))] [(.long x1), (.ref b2), (.ref b2)])) (fun t k => XS.lloadN X2.here hx rfl (hb hby d_jdk_35_method_24_35) rfl k) ?_
    obtain ⟨_, T6, L6, X6, hQ6, st6⟩ := own_callI X2 hx hZ (y := (⟨"java/lang/Long", "<init>", "(J)V"⟩ : MethodName)) rfl (W := 1) hown (hw _ (List.mem_of_getElem? (i := 31) rfl)) (hw _ (List.mem_of_getElem? (i := 32) rfl)) (hw _ (List.mem_of_getElem? (i := 25) rfl)) (hw _ (List.mem_of_getElem? (i := 34) rfl)) (by decide) (rm_Qli l Z a0 hw [] b2 x1 h2 n0 Z5 A2 f4 gn_b2) (by decide) (by decide) e2 (a := b2) (g := (mkF m 36 #[.val (.long x1), .second, .val (.int (128 : Int32))] [(.long x1), (.ref b2), (.ref b2)])) rfl (by rw [hml]; rfl) (argsL := [(.long x1)]) (rest := [(.ref b2)]) rfl (lenOf pd_J__V rfl) rfl (by show 2 * 0 + _ ≤ _; exact Nat.le_of_eq rfl) (hb hby d_jdk_35_method_24_36) (by decide) (by decide)
    obtain ⟨rfl, N6q, K6q, E6q, F6q0⟩ := hQ6
    have N6 := Fr.app N0 N6q
    have f7 := own_sta_keep f3 K6q (allS (own_exa_ns A2) all0)
    have f8 := A2.keep K6q
    have Z9 : n0 ≤ T6.heap.size := Nat.le_trans Z5 K6q.1
    have K9 := K5.trans K6q (allS (Or.inr sz_b2) all0)
    refine own_via (U' := T6.setTop (mkF m 39 #[.val (.long x1), .second, .val (.int (128 : Int32))] [(.ref b2)])) (fun t k => st6 t k) ?_
    exact own_ret X6 (v := some (.ref b2)) (fun h => by rw [Bd.returns] at h; cases h) hlk (fun fs hr => retOut X6 hx (t := (.object "java/lang/Long")) Bd.returns rfl (Or.inr (Or.inr (Or.inr (Or.inr ⟨rfl, rfl, rfl⟩)))) (hb hby d_jdk_35_method_24_39) hr) (by exact ⟨b2, rfl, N6, K9, E6q⟩) (by decide) (by decide)
  case neg =>
    refine own_via (U' := s₁.setTop (mkF m 12 #[.val (.long x1), .second, .val (.int (128 : Int32))] [])) (fun t k => XS.ifNo X0.here hx rfl (hb hby d_jdk_35_method_24_9) rfl (own_jnlt hc1).1 k) ?_
    refine own_via (U' := s₁.setTop (mkF m 13 #[.val (.long x1), .second, .val (.int (128 : Int32))] [(.long x1)])) (fun t k => XS.lloadN X0.here hx rfl (hb hby d_jdk_35_method_24_12) rfl k) ?_
    refine own_via (U' := s₁.setTop (mkF m 16 #[.val (.long x1), .second, .val (.int (128 : Int32))] [(.long (127 : Int64)), (.long x1)])) (fun t k => X0.ldc2Long hx hown (mvT hZ (hw _ (List.mem_of_getElem? (i := 28) rfl))) (g := (mkF m 13 #[.val (.long x1), .second, .val (.int (128 : Int32))] [(.long x1)])) rfl (hb hby d_jdk_35_method_24_13) _ k) ?_
    refine own_via (U' := s₁.setTop (mkF m 17 #[.val (.long x1), .second, .val (.int (128 : Int32))] [(.int (lcmpW x1 (127 : Int64)))])) (fun t k => XS.lcmp X0.here hx rfl (hb hby d_jdk_35_method_24_16) rfl k) ?_
    by_cases hc10 : (127 : Int64) < x1
    case pos =>
      refine own_via (U' := s₁.setTop (mkF m 31 #[.val (.long x1), .second, .val (.int (128 : Int32))] [])) (fun t k => XS.ifYes X0.here hx rfl (pc0 := 17) (pc' := 31) rfl (hb hby d_jdk_35_method_24_17) rfl (own_jgt hc10).1 (by decide) (by decide) k) ?_
      obtain ⟨T11, h11, X11, e11, E11, A11, D11, -, st11⟩ := newO X0 hx hZ hown (hw _ (List.mem_of_getElem? (i := 29) rfl)) (hw _ (List.mem_of_getElem? (i := 30) rfl)) (hw _ (List.mem_of_getElem? (i := 25) rfl)) e0 (g := (mkF m 31 #[.val (.long x1), .second, .val (.int (128 : Int32))] [])) rfl (hb hby d_jdk_35_method_24_31) (by decide) (by decide)
      obtain ⟨b11, g11⟩ : ∃ z, z = h0.size := ⟨_, rfl⟩
      rw [← g11] at A11 D11 st11
      have gn_b11 : n0 ≤ b11 := Nat.le_trans Z0 (Nat.le_of_eq g11.symm)
      have sz_b11 : h0.size ≤ b11 := Nat.le_trans K0.1 (Nat.le_of_eq g11.symm)
      have f12 := Sc0.ext E11
      have f13 : Fld Z h11 b11 "java/lang/Long" "value" "J" (.long (0 : Int64)) := D11 (Or.inr (hw _ (List.mem_of_getElem? (i := 43) rfl))) (ty := .long) (by decide)
      have Z14 : n0 ≤ h11.size := Nat.le_trans Z0 E11.1
      have K14 := K0.ext E11
      refine own_via (U' := T11.setTop (mkF m 34 #[.val (.long x1), .second, .val (.int (128 : Int32))] [(.ref b11)])) (fun t k => st11 t k) ?_
      refine own_via (U' := T11.setTop (mkF m 35 #[.val (.long x1), .second, .val (.int (128 : Int32))] [(.ref b11), (.ref b11)])) (fun t k => XS.dup X11.here hx rfl (hb hby d_jdk_35_method_24_34) rfl rfl k) ?_
      refine own_via (U' := T11.setTop (mkF m 36 #[.val (.long x1), .second, .val (.int (128 : Int32))] [(.long x1), (.ref b11), (.ref b11)])) (fun t k => XS.lloadN X11.here hx rfl (hb hby d_jdk_35_method_24_35) rfl k) ?_
      obtain ⟨_, T15, L15, X15, hQ15, st15⟩ := own_callI X11 hx hZ (y := (⟨"java/lang/Long", "<init>", "(J)V"⟩ : MethodName)) rfl (W := 1) hown (hw _ (List.mem_of_getElem? (i := 31) rfl)) (hw _ (List.mem_of_getElem? (i := 32) rfl)) (hw _ (List.mem_of_getElem? (i := 25) rfl)) (hw _ (List.mem_of_getElem? (i := 34) rfl)) (by decide) (rm_Qli l Z a0 hw [] b11 x1 h11 n0 Z14 A11 f13 gn_b11) (by decide) (by decide) e11 (a := b11) (g := (mkF m 36 #[.val (.long x1), .second, .val (.int (128 : Int32))] [(.long x1), (.ref b11), (.ref b11)])) rfl (by rw [hml]; rfl) (argsL := [(.long x1)]) (rest := [(.ref b11)]) rfl (lenOf pd_J__V rfl) rfl (by show 2 * 0 + _ ≤ _; exact Nat.le_of_eq rfl) (hb hby d_jdk_35_method_24_36) (by decide) (by decide)
      obtain ⟨rfl, N15q, K15q, E15q, F15q0⟩ := hQ15
      have N15 := Fr.app N0 N15q
      have f16 := own_sta_keep f12 K15q (allS (own_exa_ns A11) all0)
      have f17 := A11.keep K15q
      have Z18 : n0 ≤ T15.heap.size := Nat.le_trans Z14 K15q.1
      have K18 := K14.trans K15q (allS (Or.inr sz_b11) all0)
      refine own_via (U' := T15.setTop (mkF m 39 #[.val (.long x1), .second, .val (.int (128 : Int32))] [(.ref b11)])) (fun t k => st15 t k) ?_
      exact own_ret X15 (v := some (.ref b11)) (fun h => by rw [Bd.returns] at h; cases h) hlk (fun fs hr => retOut X15 hx (t := (.object "java/lang/Long")) Bd.returns rfl (Or.inr (Or.inr (Or.inr (Or.inr ⟨rfl, rfl, rfl⟩)))) (hb hby d_jdk_35_method_24_39) hr) (by exact ⟨b11, rfl, N15, K18, E15q⟩) (by decide) (by decide)
    case neg =>
      refine own_via (U' := s₁.setTop (mkF m 20 #[.val (.long x1), .second, .val (.int (128 : Int32))] [])) (fun t k => XS.ifNo X0.here hx rfl (hb hby d_jdk_35_method_24_17) rfl (own_jngt hc10).1 k) ?_
      obtain ⟨T19, X19, e19, st19⟩ := getS2 (host := "") X0 hx hZ hown (Or.inl (hw _ (List.mem_of_getElem? (i := 47) rfl))) Via.refl e0 Sc0 (g := (mkF m 20 #[.val (.long x1), .second, .val (.int (128 : Int32))] [])) rfl (hb hby d_jdk_35_method_24_20)
      refine own_via (U' := T19.setTop (mkF m 23 #[.val (.long x1), .second, .val (.int (128 : Int32))] [(.ref ca)])) (fun t k => st19 t k) ?_
      refine own_via (U' := T19.setTop (mkF m 24 #[.val (.long x1), .second, .val (.int (128 : Int32))] [(.long x1), (.ref ca)])) (fun t k => XS.lloadN X19.here hx rfl (hb hby d_jdk_35_method_24_23) rfl k) ?_
      refine own_via (U' := T19.setTop (mkF m 25 #[.val (.long x1), .second, .val (.int (128 : Int32))] [(.int (x1.toInt32)), (.ref ca)])) (fun t k => XS.l2i X19.here hx rfl (hb hby d_jdk_35_method_24_24) rfl k) ?_
      refine own_via (U' := T19.setTop (mkF m 28 #[.val (.long x1), .second, .val (.int (128 : Int32))] [(.int (128 : Int32)), (.int (x1.toInt32)), (.ref ca)])) (fun t k => XS.sipush X19.here hx rfl (hb hby d_jdk_35_method_24_25) k) ?_
      refine own_via (U' := T19.setTop (mkF m 29 #[.val (.long x1), .second, .val (.int (128 : Int32))] [(.int ((x1.toInt32) + (128 : Int32))), (.ref ca)])) (fun t k => XS.iadd X19.here hx rfl (hb hby d_jdk_35_method_24_28) rfl k) ?_
      have hin : ¬ (((x1.toInt32) + (128 : Int32)) < 0 ∨ cl.slots.size ≤ ((x1.toInt32) + (128 : Int32)).toNatClampNeg) := by rw [Az0, own_256]; exact own_box x1 hc1 hc10
      obtain ⟨bx, hat, Ebx, -⟩ := Bx.2.2.2 ((x1.toInt32) + (128 : Int32)) hin
      have Ebx0 := Ebx.ext Od.2
      refine own_via (U' := T19.setTop (mkF m 30 #[.val (.long x1), .second, .val (.int (128 : Int32))] [(.ref bx)])) (fun t k => X19.aaload hx (j := ((x1.toInt32) + (128 : Int32))) (v := (.ref bx)) (by rw [e19]; exact Ac0.1) (State.isArrayOf_alike hZ.alike Ac0.2.1) rfl Ac0.2.2 hin hat (g := (mkF m 29 #[.val (.long x1), .second, .val (.int (128 : Int32))] [(.int ((x1.toInt32) + (128 : Int32))), (.ref ca)])) rfl rfl (hb hby d_jdk_35_method_24_29) _ k) ?_
      exact own_ret X19 (v := some (.ref bx)) (fun h => by rw [Bd.returns] at h; cases h) hlk (fun fs hr => retOut X19 hx (t := (.object "java/lang/Long")) Bd.returns rfl (Or.inr (Or.inr (Or.inr (Or.inr ⟨rfl, rfl, rfl⟩)))) (hb hby d_jdk_35_method_24_30) hr) (by rw [e19]; exact ⟨bx, rfl, N0, K0, Ebx0⟩) (by decide) (by decide)
def Qpi (Z : State) (o : Addr) (x1 : Int64) (h0 : Heap) (n0 : Nat) (v : Option Value) (h : Heap) (L : List Loc) : Prop := v = none ∧ Fr n0 L ∧ Keep h0 h [o] ∧ Exa Z h o "com/example/docketline/docketline/model/Price" ∧ Fld Z h o "com/example/docketline/docketline/model/Price" "units" "J" (.long x1)
theorem d_prog_56_method_1_0 : decode prog_56_method_1_code 0 = .ok (.aload_n 0, 1) := by decide +kernel
theorem d_prog_56_method_1_1 : decode prog_56_method_1_code 1 = .ok (.invokespecial 1, 3) := by decide +kernel
theorem d_prog_56_method_1_4 : decode prog_56_method_1_code 4 = .ok (.aload_n 0, 1) := by decide +kernel
theorem d_prog_56_method_1_5 : decode prog_56_method_1_code 5 = .ok (.lload_n 1, 1) := by decide +kernel
theorem d_prog_56_method_1_6 : decode prog_56_method_1_code 6 = .ok (.putfield 7, 3) := by decide +kernel
theorem d_prog_56_method_1_9 : decode prog_56_method_1_code 9 = .ok (.return_, 1) := by decide +kernel
theorem ef_rm_Qpi (m : MethodId) (x0 : Addr) (x1 : Int64) : entryFrame m #[(.ref x0), (.long x1)] 3 = mkF m 0 #[.val (.ref x0), .val (.long x1), .second] [] := by first | (simp [entryFrame, mkF, argsToLocals, Value.category]; done) | rfl
theorem pn_com_example_docketline_docketline_model_Price : plainName "com/example/docketline/docketline/model/Price" = true := by first | (simp [plainName, overriddenIn]; done) | decide +kernel
set_option maxRecDepth 65536 in
set_option maxHeartbeats 40000000 in
theorem rm_Qpi (l : Launch) (Z : State) (a0 : Array Value) (hw : ∀ d ∈ tables_1, d.before a0 Z = true) (ws : List Jvm.Cond) (o : Addr) (x1 : Int64) (h0 : Heap) (n0 : Nat) (Z0 : n0 ≤ h0.size) (Eo : Exa Z h0 o "com/example/docketline/docketline/model/Price") (F_units : Fld Z h0 o "com/example/docketline/docketline/model/Price" "units" "J" (.long (0 : Int64))) (gn_o : n0 ≤ o) :
    MetFree l (⟨"com/example/docketline/docketline/model/Price", "<init>", "(J)V"⟩ : MethodName) (head1 (Jvm.Cond.code (⟨"com/example/docketline/docketline/model/Price", "<init>", "(J)V"⟩ : MethodName) prog_56_method_1_code 3 none :: ws) ({ frames := 2, cells := 0, slots := 0, locals := 24 } : Room)) (fun aa_ UU_ => aa_ = #[(.ref o), (.long x1)] ∧ Z.Warmed39 UU_.vm ∧ UU_.heap = h0) (fun _ _ _ _ _ => True) (fun _ UU_ oo_ VV_ => ∃ vv_ LL_, oo_ = .returned vv_ ∧ Qpi Z o x1 h0 n0 vv_ VV_.heap LL_ ∧ FrameEnd UU_ oo_ VV_ LL_ ({ frames := 2, cells := 0, slots := 0, locals := 24 } : Room).cells ({ frames := 2, cells := 0, slots := 0, locals := 24 } : Room).slots) := by
  refine MetFree.of_bodySF (plainFor_of_name pn_com_example_docketline_docketline_model_Price) hisR ?_
  intro p e s m args below meth c s₁ Bd hml0 hP hK
  obtain ⟨rfl, hZ, hh⟩ := hP
  have hx := Bd.exec
  have hby := Bd.bytes
  have hml : c.maxLocals = 3 := hml0
  have hown : s.vm.findClass "com/example/docketline/docketline/model/Price" = some m.cls := findClass_of_methodNamed Bd.named
  have hnm := (name_of_methodNamed Bd.named Bd.method).1
  have hlk : meth.locks = false := Bd.notSynchronized
  have X0 : Stand p l e ({ frames := 2, cells := 0, slots := 0, locals := 24 } : Room) s m #[(.ref o), (.long x1)] below meth c s₁ [] 0 0 := Stand.of_body Bd
  have e0 : s₁.heap = h0 := by rw [← hh, Bd.state]; rfl
  have N0 := Fr.nil n0
  have K0 := Keep.refl h0 [o]
  show own_G p e below s (Qpi Z o x1 h0 n0) _ _ (s₁.setTop (entryFrame m #[(.ref o), (.long x1)] 3))
  rw [ef_rm_Qpi m o x1]
  refine own_via (U' := s₁.setTop (mkF m 1 #[.val (.ref o), .val (.long x1), .second] [(.ref o)])) (fun t k => XS.aloadN X0.here hx rfl (hb hby d_prog_56_method_1_0) rfl rfl k) ?_
  obtain ⟨_, T1, L1, X1, hQ1, st1⟩ := own_callI X0 hx hZ (y := (⟨"java/lang/Record", "<init>", "()V"⟩ : MethodName)) rfl (W := 0) hown (hw _ (List.mem_of_getElem? (i := 6) rfl)) (hw _ (List.mem_of_getElem? (i := 7) rfl)) (hw _ (List.mem_of_getElem? (i := 9) rfl)) (hw _ (List.mem_of_getElem? (i := 10) rfl)) (by decide) (rm_Qrec l Z a0 hw [] o h0 n0 Z0) (by decide) (by decide) e0 (a := o) (g := (mkF m 1 #[.val (.ref o), .val (.long x1), .second] [(.ref o)])) rfl (by rw [hml]; rfl) (argsL := []) (rest := []) rfl (lenOf pd___V rfl) rfl (by show 2 * 0 + _ ≤ _; exact Nat.le_of_eq rfl) (hb hby d_prog_56_method_1_1) (by decide) (by decide)
  obtain ⟨rfl, N1q, e1⟩ := hQ1
  have N1 := Fr.app N0 N1q
  refine own_via (U' := T1.setTop (mkF m 4 #[.val (.ref o), .val (.long x1), .second] [])) (fun t k => st1 t k) ?_
  refine own_via (U' := T1.setTop (mkF m 5 #[.val (.ref o), .val (.long x1), .second] [(.ref o)])) (fun t k => XS.aloadN X1.here hx rfl (hb hby d_prog_56_method_1_4) rfl rfl k) ?_
  refine own_via (U' := T1.setTop (mkF m 6 #[.val (.ref o), .val (.long x1), .second] [(.long x1), (.ref o)])) (fun t k => XS.lloadN X1.here hx rfl (hb hby d_prog_56_method_1_5) rfl k) ?_
  obtain ⟨T2, h2, X2, e2, W2, st2⟩ := putF (host := "") X1 hx hZ hown (Or.inl (hw _ (List.mem_of_getElem? (i := 14) rfl))) Via.refl e1 F_units Eo (Or.inr ⟨(hw _ (List.mem_of_getElem? (i := 15) rfl)), rfl, hnm⟩) (hw _ (List.mem_of_getElem? (i := 1) rfl)) (ty := .long) (by decide) rfl rfl (g := (mkF m 6 #[.val (.ref o), .val (.long x1), .second] [(.long x1), (.ref o)])) rfl rfl (hb hby d_prog_56_method_1_6)
  have f2w := F_units.same W2
  have f3 := Eo.wr W2
  have Z4 : n0 ≤ h2.size := Nat.le_trans Z0 (Keep.of_wr W2).1
  have K4 := K0.wr W2 (Or.inl (List.mem_of_getElem? (i := 0) rfl))
  have N2 := Fr.snoc X2 N1 gn_o
  refine own_via (U' := T2.setTop (mkF m 9 #[.val (.ref o), .val (.long x1), .second] [])) (fun t k => st2 t k) ?_
  exact own_ret X2 (v := none) (fun _ => rfl) hlk (fun fs hr => X2.returnOut hx Bd.returns (hb hby d_prog_56_method_1_9) hr) (by rw [e2]; exact ⟨rfl, N2, K4, f3, f2w⟩) (by decide) (by decide)
def Qe1 (Z : State) (o q : Addr) (u1 u2 : Int64) (h0 : Heap) (n0 : Nat) (v : Option Value) (h : Heap) (L : List Loc) : Prop := v = some (.int (if u2 = u1 then (1 : Int32) else (0 : Int32))) ∧ Fr n0 L ∧ h = h0
theorem d_prog_56_method_8_0 : decode prog_56_method_8_code 0 = .ok (.aload_n 1, 1) := by decide +kernel
theorem d_prog_56_method_8_1 : decode prog_56_method_8_code 1 = .ok (.instanceof 8, 3) := by decide +kernel
theorem d_prog_56_method_8_4 : decode prog_56_method_8_code 4 = .ok (.ifCond .eq 24, 3) := by decide +kernel
theorem d_prog_56_method_8_7 : decode prog_56_method_8_code 7 = .ok (.aload_n 1, 1) := by decide +kernel
theorem d_prog_56_method_8_8 : decode prog_56_method_8_code 8 = .ok (.checkcast 8, 3) := by decide +kernel
theorem d_prog_56_method_8_11 : decode prog_56_method_8_code 11 = .ok (.astore_n 2, 1) := by decide +kernel
theorem d_prog_56_method_8_12 : decode prog_56_method_8_code 12 = .ok (.aload_n 2, 1) := by decide +kernel
theorem d_prog_56_method_8_13 : decode prog_56_method_8_code 13 = .ok (.getfield 7, 3) := by decide +kernel
theorem d_prog_56_method_8_16 : decode prog_56_method_8_code 16 = .ok (.aload_n 0, 1) := by decide +kernel
theorem d_prog_56_method_8_17 : decode prog_56_method_8_code 17 = .ok (.getfield 7, 3) := by decide +kernel
theorem d_prog_56_method_8_20 : decode prog_56_method_8_code 20 = .ok (.lcmp, 1) := by decide +kernel
theorem d_prog_56_method_8_21 : decode prog_56_method_8_code 21 = .ok (.ifCond .ne 7, 3) := by decide +kernel
theorem d_prog_56_method_8_24 : decode prog_56_method_8_code 24 = .ok (.iconst 1, 1) := by decide +kernel
theorem d_prog_56_method_8_25 : decode prog_56_method_8_code 25 = .ok (.goto 4, 3) := by decide +kernel
theorem d_prog_56_method_8_29 : decode prog_56_method_8_code 29 = .ok (.ireturn, 1) := by decide +kernel
theorem d_prog_56_method_8_28 : decode prog_56_method_8_code 28 = .ok (.iconst 0, 1) := by decide +kernel
theorem ef_rm_Qe1 (m : MethodId) (x0 : Addr) (x1 : Addr) : entryFrame m #[(.ref x0), (.ref x1)] 3 = mkF m 0 #[.val (.ref x0), .val (.ref x1), .unset] [] := by first | (simp [entryFrame, mkF, argsToLocals, Value.category]; done) | rfl
set_option maxRecDepth 65536 in
set_option maxHeartbeats 40000000 in
theorem rm_Qe1 (l : Launch) (Z : State) (a0 : Array Value) (hw : ∀ d ∈ tables_1, d.before a0 Z = true) (ws : List Jvm.Cond) (o q : Addr) (u1 u2 : Int64) (h0 : Heap) (n0 : Nat) (Z0 : n0 ≤ h0.size) (Eq : Exa Z h0 q "com/example/docketline/docketline/model/Price") (Fo : Fld Z h0 o "com/example/docketline/docketline/model/Price" "units" "J" (.long u1)) (Fq : Fld Z h0 q "com/example/docketline/docketline/model/Price" "units" "J" (.long u2)) :
    MetFree l (⟨"com/example/docketline/docketline/model/Price", "equals", "(Ljava/lang/Object;)Z"⟩ : MethodName) (head1 (Jvm.Cond.code (⟨"com/example/docketline/docketline/model/Price", "equals", "(Ljava/lang/Object;)Z"⟩ : MethodName) prog_56_method_8_code 3 (some .boolean) :: ws) ({ frames := 0, cells := 0, slots := 0, locals := 0 } : Room)) (fun aa_ UU_ => aa_ = #[(.ref o), (.ref q)] ∧ Z.Warmed39 UU_.vm ∧ UU_.heap = h0) (fun _ _ _ _ _ => True) (fun _ UU_ oo_ VV_ => ∃ vv_ LL_, oo_ = .returned vv_ ∧ Qe1 Z o q u1 u2 h0 n0 vv_ VV_.heap LL_ ∧ FrameEnd UU_ oo_ VV_ LL_ ({ frames := 0, cells := 0, slots := 0, locals := 0 } : Room).cells ({ frames := 0, cells := 0, slots := 0, locals := 0 } : Room).slots) := by
  refine MetFree.of_bodySF (plainFor_of_name pn_com_example_docketline_docketline_model_Price) hisR ?_
  intro p e s m args below meth c s₁ Bd hml0 hP hK
  obtain ⟨rfl, hZ, hh⟩ := hP
  have hx := Bd.exec
  have hby := Bd.bytes
  have hml : c.maxLocals = 3 := hml0
  have hown : s.vm.findClass "com/example/docketline/docketline/model/Price" = some m.cls := findClass_of_methodNamed Bd.named
  have hnm := (name_of_methodNamed Bd.named Bd.method).1
  have hlk : meth.locks = false := Bd.notSynchronized
  have X0 : Stand p l e ({ frames := 0, cells := 0, slots := 0, locals := 0 } : Room) s m #[(.ref o), (.ref q)] below meth c s₁ [] 0 0 := Stand.of_body Bd
  have e0 : s₁.heap = h0 := by rw [← hh, Bd.state]; rfl
  have N0 := Fr.nil n0
  have K0 := Keep.refl h0 []
  show own_G p e below s (Qe1 Z o q u1 u2 h0 n0) _ _ (s₁.setTop (entryFrame m #[(.ref o), (.ref q)] 3))
  rw [ef_rm_Qe1 m o q]
  refine own_via (U' := s₁.setTop (mkF m 1 #[.val (.ref o), .val (.ref q), .unset] [(.ref q)])) (fun t k => XS.aloadN X0.here hx rfl (hb hby d_prog_56_method_8_0) rfl rfl k) ?_
  obtain ⟨T1, X1, e1, st1⟩ := instY X0 hx hZ hown (hw _ (List.mem_of_getElem? (i := 21) rfl)) e0 (Ins.self Eq) (g := (mkF m 1 #[.val (.ref o), .val (.ref q), .unset] [(.ref q)])) rfl rfl (hb hby d_prog_56_method_8_1)
  refine own_via (U' := T1.setTop (mkF m 4 #[.val (.ref o), .val (.ref q), .unset] [(.int (1 : Int32))])) (fun t k => st1 t k) ?_
  refine own_via (U' := T1.setTop (mkF m 7 #[.val (.ref o), .val (.ref q), .unset] [])) (fun t k => XS.ifNo X1.here hx rfl (hb hby d_prog_56_method_8_4) rfl ((if0 _ _).trans (feq (by decide : ¬ ((1 : Int32) = (0 : Int32)))).1) k) ?_
  refine own_via (U' := T1.setTop (mkF m 8 #[.val (.ref o), .val (.ref q), .unset] [(.ref q)])) (fun t k => XS.aloadN X1.here hx rfl (hb hby d_prog_56_method_8_7) rfl rfl k) ?_
  obtain ⟨T2, X2, e2, st2⟩ := castY X1 hx hZ hown (hw _ (List.mem_of_getElem? (i := 21) rfl)) e1 (Ins.self Eq) (g := (mkF m 8 #[.val (.ref o), .val (.ref q), .unset] [(.ref q)])) rfl rfl (hb hby d_prog_56_method_8_8)
  refine own_via (U' := T2.setTop (mkF m 11 #[.val (.ref o), .val (.ref q), .unset] [(.ref q)])) (fun t k => st2 t k) ?_
  refine own_via (U' := T2.setTop (mkF m 12 #[.val (.ref o), .val (.ref q), .val (.ref q)] [])) (fun t k => XS.astoreN X2.here hx rfl (hb hby d_prog_56_method_8_11) rfl rfl (l' := #[.val (.ref o), .val (.ref q), .val (.ref q)]) rfl k) ?_
  refine own_via (U' := T2.setTop (mkF m 13 #[.val (.ref o), .val (.ref q), .val (.ref q)] [(.ref q)])) (fun t k => XS.aloadN X2.here hx rfl (hb hby d_prog_56_method_8_12) rfl rfl k) ?_
  obtain ⟨T3, X3, e3, st3⟩ := getF (host := "") X2 hx hZ hown (Or.inl (hw _ (List.mem_of_getElem? (i := 14) rfl))) Via.refl e2 Fq (g := (mkF m 13 #[.val (.ref o), .val (.ref q), .val (.ref q)] [(.ref q)])) rfl rfl (hb hby d_prog_56_method_8_13)
  refine own_via (U' := T3.setTop (mkF m 16 #[.val (.ref o), .val (.ref q), .val (.ref q)] [(.long u2)])) (fun t k => st3 t k) ?_
  refine own_via (U' := T3.setTop (mkF m 17 #[.val (.ref o), .val (.ref q), .val (.ref q)] [(.ref o), (.long u2)])) (fun t k => XS.aloadN X3.here hx rfl (hb hby d_prog_56_method_8_16) rfl rfl k) ?_
  obtain ⟨T4, X4, e4, st4⟩ := getF (host := "") X3 hx hZ hown (Or.inl (hw _ (List.mem_of_getElem? (i := 14) rfl))) Via.refl e3 Fo (g := (mkF m 17 #[.val (.ref o), .val (.ref q), .val (.ref q)] [(.ref o), (.long u2)])) rfl rfl (hb hby d_prog_56_method_8_17)
  refine own_via (U' := T4.setTop (mkF m 20 #[.val (.ref o), .val (.ref q), .val (.ref q)] [(.long u1), (.long u2)])) (fun t k => st4 t k) ?_
  refine own_via (U' := T4.setTop (mkF m 21 #[.val (.ref o), .val (.ref q), .val (.ref q)] [(.int (lcmpW u2 u1))])) (fun t k => XS.lcmp X4.here hx rfl (hb hby d_prog_56_method_8_20) rfl k) ?_
  by_cases hc5 : u2 = u1
  case pos =>
    refine own_via (U' := T4.setTop (mkF m 24 #[.val (.ref o), .val (.ref q), .val (.ref q)] [])) (fun t k => XS.ifNo X4.here hx rfl (hb hby d_prog_56_method_8_21) rfl (own_jeq hc5).2 k) ?_
    refine own_via (U' := T4.setTop (mkF m 25 #[.val (.ref o), .val (.ref q), .val (.ref q)] [(.int (1 : Int32))])) (fun t k => XS.iconst X4.here hx rfl (hb hby d_prog_56_method_8_24) k) ?_
    refine own_via (U' := T4.setTop (mkF m 29 #[.val (.ref o), .val (.ref q), .val (.ref q)] [(.int (1 : Int32))])) (fun t k => XS.goto X4.here hx rfl (pc0 := 25) (pc' := 29) rfl (hb hby d_prog_56_method_8_25) (by decide) (by decide) k) ?_
    exact own_ret X4 (v := some (.int (1 : Int32))) (fun h => by rw [Bd.returns] at h; cases h) hlk (fun fs hr => retN X4 hx (t := .boolean) Bd.returns (by simp) (hb hby d_prog_56_method_8_29) hr) (by rw [e4]; exact ⟨by first | rfl | (simp only [if_pos hc5]), N0, rfl⟩) (by decide) (by decide)
  case neg =>
    refine own_via (U' := T4.setTop (mkF m 28 #[.val (.ref o), .val (.ref q), .val (.ref q)] [])) (fun t k => XS.ifYes X4.here hx rfl (pc0 := 21) (pc' := 28) rfl (hb hby d_prog_56_method_8_21) rfl (own_jne hc5).2 (by decide) (by decide) k) ?_
    refine own_via (U' := T4.setTop (mkF m 29 #[.val (.ref o), .val (.ref q), .val (.ref q)] [(.int (0 : Int32))])) (fun t k => XS.iconst X4.here hx rfl (hb hby d_prog_56_method_8_28) k) ?_
    exact own_ret X4 (v := some (.int (0 : Int32))) (fun h => by rw [Bd.returns] at h; cases h) hlk (fun fs hr => retN X4 hx (t := .boolean) Bd.returns (by simp) (hb hby d_prog_56_method_8_29) hr) (by rw [e4]; exact ⟨by first | rfl | (simp only [if_neg hc5]), N0, rfl⟩) (by decide) (by decide)
def Qe2 (Z : State) (o : Addr) (h0 : Heap) (n0 : Nat) (v : Option Value) (h : Heap) (L : List Loc) : Prop := v = some (.int (0 : Int32)) ∧ Fr n0 L ∧ h = h0
theorem ef_rm_Qe2 (m : MethodId) (x0 : Addr) : entryFrame m #[(.ref x0), .null] 3 = mkF m 0 #[.val (.ref x0), .val .null, .unset] [] := by first | (simp [entryFrame, mkF, argsToLocals, Value.category]; done) | rfl
set_option maxRecDepth 65536 in
set_option maxHeartbeats 40000000 in
theorem rm_Qe2 (l : Launch) (Z : State) (a0 : Array Value) (hw : ∀ d ∈ tables_1, d.before a0 Z = true) (ws : List Jvm.Cond) (o : Addr) (h0 : Heap) (n0 : Nat) (Z0 : n0 ≤ h0.size) :
    MetFree l (⟨"com/example/docketline/docketline/model/Price", "equals", "(Ljava/lang/Object;)Z"⟩ : MethodName) (head1 (Jvm.Cond.code (⟨"com/example/docketline/docketline/model/Price", "equals", "(Ljava/lang/Object;)Z"⟩ : MethodName) prog_56_method_8_code 3 (some .boolean) :: ws) ({ frames := 0, cells := 0, slots := 0, locals := 0 } : Room)) (fun aa_ UU_ => aa_ = #[(.ref o), .null] ∧ Z.Warmed39 UU_.vm ∧ UU_.heap = h0) (fun _ _ _ _ _ => True) (fun _ UU_ oo_ VV_ => ∃ vv_ LL_, oo_ = .returned vv_ ∧ Qe2 Z o h0 n0 vv_ VV_.heap LL_ ∧ FrameEnd UU_ oo_ VV_ LL_ ({ frames := 0, cells := 0, slots := 0, locals := 0 } : Room).cells ({ frames := 0, cells := 0, slots := 0, locals := 0 } : Room).slots) := by
  refine MetFree.of_bodySF (plainFor_of_name pn_com_example_docketline_docketline_model_Price) hisR ?_
  intro p e s m args below meth c s₁ Bd hml0 hP hK
  obtain ⟨rfl, hZ, hh⟩ := hP
  have hx := Bd.exec
  have hby := Bd.bytes
  have hml : c.maxLocals = 3 := hml0
  have hown : s.vm.findClass "com/example/docketline/docketline/model/Price" = some m.cls := findClass_of_methodNamed Bd.named
  have hnm := (name_of_methodNamed Bd.named Bd.method).1
  have hlk : meth.locks = false := Bd.notSynchronized
  have X0 : Stand p l e ({ frames := 0, cells := 0, slots := 0, locals := 0 } : Room) s m #[(.ref o), .null] below meth c s₁ [] 0 0 := Stand.of_body Bd
  have e0 : s₁.heap = h0 := by rw [← hh, Bd.state]; rfl
  have N0 := Fr.nil n0
  have K0 := Keep.refl h0 []
  show own_G p e below s (Qe2 Z o h0 n0) _ _ (s₁.setTop (entryFrame m #[(.ref o), .null] 3))
  rw [ef_rm_Qe2 m o]
  refine own_via (U' := s₁.setTop (mkF m 1 #[.val (.ref o), .val .null, .unset] [.null])) (fun t k => XS.aloadN X0.here hx rfl (hb hby d_prog_56_method_8_0) rfl rfl k) ?_
  refine own_via (U' := s₁.setTop (mkF m 4 #[.val (.ref o), .val .null, .unset] [(.int (0 : Int32))])) (fun t k => X0.instanceofNull hx (g := (mkF m 1 #[.val (.ref o), .val .null, .unset] [.null])) rfl rfl (hb hby d_prog_56_method_8_1) _ k) ?_
  refine own_via (U' := s₁.setTop (mkF m 28 #[.val (.ref o), .val .null, .unset] [])) (fun t k => XS.ifYes X0.here hx rfl (pc0 := 4) (pc' := 28) rfl (hb hby d_prog_56_method_8_4) rfl ((if0 _ _).trans (teq (by decide : ((0 : Int32) = (0 : Int32)))).1) (by decide) (by decide) k) ?_
  refine own_via (U' := s₁.setTop (mkF m 29 #[.val (.ref o), .val .null, .unset] [(.int (0 : Int32))])) (fun t k => XS.iconst X0.here hx rfl (hb hby d_prog_56_method_8_28) k) ?_
  exact own_ret X0 (v := some (.int (0 : Int32))) (fun h => by rw [Bd.returns] at h; cases h) hlk (fun fs hr => retN X0 hx (t := .boolean) Bd.returns (by simp) (hb hby d_prog_56_method_8_29) hr) (by rw [e0]; exact ⟨rfl, N0, rfl⟩) (by decide) (by decide)
def Qe3 (Z : State) (o q : Addr) (h0 : Heap) (n0 : Nat) (v : Option Value) (h : Heap) (L : List Loc) : Prop := v = some (.int (0 : Int32)) ∧ Fr n0 L ∧ h = h0
theorem ef_rm_Qe3 (m : MethodId) (x0 : Addr) (x1 : Addr) : entryFrame m #[(.ref x0), (.ref x1)] 3 = mkF m 0 #[.val (.ref x0), .val (.ref x1), .unset] [] := by first | (simp [entryFrame, mkF, argsToLocals, Value.category]; done) | rfl
set_option maxRecDepth 65536 in
set_option maxHeartbeats 40000000 in
theorem rm_Qe3 (l : Launch) (Z : State) (a0 : Array Value) (hw : ∀ d ∈ tables_1, d.before a0 Z = true) (ws : List Jvm.Cond) (o q : Addr) (h0 : Heap) (n0 : Nat) (Z0 : n0 ≤ h0.size) (Eq : Exa Z h0 q "java/lang/Long") :
    MetFree l (⟨"com/example/docketline/docketline/model/Price", "equals", "(Ljava/lang/Object;)Z"⟩ : MethodName) (head1 (Jvm.Cond.code (⟨"com/example/docketline/docketline/model/Price", "equals", "(Ljava/lang/Object;)Z"⟩ : MethodName) prog_56_method_8_code 3 (some .boolean) :: ws) ({ frames := 0, cells := 0, slots := 0, locals := 0 } : Room)) (fun aa_ UU_ => aa_ = #[(.ref o), (.ref q)] ∧ Z.Warmed39 UU_.vm ∧ UU_.heap = h0) (fun _ _ _ _ _ => True) (fun _ UU_ oo_ VV_ => ∃ vv_ LL_, oo_ = .returned vv_ ∧ Qe3 Z o q h0 n0 vv_ VV_.heap LL_ ∧ FrameEnd UU_ oo_ VV_ LL_ ({ frames := 0, cells := 0, slots := 0, locals := 0 } : Room).cells ({ frames := 0, cells := 0, slots := 0, locals := 0 } : Room).slots) := by
  refine MetFree.of_bodySF (plainFor_of_name pn_com_example_docketline_docketline_model_Price) hisR ?_
  intro p e s m args below meth c s₁ Bd hml0 hP hK
  obtain ⟨rfl, hZ, hh⟩ := hP
  have hx := Bd.exec
  have hby := Bd.bytes
  have hml : c.maxLocals = 3 := hml0
  have hown : s.vm.findClass "com/example/docketline/docketline/model/Price" = some m.cls := findClass_of_methodNamed Bd.named
  have hnm := (name_of_methodNamed Bd.named Bd.method).1
  have hlk : meth.locks = false := Bd.notSynchronized
  have X0 : Stand p l e ({ frames := 0, cells := 0, slots := 0, locals := 0 } : Room) s m #[(.ref o), (.ref q)] below meth c s₁ [] 0 0 := Stand.of_body Bd
  have e0 : s₁.heap = h0 := by rw [← hh, Bd.state]; rfl
  have N0 := Fr.nil n0
  have K0 := Keep.refl h0 []
  show own_G p e below s (Qe3 Z o q h0 n0) _ _ (s₁.setTop (entryFrame m #[(.ref o), (.ref q)] 3))
  rw [ef_rm_Qe3 m o q]
  refine own_via (U' := s₁.setTop (mkF m 1 #[.val (.ref o), .val (.ref q), .unset] [(.ref q)])) (fun t k => XS.aloadN X0.here hx rfl (hb hby d_prog_56_method_8_0) rfl rfl k) ?_
  obtain ⟨T1, X1, e1, st1⟩ := instNo X0 hx hZ hown (hw _ (List.mem_of_getElem? (i := 21) rfl)) e0 Eq (own_NSno (hw _ (List.mem_of_getElem? (i := 44) rfl)) (hw _ (List.mem_of_getElem? (i := 1) rfl)) (NS.step (hw _ (List.mem_of_getElem? (i := 44) rfl)) (NS.step (hw _ (List.mem_of_getElem? (i := 45) rfl)) (own_NSroot (hw _ (List.mem_of_getElem? (i := 46) rfl)) (hw _ (List.mem_of_getElem? (i := 1) rfl)) (by decide)) (by decide)) (by decide)) (by decide)) (g := (mkF m 1 #[.val (.ref o), .val (.ref q), .unset] [(.ref q)])) rfl rfl (hb hby d_prog_56_method_8_1)
  refine own_via (U' := T1.setTop (mkF m 4 #[.val (.ref o), .val (.ref q), .unset] [(.int (0 : Int32))])) (fun t k => st1 t k) ?_
  refine own_via (U' := T1.setTop (mkF m 28 #[.val (.ref o), .val (.ref q), .unset] [])) (fun t k => XS.ifYes X1.here hx rfl (pc0 := 4) (pc' := 28) rfl (hb hby d_prog_56_method_8_4) rfl ((if0 _ _).trans (teq (by decide : ((0 : Int32) = (0 : Int32)))).1) (by decide) (by decide) k) ?_
  refine own_via (U' := T1.setTop (mkF m 29 #[.val (.ref o), .val (.ref q), .unset] [(.int (0 : Int32))])) (fun t k => XS.iconst X1.here hx rfl (hb hby d_prog_56_method_8_28) k) ?_
  exact own_ret X1 (v := some (.int (0 : Int32))) (fun h => by rw [Bd.returns] at h; cases h) hlk (fun fs hr => retN X1 hx (t := .boolean) Bd.returns (by simp) (hb hby d_prog_56_method_8_29) hr) (by rw [e1]; exact ⟨rfl, N0, rfl⟩) (by decide) (by decide)
def Q0 (Z : State) (x1 x2 : Int64) (x3 : Int32) (ca : Addr) (cl : Cell) (h0 : Heap) (n0 : Nat) (v : Option Value) (h : Heap) (L : List Loc) : Prop := v = some (.int 1) ∧ Fr n0 L
theorem pd_Ljava_lang_Object___Z : parseMethodDescriptor "(Ljava/lang/Object;)Z" = some ⟨[(.object "java/lang/Object")], some .boolean⟩ := by decide +kernel
theorem pd_J__Ljava_lang_Long_ : parseMethodDescriptor "(J)Ljava/lang/Long;" = some ⟨[.long], some (.object "java/lang/Long")⟩ := by decide +kernel
theorem ef_rm_Q0 (m : MethodId) (x0 : Int64) (x1 : Int64) (x2 : Int32) : entryFrame m #[(.long x0), (.long x1), (.int x2)] maxLocals = mkF m 0 #[.val (.long x0), .second, .val (.long x1), .second, .val (.int x2), .unset, .unset, .unset, .unset, .unset, .unset, .unset] [] := by first | (simp [entryFrame, mkF, argsToLocals, Value.category, maxLocals]; done) | rfl
theorem pn_com_example_docketline_docketline_model_PriceEqualsPinLaw : plainName "com/example/docketline/docketline/model/PriceEqualsPinLaw" = true := by first | (simp [plainName, overriddenIn]; done) | decide +kernel
set_option maxRecDepth 65536 in
set_option maxHeartbeats 40000000 in
theorem rm_Q0 (l : Launch) (Z : State) (a0 : Array Value) (hw : ∀ d ∈ tables_1, d.before a0 Z = true) (ws : List Jvm.Cond) (x1 x2 : Int64) (x3 : Int32) (ca : Addr) (cl : Cell) (h0 : Heap) (n0 : Nat) (Z0 : n0 ≤ h0.size) (Od : Old Z n0 h0) (Sc : Sta Z Z.heap "java/lang/Long$LongCache" "cache" "[Ljava/lang/Long;" (.ref ca)) (Bx : Bxs Z ca cl "java/lang/Long" "J" (256 : Int32) (fun j => .long ((j - (128 : Int32)).toInt64))) :
    MetFree l x (head1 (Jvm.Cond.code x code maxLocals ret :: ws) room_1) (fun aa_ UU_ => aa_ = #[(.long x1), (.long x2), (.int x3)] ∧ Z.Warmed39 UU_.vm ∧ UU_.heap = h0) (fun _ _ _ _ _ => True) (fun _ UU_ oo_ VV_ => ∃ vv_ LL_, oo_ = .returned vv_ ∧ Q0 Z x1 x2 x3 ca cl h0 n0 vv_ VV_.heap LL_ ∧ FrameEnd UU_ oo_ VV_ LL_ room_1.cells room_1.slots) := by
  refine MetFree.of_bodySF (plainFor_of_name pn_com_example_docketline_docketline_model_PriceEqualsPinLaw) hisR ?_
  intro p e s m args below meth c s₁ Bd hml0 hP hK
  obtain ⟨rfl, hZ, hh⟩ := hP
  have hx := Bd.exec
  have hby := Bd.bytes
  have hml : c.maxLocals = 12 := hml0
  have hown : s.vm.findClass "com/example/docketline/docketline/model/PriceEqualsPinLaw" = some m.cls := findClass_of_methodNamed Bd.named
  have hnm := (name_of_methodNamed Bd.named Bd.method).1
  have hlk : meth.locks = false := Bd.notSynchronized
  have X0 : Stand p l e room_1 s m #[(.long x1), (.long x2), (.int x3)] below meth c s₁ [] 0 0 := Stand.of_body Bd
  have e0 : s₁.heap = h0 := by rw [← hh, Bd.state]; rfl
  have N0 := Fr.nil n0
  have K0 := Keep.refl h0 []
  show own_G p e below s (Q0 Z x1 x2 x3 ca cl h0 n0) _ _ (s₁.setTop (entryFrame m #[(.long x1), (.long x2), (.int x3)] maxLocals))
  rw [ef_rm_Q0 m x1 x2 x3]
  obtain ⟨T1, h1, X1, e1, E1, A1, D1, -, st1⟩ := newO X0 hx hZ hown (hw _ (List.mem_of_getElem? (i := 0) rfl)) (hw _ (List.mem_of_getElem? (i := 1) rfl)) (hw _ (List.mem_of_getElem? (i := 2) rfl)) e0 (g := (mkF m 0 #[.val (.long x1), .second, .val (.long x2), .second, .val (.int x3), .unset, .unset, .unset, .unset, .unset, .unset, .unset] [])) rfl (hb hby at_0) (by decide) (by decide)
  obtain ⟨b1, g1⟩ : ∃ z, z = h0.size := ⟨_, rfl⟩
  rw [← g1] at A1 D1 st1
  have gn_b1 : n0 ≤ b1 := Nat.le_trans Z0 (Nat.le_of_eq g1.symm)
  have sz_b1 : h0.size ≤ b1 := Nat.le_trans K0.1 (Nat.le_of_eq g1.symm)
  have f2 := Od.ext E1
  have f3 : Fld Z h1 b1 "com/example/docketline/docketline/model/Price" "units" "J" (.long (0 : Int64)) := D1 (Or.inr (hw _ (List.mem_of_getElem? (i := 15) rfl))) (ty := .long) (by decide)
  have Z4 : n0 ≤ h1.size := Nat.le_trans Z0 E1.1
  have K4 := K0.ext E1
  refine own_via (U' := T1.setTop (mkF m 3 #[.val (.long x1), .second, .val (.long x2), .second, .val (.int x3), .unset, .unset, .unset, .unset, .unset, .unset, .unset] [(.ref b1)])) (fun t k => st1 t k) ?_
  refine own_via (U' := T1.setTop (mkF m 4 #[.val (.long x1), .second, .val (.long x2), .second, .val (.int x3), .unset, .unset, .unset, .unset, .unset, .unset, .unset] [(.ref b1), (.ref b1)])) (fun t k => XS.dup X1.here hx rfl (hb hby at_3) rfl rfl k) ?_
  refine own_via (U' := T1.setTop (mkF m 5 #[.val (.long x1), .second, .val (.long x2), .second, .val (.int x3), .unset, .unset, .unset, .unset, .unset, .unset, .unset] [(.long x1), (.ref b1), (.ref b1)])) (fun t k => XS.lloadN X1.here hx rfl (hb hby at_4) rfl k) ?_
  obtain ⟨_, T5, L5, X5, hQ5, st5⟩ := own_callI X1 hx hZ (y := (⟨"com/example/docketline/docketline/model/Price", "<init>", "(J)V"⟩ : MethodName)) rfl (W := 1) hown (hw _ (List.mem_of_getElem? (i := 3) rfl)) (hw _ (List.mem_of_getElem? (i := 4) rfl)) (hw _ (List.mem_of_getElem? (i := 2) rfl)) (hw _ (List.mem_of_getElem? (i := 5) rfl)) (by decide) (rm_Qpi l Z a0 hw [] b1 x1 h1 n0 Z4 A1 f3 gn_b1) (by decide) (by decide) e1 (a := b1) (g := (mkF m 5 #[.val (.long x1), .second, .val (.long x2), .second, .val (.int x3), .unset, .unset, .unset, .unset, .unset, .unset, .unset] [(.long x1), (.ref b1), (.ref b1)])) rfl (by rw [hml]; rfl) (argsL := [(.long x1)]) (rest := [(.ref b1)]) rfl (lenOf pd_J__V rfl) rfl (by show 2 * 0 + _ ≤ _; exact Nat.le_of_eq rfl) (hb hby at_5) (by decide) (by decide)
  obtain ⟨rfl, N5q, K5q, E5q, F5q0⟩ := hQ5
  have N5 := Fr.app N0 N5q
  have f6 := f2.keep K5q (allS gn_b1 all0)
  have f7 := A1.keep K5q
  have Z8 : n0 ≤ T5.heap.size := Nat.le_trans Z4 K5q.1
  have K8 := K4.trans K5q (allS (Or.inr sz_b1) all0)
  refine own_via (U' := T5.setTop (mkF m 8 #[.val (.long x1), .second, .val (.long x2), .second, .val (.int x3), .unset, .unset, .unset, .unset, .unset, .unset, .unset] [(.ref b1)])) (fun t k => st5 t k) ?_
  refine own_via (U' := T5.setTop (mkF m 10 #[.val (.long x1), .second, .val (.long x2), .second, .val (.int x3), .val (.ref b1), .unset, .unset, .unset, .unset, .unset, .unset] [])) (fun t k => XS.astore X5.here hx rfl (hb hby at_8) rfl rfl (l' := #[.val (.long x1), .second, .val (.long x2), .second, .val (.int x3), .val (.ref b1), .unset, .unset, .unset, .unset, .unset, .unset]) rfl k) ?_
  refine own_via (U' := T5.setTop (mkF m 12 #[.val (.long x1), .second, .val (.long x2), .second, .val (.int x3), .val (.ref b1), .unset, .unset, .unset, .unset, .unset, .unset] [(.int x3)])) (fun t k => XS.iload X5.here hx rfl (hb hby at_10) rfl k) ?_
  refine own_via (U' := T5.setTop (mkF m 13 #[.val (.long x1), .second, .val (.long x2), .second, .val (.int x3), .val (.ref b1), .unset, .unset, .unset, .unset, .unset, .unset] [(.int (1 : Int32)), (.int x3)])) (fun t k => XS.iconst X5.here hx rfl (hb hby at_12) k) ?_
  refine own_via (U' := T5.setTop (mkF m 14 #[.val (.long x1), .second, .val (.long x2), .second, .val (.int x3), .val (.ref b1), .unset, .unset, .unset, .unset, .unset, .unset] [(.int (x3 &&& (1 : Int32)))])) (fun t k => XS.iand X5.here hx rfl (hb hby at_13) rfl k) ?_
  refine own_via (U' := T5.setTop (mkF m 22 #[.val (.long x1), .second, .val (.long x2), .second, .val (.int x3), .val (.ref b1), .unset, .unset, .unset, .unset, .unset, .unset] [(.long (if (x3 &&& (1 : Int32)) = (0 : Int32) then x2 else x1))])) (fun t k => ?_) ?_
  · by_cases hc9 : (x3 &&& (1 : Int32)) = (0 : Int32)
    case pos =>
      simp only [if_pos hc9] at k
      refine XS.ifYes X5.here hx rfl (pc0 := 14) (pc' := 21) rfl (hb hby at_14) rfl ((if0 _ _).trans (teq hc9).1) (by decide) (by decide) ?_
      show Steps p.tables e below (T5.setTop (mkF m 21 #[.val (.long x1), .second, .val (.long x2), .second, .val (.int x3), .val (.ref b1), .unset, .unset, .unset, .unset, .unset, .unset] [])) _
      refine XS.lloadN X5.here hx rfl (hb hby at_21) rfl ?_
      show Steps p.tables e below (T5.setTop (mkF m 22 #[.val (.long x1), .second, .val (.long x2), .second, .val (.int x3), .val (.ref b1), .unset, .unset, .unset, .unset, .unset, .unset] [(.long x2)])) _
      exact k
    case neg =>
      simp only [if_neg hc9] at k
      refine XS.ifNo X5.here hx rfl (hb hby at_14) rfl ((if0 _ _).trans (feq hc9).1) ?_
      show Steps p.tables e below (T5.setTop (mkF m 17 #[.val (.long x1), .second, .val (.long x2), .second, .val (.int x3), .val (.ref b1), .unset, .unset, .unset, .unset, .unset, .unset] [])) _
      refine XS.lloadN X5.here hx rfl (hb hby at_17) rfl ?_
      show Steps p.tables e below (T5.setTop (mkF m 18 #[.val (.long x1), .second, .val (.long x2), .second, .val (.int x3), .val (.ref b1), .unset, .unset, .unset, .unset, .unset, .unset] [(.long x1)])) _
      refine XS.goto X5.here hx rfl (pc0 := 18) (pc' := 22) rfl (hb hby at_18) (by decide) (by decide) ?_
      show Steps p.tables e below (T5.setTop (mkF m 22 #[.val (.long x1), .second, .val (.long x2), .second, .val (.int x3), .val (.ref b1), .unset, .unset, .unset, .unset, .unset, .unset] [(.long x1)])) _
      exact k
  refine own_via (U' := T5.setTop (mkF m 24 #[.val (.long x1), .second, .val (.long x2), .second, .val (.int x3), .val (.ref b1), .val (.long (if (x3 &&& (1 : Int32)) = (0 : Int32) then x2 else x1)), .second, .unset, .unset, .unset, .unset] [])) (fun t k => XS.lstore X5.here hx rfl (hb hby at_22) rfl (l' := #[.val (.long x1), .second, .val (.long x2), .second, .val (.int x3), .val (.ref b1), .val (.long (if (x3 &&& (1 : Int32)) = (0 : Int32) then x2 else x1)), .second, .unset, .unset, .unset, .unset]) rfl k) ?_
  generalize (if (x3 &&& (1 : Int32)) = (0 : Int32) then x2 else x1) = bb
  obtain ⟨T10, h10, X10, e10, E10, A10, D10, -, st10⟩ := newO X5 hx hZ hown (hw _ (List.mem_of_getElem? (i := 0) rfl)) (hw _ (List.mem_of_getElem? (i := 1) rfl)) (hw _ (List.mem_of_getElem? (i := 2) rfl)) rfl (g := (mkF m 24 #[.val (.long x1), .second, .val (.long x2), .second, .val (.int x3), .val (.ref b1), .val (.long bb), .second, .unset, .unset, .unset, .unset] [])) rfl (hb hby at_24) (by decide) (by decide)
  obtain ⟨b10, g10⟩ : ∃ z, z = T5.heap.size := ⟨_, rfl⟩
  rw [← g10] at A10 D10 st10
  have ne11 : b1 ≠ b10 := Nat.ne_of_lt (Nat.lt_of_lt_of_le E5q.lt (Nat.le_of_eq g10.symm))
  have gn_b10 : n0 ≤ b10 := Nat.le_trans Z8 (Nat.le_of_eq g10.symm)
  have sz_b10 : h0.size ≤ b10 := Nat.le_trans K8.1 (Nat.le_of_eq g10.symm)
  have f12 := f6.ext E10
  have f13 := E5q.ext E10
  have f14 := F5q0.ext E10
  have f15 : Fld Z h10 b10 "com/example/docketline/docketline/model/Price" "units" "J" (.long (0 : Int64)) := D10 (Or.inr (hw _ (List.mem_of_getElem? (i := 15) rfl))) (ty := .long) (by decide)
  have Z16 : n0 ≤ h10.size := Nat.le_trans Z8 E10.1
  have K16 := K8.ext E10
  refine own_via (U' := T10.setTop (mkF m 27 #[.val (.long x1), .second, .val (.long x2), .second, .val (.int x3), .val (.ref b1), .val (.long bb), .second, .unset, .unset, .unset, .unset] [(.ref b10)])) (fun t k => st10 t k) ?_
  refine own_via (U' := T10.setTop (mkF m 28 #[.val (.long x1), .second, .val (.long x2), .second, .val (.int x3), .val (.ref b1), .val (.long bb), .second, .unset, .unset, .unset, .unset] [(.ref b10), (.ref b10)])) (fun t k => XS.dup X10.here hx rfl (hb hby at_27) rfl rfl k) ?_
  refine own_via (U' := T10.setTop (mkF m 30 #[.val (.long x1), .second, .val (.long x2), .second, .val (.int x3), .val (.ref b1), .val (.long bb), .second, .unset, .unset, .unset, .unset] [(.long bb), (.ref b10), (.ref b10)])) (fun t k => XS.lload X10.here hx rfl (hb hby at_28) rfl k) ?_
  obtain ⟨_, T17, L17, X17, hQ17, st17⟩ := own_callI X10 hx hZ (y := (⟨"com/example/docketline/docketline/model/Price", "<init>", "(J)V"⟩ : MethodName)) rfl (W := 1) hown (hw _ (List.mem_of_getElem? (i := 3) rfl)) (hw _ (List.mem_of_getElem? (i := 4) rfl)) (hw _ (List.mem_of_getElem? (i := 2) rfl)) (hw _ (List.mem_of_getElem? (i := 5) rfl)) (by decide) (rm_Qpi l Z a0 hw [] b10 bb h10 n0 Z16 A10 f15 gn_b10) (by decide) (by decide) e10 (a := b10) (g := (mkF m 30 #[.val (.long x1), .second, .val (.long x2), .second, .val (.int x3), .val (.ref b1), .val (.long bb), .second, .unset, .unset, .unset, .unset] [(.long bb), (.ref b10), (.ref b10)])) rfl (by rw [hml]; rfl) (argsL := [(.long bb)]) (rest := [(.ref b10)]) rfl (lenOf pd_J__V rfl) rfl (by show 2 * 0 + _ ≤ _; exact Nat.le_of_eq rfl) (hb hby at_30) (by decide) (by decide)
  obtain ⟨rfl, N17q, K17q, E17q, F17q0⟩ := hQ17
  have N17 := Fr.app N5 N17q
  have f18 := f12.keep K17q (allS gn_b10 all0)
  have f19 := f13.keep K17q
  have f20 := f14.keep K17q (ninS ne11 nin0)
  have f21 := A10.keep K17q
  have Z22 : n0 ≤ T17.heap.size := Nat.le_trans Z16 K17q.1
  have K22 := K16.trans K17q (allS (Or.inr sz_b10) all0)
  refine own_via (U' := T17.setTop (mkF m 33 #[.val (.long x1), .second, .val (.long x2), .second, .val (.int x3), .val (.ref b1), .val (.long bb), .second, .unset, .unset, .unset, .unset] [(.ref b10)])) (fun t k => st17 t k) ?_
  refine own_via (U' := T17.setTop (mkF m 35 #[.val (.long x1), .second, .val (.long x2), .second, .val (.int x3), .val (.ref b1), .val (.long bb), .second, .val (.ref b10), .unset, .unset, .unset] [])) (fun t k => XS.astore X17.here hx rfl (hb hby at_33) rfl rfl (l' := #[.val (.long x1), .second, .val (.long x2), .second, .val (.int x3), .val (.ref b1), .val (.long bb), .second, .val (.ref b10), .unset, .unset, .unset]) rfl k) ?_
  refine own_via (U' := T17.setTop (mkF m 37 #[.val (.long x1), .second, .val (.long x2), .second, .val (.int x3), .val (.ref b1), .val (.long bb), .second, .val (.ref b10), .unset, .unset, .unset] [(.int x3)])) (fun t k => XS.iload X17.here hx rfl (hb hby at_35) rfl k) ?_
  refine own_via (U' := T17.setTop (mkF m 38 #[.val (.long x1), .second, .val (.long x2), .second, .val (.int x3), .val (.ref b1), .val (.long bb), .second, .val (.ref b10), .unset, .unset, .unset] [(.int (1 : Int32)), (.int x3)])) (fun t k => XS.iconst X17.here hx rfl (hb hby at_37) k) ?_
  refine own_via (U' := T17.setTop (mkF m 39 #[.val (.long x1), .second, .val (.long x2), .second, .val (.int x3), .val (.ref b1), .val (.long bb), .second, .val (.ref b10), .unset, .unset, .unset] [(.int ((x3.toUInt32 >>> ((1 : Int32) &&& 31).toUInt32).toInt32))])) (fun t k => XS.iushr X17.here hx rfl (hb hby at_38) rfl k) ?_
  refine own_via (U' := T17.setTop (mkF m 40 #[.val (.long x1), .second, .val (.long x2), .second, .val (.int x3), .val (.ref b1), .val (.long bb), .second, .val (.ref b10), .unset, .unset, .unset] [(.int (3 : Int32)), (.int ((x3.toUInt32 >>> ((1 : Int32) &&& 31).toUInt32).toInt32))])) (fun t k => XS.iconst X17.here hx rfl (hb hby at_39) k) ?_
  refine own_via (U' := T17.setTop (mkF m 41 #[.val (.long x1), .second, .val (.long x2), .second, .val (.int x3), .val (.ref b1), .val (.long bb), .second, .val (.ref b10), .unset, .unset, .unset] [(.int (((x3.toUInt32 >>> ((1 : Int32) &&& 31).toUInt32).toInt32) &&& (3 : Int32)))])) (fun t k => XS.iand X17.here hx rfl (hb hby at_40) rfl k) ?_
  refine own_via (U' := T17.setTop (mkF m 43 #[.val (.long x1), .second, .val (.long x2), .second, .val (.int x3), .val (.ref b1), .val (.long bb), .second, .val (.ref b10), .val (.int (((x3.toUInt32 >>> ((1 : Int32) &&& 31).toUInt32).toInt32) &&& (3 : Int32))), .unset, .unset] [])) (fun t k => XS.istore X17.here hx rfl (hb hby at_41) rfl (l' := #[.val (.long x1), .second, .val (.long x2), .second, .val (.int x3), .val (.ref b1), .val (.long bb), .second, .val (.ref b10), .val (.int (((x3.toUInt32 >>> ((1 : Int32) &&& 31).toUInt32).toInt32) &&& (3 : Int32))), .unset, .unset]) rfl k) ?_
  generalize (((x3.toUInt32 >>> ((1 : Int32) &&& 31).toUInt32).toInt32) &&& (3 : Int32)) = kd
  refine own_via (U' := T17.setTop (mkF m 45 #[.val (.long x1), .second, .val (.long x2), .second, .val (.int x3), .val (.ref b1), .val (.long bb), .second, .val (.ref b10), .val (.int kd), .unset, .unset] [(.int kd)])) (fun t k => XS.iload X17.here hx rfl (hb hby at_43) rfl k) ?_
  by_cases hc23 : kd = (0 : Int32)
  case pos =>
    refine own_via (U' := T17.setTop (mkF m 48 #[.val (.long x1), .second, .val (.long x2), .second, .val (.int x3), .val (.ref b1), .val (.long bb), .second, .val (.ref b10), .val (.int kd), .unset, .unset] [])) (fun t k => XS.ifNo X17.here hx rfl (hb hby at_45) rfl ((if0 _ _).trans (teq hc23).2) k) ?_
    refine own_via (U' := T17.setTop (mkF m 50 #[.val (.long x1), .second, .val (.long x2), .second, .val (.int x3), .val (.ref b1), .val (.long bb), .second, .val (.ref b10), .val (.int kd), .unset, .unset] [(.ref b10)])) (fun t k => XS.aload X17.here hx rfl (hb hby at_48) rfl rfl k) ?_
    refine own_via (U' := T17.setTop (mkF m 52 #[.val (.long x1), .second, .val (.long x2), .second, .val (.int x3), .val (.ref b1), .val (.long bb), .second, .val (.ref b10), .val (.int kd), .val (.ref b10), .unset] [])) (fun t k => XS.astore X17.here hx rfl (hb hby at_50) rfl rfl (l' := #[.val (.long x1), .second, .val (.long x2), .second, .val (.int x3), .val (.ref b1), .val (.long bb), .second, .val (.ref b10), .val (.int kd), .val (.ref b10), .unset]) rfl k) ?_
    refine own_via (U' := T17.setTop (mkF m 53 #[.val (.long x1), .second, .val (.long x2), .second, .val (.int x3), .val (.ref b1), .val (.long bb), .second, .val (.ref b10), .val (.int kd), .val (.ref b10), .unset] [(.long x1)])) (fun t k => XS.lloadN X17.here hx rfl (hb hby at_52) rfl k) ?_
    refine own_via (U' := T17.setTop (mkF m 55 #[.val (.long x1), .second, .val (.long x2), .second, .val (.int x3), .val (.ref b1), .val (.long bb), .second, .val (.ref b10), .val (.int kd), .val (.ref b10), .unset] [(.long bb), (.long x1)])) (fun t k => XS.lload X17.here hx rfl (hb hby at_53) rfl k) ?_
    refine own_via (U' := T17.setTop (mkF m 56 #[.val (.long x1), .second, .val (.long x2), .second, .val (.int x3), .val (.ref b1), .val (.long bb), .second, .val (.ref b10), .val (.int kd), .val (.ref b10), .unset] [(.int (lcmpW x1 bb))])) (fun t k => XS.lcmp X17.here hx rfl (hb hby at_55) rfl k) ?_
    by_cases hc24 : x1 = bb
    case pos =>
      refine own_via (U' := T17.setTop (mkF m 59 #[.val (.long x1), .second, .val (.long x2), .second, .val (.int x3), .val (.ref b1), .val (.long bb), .second, .val (.ref b10), .val (.int kd), .val (.ref b10), .unset] [])) (fun t k => XS.ifNo X17.here hx rfl (hb hby at_56) rfl (own_jeq hc24).2 k) ?_
      refine own_via (U' := T17.setTop (mkF m 60 #[.val (.long x1), .second, .val (.long x2), .second, .val (.int x3), .val (.ref b1), .val (.long bb), .second, .val (.ref b10), .val (.int kd), .val (.ref b10), .unset] [(.int (1 : Int32))])) (fun t k => XS.iconst X17.here hx rfl (hb hby at_59) k) ?_
      refine own_via (U' := T17.setTop (mkF m 64 #[.val (.long x1), .second, .val (.long x2), .second, .val (.int x3), .val (.ref b1), .val (.long bb), .second, .val (.ref b10), .val (.int kd), .val (.ref b10), .unset] [(.int (1 : Int32))])) (fun t k => XS.goto X17.here hx rfl (pc0 := 60) (pc' := 64) rfl (hb hby at_60) (by decide) (by decide) k) ?_
      refine own_via (U' := T17.setTop (mkF m 66 #[.val (.long x1), .second, .val (.long x2), .second, .val (.int x3), .val (.ref b1), .val (.long bb), .second, .val (.ref b10), .val (.int kd), .val (.ref b10), .val (.int (1 : Int32))] [])) (fun t k => XS.istore X17.here hx rfl (hb hby at_64) rfl (l' := #[.val (.long x1), .second, .val (.long x2), .second, .val (.int x3), .val (.ref b1), .val (.long bb), .second, .val (.ref b10), .val (.int kd), .val (.ref b10), .val (.int (1 : Int32))]) rfl k) ?_
      refine own_via (U' := T17.setTop (mkF m 109 #[.val (.long x1), .second, .val (.long x2), .second, .val (.int x3), .val (.ref b1), .val (.long bb), .second, .val (.ref b10), .val (.int kd), .val (.ref b10), .val (.int (1 : Int32))] [])) (fun t k => XS.goto X17.here hx rfl (pc0 := 66) (pc' := 109) rfl (hb hby at_66) (by decide) (by decide) k) ?_
      refine own_via (U' := T17.setTop (mkF m 111 #[.val (.long x1), .second, .val (.long x2), .second, .val (.int x3), .val (.ref b1), .val (.long bb), .second, .val (.ref b10), .val (.int kd), .val (.ref b10), .val (.int (1 : Int32))] [(.ref b1)])) (fun t k => XS.aload X17.here hx rfl (hb hby at_109) rfl rfl k) ?_
      refine own_via (U' := T17.setTop (mkF m 113 #[.val (.long x1), .second, .val (.long x2), .second, .val (.int x3), .val (.ref b1), .val (.long bb), .second, .val (.ref b10), .val (.int kd), .val (.ref b10), .val (.int (1 : Int32))] [(.ref b10), (.ref b1)])) (fun t k => XS.aload X17.here hx rfl (hb hby at_111) rfl rfl k) ?_
      obtain ⟨_, T25, L25, X25, hQ25, st25⟩ := own_callV X17 hx hZ (y := (⟨"com/example/docketline/docketline/model/Price", "equals", "(Ljava/lang/Object;)Z"⟩ : MethodName)) (W := 0) (C := "com/example/docketline/docketline/model/Price") hown (hw _ (List.mem_of_getElem? (i := 16) rfl)) (hw _ (List.mem_of_getElem? (i := 17) rfl)) (hw _ (List.mem_of_getElem? (i := 19) rfl)) (hw _ (List.mem_of_getElem? (i := 18) rfl)) (hw _ (List.mem_of_getElem? (i := 2) rfl)) (hw _ (List.mem_of_getElem? (i := 20) rfl)) (by decide) (rm_Qe1 l Z a0 hw [] b1 b10 x1 bb T17.heap n0 Z22 E17q f20 F17q0) (by decide) (by decide) rfl f19 (g := (mkF m 113 #[.val (.long x1), .second, .val (.long x2), .second, .val (.int x3), .val (.ref b1), .val (.long bb), .second, .val (.ref b10), .val (.int kd), .val (.ref b10), .val (.int (1 : Int32))] [(.ref b10), (.ref b1)])) rfl (by rw [hml]; rfl) (argsL := [(.ref b10)]) (rest := []) rfl (lenOf pd_Ljava_lang_Object___Z rfl) rfl (by show 2 * 0 + _ ≤ _; exact Nat.le_of_eq rfl) (hb hby at_113) (by decide) (by decide)
      obtain ⟨rfl, N25q, e25⟩ := hQ25
      have N25 := Fr.app N17 N25q
      refine own_via (U' := T25.setTop (mkF m 116 #[.val (.long x1), .second, .val (.long x2), .second, .val (.int x3), .val (.ref b1), .val (.long bb), .second, .val (.ref b10), .val (.int kd), .val (.ref b10), .val (.int (1 : Int32))] [(.int (if bb = x1 then (1 : Int32) else (0 : Int32)))])) (fun t k => st25 t k) ?_
      refine own_via (U' := T25.setTop (mkF m 118 #[.val (.long x1), .second, .val (.long x2), .second, .val (.int x3), .val (.ref b1), .val (.long bb), .second, .val (.ref b10), .val (.int kd), .val (.ref b10), .val (.int (1 : Int32))] [(.int (1 : Int32)), (.int (if bb = x1 then (1 : Int32) else (0 : Int32)))])) (fun t k => XS.iload X25.here hx rfl (hb hby at_116) rfl k) ?_
      refine own_via (U' := T25.setTop (mkF m 121 #[.val (.long x1), .second, .val (.long x2), .second, .val (.int x3), .val (.ref b1), .val (.long bb), .second, .val (.ref b10), .val (.int kd), .val (.ref b10), .val (.int (1 : Int32))] [])) (fun t k => XS.icmpNo X25.here hx rfl (hb hby at_118) rfl (teq (if_pos hc24.symm)).2 k) ?_
      refine own_via (U' := T25.setTop (mkF m 122 #[.val (.long x1), .second, .val (.long x2), .second, .val (.int x3), .val (.ref b1), .val (.long bb), .second, .val (.ref b10), .val (.int kd), .val (.ref b10), .val (.int (1 : Int32))] [(.int (1 : Int32))])) (fun t k => XS.iconst X25.here hx rfl (hb hby at_121) k) ?_
      refine own_via (U' := T25.setTop (mkF m 126 #[.val (.long x1), .second, .val (.long x2), .second, .val (.int x3), .val (.ref b1), .val (.long bb), .second, .val (.ref b10), .val (.int kd), .val (.ref b10), .val (.int (1 : Int32))] [(.int (1 : Int32))])) (fun t k => XS.goto X25.here hx rfl (pc0 := 122) (pc' := 126) rfl (hb hby at_122) (by decide) (by decide) k) ?_
      exact own_ret X25 (v := some (.int (1 : Int32))) (fun h => by rw [Bd.returns] at h; cases h) hlk (fun fs hr => retN X25 hx (t := .boolean) Bd.returns (by simp) (hb hby at_126) hr) (by rw [e25]; exact ⟨rfl, N25⟩) (by decide) (by decide)
    case neg =>
      refine own_via (U' := T17.setTop (mkF m 63 #[.val (.long x1), .second, .val (.long x2), .second, .val (.int x3), .val (.ref b1), .val (.long bb), .second, .val (.ref b10), .val (.int kd), .val (.ref b10), .unset] [])) (fun t k => XS.ifYes X17.here hx rfl (pc0 := 56) (pc' := 63) rfl (hb hby at_56) rfl (own_jne hc24).2 (by decide) (by decide) k) ?_
      refine own_via (U' := T17.setTop (mkF m 64 #[.val (.long x1), .second, .val (.long x2), .second, .val (.int x3), .val (.ref b1), .val (.long bb), .second, .val (.ref b10), .val (.int kd), .val (.ref b10), .unset] [(.int (0 : Int32))])) (fun t k => XS.iconst X17.here hx rfl (hb hby at_63) k) ?_
      refine own_via (U' := T17.setTop (mkF m 66 #[.val (.long x1), .second, .val (.long x2), .second, .val (.int x3), .val (.ref b1), .val (.long bb), .second, .val (.ref b10), .val (.int kd), .val (.ref b10), .val (.int (0 : Int32))] [])) (fun t k => XS.istore X17.here hx rfl (hb hby at_64) rfl (l' := #[.val (.long x1), .second, .val (.long x2), .second, .val (.int x3), .val (.ref b1), .val (.long bb), .second, .val (.ref b10), .val (.int kd), .val (.ref b10), .val (.int (0 : Int32))]) rfl k) ?_
      refine own_via (U' := T17.setTop (mkF m 109 #[.val (.long x1), .second, .val (.long x2), .second, .val (.int x3), .val (.ref b1), .val (.long bb), .second, .val (.ref b10), .val (.int kd), .val (.ref b10), .val (.int (0 : Int32))] [])) (fun t k => XS.goto X17.here hx rfl (pc0 := 66) (pc' := 109) rfl (hb hby at_66) (by decide) (by decide) k) ?_
      refine own_via (U' := T17.setTop (mkF m 111 #[.val (.long x1), .second, .val (.long x2), .second, .val (.int x3), .val (.ref b1), .val (.long bb), .second, .val (.ref b10), .val (.int kd), .val (.ref b10), .val (.int (0 : Int32))] [(.ref b1)])) (fun t k => XS.aload X17.here hx rfl (hb hby at_109) rfl rfl k) ?_
      refine own_via (U' := T17.setTop (mkF m 113 #[.val (.long x1), .second, .val (.long x2), .second, .val (.int x3), .val (.ref b1), .val (.long bb), .second, .val (.ref b10), .val (.int kd), .val (.ref b10), .val (.int (0 : Int32))] [(.ref b10), (.ref b1)])) (fun t k => XS.aload X17.here hx rfl (hb hby at_111) rfl rfl k) ?_
      obtain ⟨_, T26, L26, X26, hQ26, st26⟩ := own_callV X17 hx hZ (y := (⟨"com/example/docketline/docketline/model/Price", "equals", "(Ljava/lang/Object;)Z"⟩ : MethodName)) (W := 0) (C := "com/example/docketline/docketline/model/Price") hown (hw _ (List.mem_of_getElem? (i := 16) rfl)) (hw _ (List.mem_of_getElem? (i := 17) rfl)) (hw _ (List.mem_of_getElem? (i := 19) rfl)) (hw _ (List.mem_of_getElem? (i := 18) rfl)) (hw _ (List.mem_of_getElem? (i := 2) rfl)) (hw _ (List.mem_of_getElem? (i := 20) rfl)) (by decide) (rm_Qe1 l Z a0 hw [] b1 b10 x1 bb T17.heap n0 Z22 E17q f20 F17q0) (by decide) (by decide) rfl f19 (g := (mkF m 113 #[.val (.long x1), .second, .val (.long x2), .second, .val (.int x3), .val (.ref b1), .val (.long bb), .second, .val (.ref b10), .val (.int kd), .val (.ref b10), .val (.int (0 : Int32))] [(.ref b10), (.ref b1)])) rfl (by rw [hml]; rfl) (argsL := [(.ref b10)]) (rest := []) rfl (lenOf pd_Ljava_lang_Object___Z rfl) rfl (by show 2 * 0 + _ ≤ _; exact Nat.le_of_eq rfl) (hb hby at_113) (by decide) (by decide)
      obtain ⟨rfl, N26q, e26⟩ := hQ26
      have N26 := Fr.app N17 N26q
      refine own_via (U' := T26.setTop (mkF m 116 #[.val (.long x1), .second, .val (.long x2), .second, .val (.int x3), .val (.ref b1), .val (.long bb), .second, .val (.ref b10), .val (.int kd), .val (.ref b10), .val (.int (0 : Int32))] [(.int (if bb = x1 then (1 : Int32) else (0 : Int32)))])) (fun t k => st26 t k) ?_
      refine own_via (U' := T26.setTop (mkF m 118 #[.val (.long x1), .second, .val (.long x2), .second, .val (.int x3), .val (.ref b1), .val (.long bb), .second, .val (.ref b10), .val (.int kd), .val (.ref b10), .val (.int (0 : Int32))] [(.int (0 : Int32)), (.int (if bb = x1 then (1 : Int32) else (0 : Int32)))])) (fun t k => XS.iload X26.here hx rfl (hb hby at_116) rfl k) ?_
      refine own_via (U' := T26.setTop (mkF m 121 #[.val (.long x1), .second, .val (.long x2), .second, .val (.int x3), .val (.ref b1), .val (.long bb), .second, .val (.ref b10), .val (.int kd), .val (.ref b10), .val (.int (0 : Int32))] [])) (fun t k => XS.icmpNo X26.here hx rfl (hb hby at_118) rfl (teq (if_neg (fun z => hc24 z.symm))).2 k) ?_
      refine own_via (U' := T26.setTop (mkF m 122 #[.val (.long x1), .second, .val (.long x2), .second, .val (.int x3), .val (.ref b1), .val (.long bb), .second, .val (.ref b10), .val (.int kd), .val (.ref b10), .val (.int (0 : Int32))] [(.int (1 : Int32))])) (fun t k => XS.iconst X26.here hx rfl (hb hby at_121) k) ?_
      refine own_via (U' := T26.setTop (mkF m 126 #[.val (.long x1), .second, .val (.long x2), .second, .val (.int x3), .val (.ref b1), .val (.long bb), .second, .val (.ref b10), .val (.int kd), .val (.ref b10), .val (.int (0 : Int32))] [(.int (1 : Int32))])) (fun t k => XS.goto X26.here hx rfl (pc0 := 122) (pc' := 126) rfl (hb hby at_122) (by decide) (by decide) k) ?_
      exact own_ret X26 (v := some (.int (1 : Int32))) (fun h => by rw [Bd.returns] at h; cases h) hlk (fun fs hr => retN X26 hx (t := .boolean) Bd.returns (by simp) (hb hby at_126) hr) (by rw [e26]; exact ⟨rfl, N26⟩) (by decide) (by decide)
  case neg =>
    refine own_via (U' := T17.setTop (mkF m 69 #[.val (.long x1), .second, .val (.long x2), .second, .val (.int x3), .val (.ref b1), .val (.long bb), .second, .val (.ref b10), .val (.int kd), .unset, .unset] [])) (fun t k => XS.ifYes X17.here hx rfl (pc0 := 45) (pc' := 69) rfl (hb hby at_45) rfl ((if0 _ _).trans (feq hc23).2) (by decide) (by decide) k) ?_
    refine own_via (U' := T17.setTop (mkF m 71 #[.val (.long x1), .second, .val (.long x2), .second, .val (.int x3), .val (.ref b1), .val (.long bb), .second, .val (.ref b10), .val (.int kd), .unset, .unset] [(.int kd)])) (fun t k => XS.iload X17.here hx rfl (hb hby at_69) rfl k) ?_
    refine own_via (U' := T17.setTop (mkF m 72 #[.val (.long x1), .second, .val (.long x2), .second, .val (.int x3), .val (.ref b1), .val (.long bb), .second, .val (.ref b10), .val (.int kd), .unset, .unset] [(.int (1 : Int32)), (.int kd)])) (fun t k => XS.iconst X17.here hx rfl (hb hby at_71) k) ?_
    by_cases hc27 : kd = (1 : Int32)
    case pos =>
      refine own_via (U' := T17.setTop (mkF m 75 #[.val (.long x1), .second, .val (.long x2), .second, .val (.int x3), .val (.ref b1), .val (.long bb), .second, .val (.ref b10), .val (.int kd), .unset, .unset] [])) (fun t k => XS.icmpNo X17.here hx rfl (hb hby at_72) rfl (teq hc27).2 k) ?_
      refine own_via (U' := T17.setTop (mkF m 76 #[.val (.long x1), .second, .val (.long x2), .second, .val (.int x3), .val (.ref b1), .val (.long bb), .second, .val (.ref b10), .val (.int kd), .unset, .unset] [.null])) (fun t k => XS.aconstNull X17.here hx rfl (hb hby at_75) k) ?_
      refine own_via (U' := T17.setTop (mkF m 78 #[.val (.long x1), .second, .val (.long x2), .second, .val (.int x3), .val (.ref b1), .val (.long bb), .second, .val (.ref b10), .val (.int kd), .val .null, .unset] [])) (fun t k => XS.astore X17.here hx rfl (hb hby at_76) rfl rfl (l' := #[.val (.long x1), .second, .val (.long x2), .second, .val (.int x3), .val (.ref b1), .val (.long bb), .second, .val (.ref b10), .val (.int kd), .val .null, .unset]) rfl k) ?_
      refine own_via (U' := T17.setTop (mkF m 79 #[.val (.long x1), .second, .val (.long x2), .second, .val (.int x3), .val (.ref b1), .val (.long bb), .second, .val (.ref b10), .val (.int kd), .val .null, .unset] [(.int (0 : Int32))])) (fun t k => XS.iconst X17.here hx rfl (hb hby at_78) k) ?_
      refine own_via (U' := T17.setTop (mkF m 81 #[.val (.long x1), .second, .val (.long x2), .second, .val (.int x3), .val (.ref b1), .val (.long bb), .second, .val (.ref b10), .val (.int kd), .val .null, .val (.int (0 : Int32))] [])) (fun t k => XS.istore X17.here hx rfl (hb hby at_79) rfl (l' := #[.val (.long x1), .second, .val (.long x2), .second, .val (.int x3), .val (.ref b1), .val (.long bb), .second, .val (.ref b10), .val (.int kd), .val .null, .val (.int (0 : Int32))]) rfl k) ?_
      refine own_via (U' := T17.setTop (mkF m 109 #[.val (.long x1), .second, .val (.long x2), .second, .val (.int x3), .val (.ref b1), .val (.long bb), .second, .val (.ref b10), .val (.int kd), .val .null, .val (.int (0 : Int32))] [])) (fun t k => XS.goto X17.here hx rfl (pc0 := 81) (pc' := 109) rfl (hb hby at_81) (by decide) (by decide) k) ?_
      refine own_via (U' := T17.setTop (mkF m 111 #[.val (.long x1), .second, .val (.long x2), .second, .val (.int x3), .val (.ref b1), .val (.long bb), .second, .val (.ref b10), .val (.int kd), .val .null, .val (.int (0 : Int32))] [(.ref b1)])) (fun t k => XS.aload X17.here hx rfl (hb hby at_109) rfl rfl k) ?_
      refine own_via (U' := T17.setTop (mkF m 113 #[.val (.long x1), .second, .val (.long x2), .second, .val (.int x3), .val (.ref b1), .val (.long bb), .second, .val (.ref b10), .val (.int kd), .val .null, .val (.int (0 : Int32))] [.null, (.ref b1)])) (fun t k => XS.aload X17.here hx rfl (hb hby at_111) rfl rfl k) ?_
      obtain ⟨_, T28, L28, X28, hQ28, st28⟩ := own_callV X17 hx hZ (y := (⟨"com/example/docketline/docketline/model/Price", "equals", "(Ljava/lang/Object;)Z"⟩ : MethodName)) (W := 0) (C := "com/example/docketline/docketline/model/Price") hown (hw _ (List.mem_of_getElem? (i := 16) rfl)) (hw _ (List.mem_of_getElem? (i := 17) rfl)) (hw _ (List.mem_of_getElem? (i := 19) rfl)) (hw _ (List.mem_of_getElem? (i := 18) rfl)) (hw _ (List.mem_of_getElem? (i := 2) rfl)) (hw _ (List.mem_of_getElem? (i := 20) rfl)) (by decide) (rm_Qe2 l Z a0 hw [] b1 T17.heap n0 Z22) (by decide) (by decide) rfl f19 (g := (mkF m 113 #[.val (.long x1), .second, .val (.long x2), .second, .val (.int x3), .val (.ref b1), .val (.long bb), .second, .val (.ref b10), .val (.int kd), .val .null, .val (.int (0 : Int32))] [.null, (.ref b1)])) rfl (by rw [hml]; rfl) (argsL := [.null]) (rest := []) rfl (lenOf pd_Ljava_lang_Object___Z rfl) rfl (by show 2 * 0 + _ ≤ _; exact Nat.le_of_eq rfl) (hb hby at_113) (by decide) (by decide)
      obtain ⟨rfl, N28q, e28⟩ := hQ28
      have N28 := Fr.app N17 N28q
      refine own_via (U' := T28.setTop (mkF m 116 #[.val (.long x1), .second, .val (.long x2), .second, .val (.int x3), .val (.ref b1), .val (.long bb), .second, .val (.ref b10), .val (.int kd), .val .null, .val (.int (0 : Int32))] [(.int (0 : Int32))])) (fun t k => st28 t k) ?_
      refine own_via (U' := T28.setTop (mkF m 118 #[.val (.long x1), .second, .val (.long x2), .second, .val (.int x3), .val (.ref b1), .val (.long bb), .second, .val (.ref b10), .val (.int kd), .val .null, .val (.int (0 : Int32))] [(.int (0 : Int32)), (.int (0 : Int32))])) (fun t k => XS.iload X28.here hx rfl (hb hby at_116) rfl k) ?_
      refine own_via (U' := T28.setTop (mkF m 121 #[.val (.long x1), .second, .val (.long x2), .second, .val (.int x3), .val (.ref b1), .val (.long bb), .second, .val (.ref b10), .val (.int kd), .val .null, .val (.int (0 : Int32))] [])) (fun t k => XS.icmpNo X28.here hx rfl (hb hby at_118) rfl (teq (by decide : ((0 : Int32) = (0 : Int32)))).2 k) ?_
      refine own_via (U' := T28.setTop (mkF m 122 #[.val (.long x1), .second, .val (.long x2), .second, .val (.int x3), .val (.ref b1), .val (.long bb), .second, .val (.ref b10), .val (.int kd), .val .null, .val (.int (0 : Int32))] [(.int (1 : Int32))])) (fun t k => XS.iconst X28.here hx rfl (hb hby at_121) k) ?_
      refine own_via (U' := T28.setTop (mkF m 126 #[.val (.long x1), .second, .val (.long x2), .second, .val (.int x3), .val (.ref b1), .val (.long bb), .second, .val (.ref b10), .val (.int kd), .val .null, .val (.int (0 : Int32))] [(.int (1 : Int32))])) (fun t k => XS.goto X28.here hx rfl (pc0 := 122) (pc' := 126) rfl (hb hby at_122) (by decide) (by decide) k) ?_
      exact own_ret X28 (v := some (.int (1 : Int32))) (fun h => by rw [Bd.returns] at h; cases h) hlk (fun fs hr => retN X28 hx (t := .boolean) Bd.returns (by simp) (hb hby at_126) hr) (by rw [e28]; exact ⟨rfl, N28⟩) (by decide) (by decide)
    case neg =>
      refine own_via (U' := T17.setTop (mkF m 84 #[.val (.long x1), .second, .val (.long x2), .second, .val (.int x3), .val (.ref b1), .val (.long bb), .second, .val (.ref b10), .val (.int kd), .unset, .unset] [])) (fun t k => XS.icmpYes X17.here hx rfl (pc0 := 72) (pc' := 84) rfl (hb hby at_72) rfl (feq hc27).2 (by decide) (by decide) k) ?_
      refine own_via (U' := T17.setTop (mkF m 86 #[.val (.long x1), .second, .val (.long x2), .second, .val (.int x3), .val (.ref b1), .val (.long bb), .second, .val (.ref b10), .val (.int kd), .unset, .unset] [(.int kd)])) (fun t k => XS.iload X17.here hx rfl (hb hby at_84) rfl k) ?_
      refine own_via (U' := T17.setTop (mkF m 87 #[.val (.long x1), .second, .val (.long x2), .second, .val (.int x3), .val (.ref b1), .val (.long bb), .second, .val (.ref b10), .val (.int kd), .unset, .unset] [(.int (2 : Int32)), (.int kd)])) (fun t k => XS.iconst X17.here hx rfl (hb hby at_86) k) ?_
      by_cases hc29 : kd = (2 : Int32)
      case pos =>
        refine own_via (U' := T17.setTop (mkF m 90 #[.val (.long x1), .second, .val (.long x2), .second, .val (.int x3), .val (.ref b1), .val (.long bb), .second, .val (.ref b10), .val (.int kd), .unset, .unset] [])) (fun t k => XS.icmpNo X17.here hx rfl (hb hby at_87) rfl (teq hc29).2 k) ?_
        refine own_via (U' := T17.setTop (mkF m 91 #[.val (.long x1), .second, .val (.long x2), .second, .val (.int x3), .val (.ref b1), .val (.long bb), .second, .val (.ref b10), .val (.int kd), .unset, .unset] [(.long x1)])) (fun t k => XS.lloadN X17.here hx rfl (hb hby at_90) rfl k) ?_
        obtain ⟨_, T30, L30, X30, hQ30, st30⟩ := own_callS X17 hx hZ (y := (⟨"java/lang/Long", "valueOf", "(J)Ljava/lang/Long;"⟩ : MethodName)) (W := 0) hown (hw _ (List.mem_of_getElem? (i := 23) rfl)) (hw _ (List.mem_of_getElem? (i := 24) rfl)) (hw _ (List.mem_of_getElem? (i := 25) rfl)) (hw _ (List.mem_of_getElem? (i := 26) rfl)) (by decide) (rm_Qvo l Z a0 hw [] x1 ca cl T17.heap n0 Z22 f18 Sc Bx) (by decide) (by decide) rfl (g := (mkF m 91 #[.val (.long x1), .second, .val (.long x2), .second, .val (.int x3), .val (.ref b1), .val (.long bb), .second, .val (.ref b10), .val (.int kd), .unset, .unset] [(.long x1)])) rfl (by rw [hml]; rfl) (argsL := [(.long x1)]) (rest := []) rfl (lenOf pd_J__Ljava_lang_Long_ rfl) rfl (by show 2 * 0 + _ ≤ _; exact Nat.le_of_eq rfl) (hb hby at_91) (by decide) (by decide)
        obtain ⟨lb30, rfl, N30q, K30q, E30q⟩ := hQ30
        have N30 := Fr.app N17 N30q
        have f31 := f18.keep K30q all0
        have f32 := f19.keep K30q
        have f33 := f20.keep K30q nin0
        have f34 := E17q.keep K30q
        have f35 := F17q0.keep K30q nin0
        have Z36 : n0 ≤ T30.heap.size := Nat.le_trans Z22 K30q.1
        have K36 := K22.trans K30q all0
        refine own_via (U' := T30.setTop (mkF m 94 #[.val (.long x1), .second, .val (.long x2), .second, .val (.int x3), .val (.ref b1), .val (.long bb), .second, .val (.ref b10), .val (.int kd), .unset, .unset] [(.ref lb30)])) (fun t k => st30 t k) ?_
        refine own_via (U' := T30.setTop (mkF m 96 #[.val (.long x1), .second, .val (.long x2), .second, .val (.int x3), .val (.ref b1), .val (.long bb), .second, .val (.ref b10), .val (.int kd), .val (.ref lb30), .unset] [])) (fun t k => XS.astore X30.here hx rfl (hb hby at_94) rfl rfl (l' := #[.val (.long x1), .second, .val (.long x2), .second, .val (.int x3), .val (.ref b1), .val (.long bb), .second, .val (.ref b10), .val (.int kd), .val (.ref lb30), .unset]) rfl k) ?_
        refine own_via (U' := T30.setTop (mkF m 97 #[.val (.long x1), .second, .val (.long x2), .second, .val (.int x3), .val (.ref b1), .val (.long bb), .second, .val (.ref b10), .val (.int kd), .val (.ref lb30), .unset] [(.int (0 : Int32))])) (fun t k => XS.iconst X30.here hx rfl (hb hby at_96) k) ?_
        refine own_via (U' := T30.setTop (mkF m 99 #[.val (.long x1), .second, .val (.long x2), .second, .val (.int x3), .val (.ref b1), .val (.long bb), .second, .val (.ref b10), .val (.int kd), .val (.ref lb30), .val (.int (0 : Int32))] [])) (fun t k => XS.istore X30.here hx rfl (hb hby at_97) rfl (l' := #[.val (.long x1), .second, .val (.long x2), .second, .val (.int x3), .val (.ref b1), .val (.long bb), .second, .val (.ref b10), .val (.int kd), .val (.ref lb30), .val (.int (0 : Int32))]) rfl k) ?_
        refine own_via (U' := T30.setTop (mkF m 109 #[.val (.long x1), .second, .val (.long x2), .second, .val (.int x3), .val (.ref b1), .val (.long bb), .second, .val (.ref b10), .val (.int kd), .val (.ref lb30), .val (.int (0 : Int32))] [])) (fun t k => XS.goto X30.here hx rfl (pc0 := 99) (pc' := 109) rfl (hb hby at_99) (by decide) (by decide) k) ?_
        refine own_via (U' := T30.setTop (mkF m 111 #[.val (.long x1), .second, .val (.long x2), .second, .val (.int x3), .val (.ref b1), .val (.long bb), .second, .val (.ref b10), .val (.int kd), .val (.ref lb30), .val (.int (0 : Int32))] [(.ref b1)])) (fun t k => XS.aload X30.here hx rfl (hb hby at_109) rfl rfl k) ?_
        refine own_via (U' := T30.setTop (mkF m 113 #[.val (.long x1), .second, .val (.long x2), .second, .val (.int x3), .val (.ref b1), .val (.long bb), .second, .val (.ref b10), .val (.int kd), .val (.ref lb30), .val (.int (0 : Int32))] [(.ref lb30), (.ref b1)])) (fun t k => XS.aload X30.here hx rfl (hb hby at_111) rfl rfl k) ?_
        obtain ⟨_, T37, L37, X37, hQ37, st37⟩ := own_callV X30 hx hZ (y := (⟨"com/example/docketline/docketline/model/Price", "equals", "(Ljava/lang/Object;)Z"⟩ : MethodName)) (W := 0) (C := "com/example/docketline/docketline/model/Price") hown (hw _ (List.mem_of_getElem? (i := 16) rfl)) (hw _ (List.mem_of_getElem? (i := 17) rfl)) (hw _ (List.mem_of_getElem? (i := 19) rfl)) (hw _ (List.mem_of_getElem? (i := 18) rfl)) (hw _ (List.mem_of_getElem? (i := 2) rfl)) (hw _ (List.mem_of_getElem? (i := 20) rfl)) (by decide) (rm_Qe3 l Z a0 hw [] b1 lb30 T30.heap n0 Z36 E30q) (by decide) (by decide) rfl f32 (g := (mkF m 113 #[.val (.long x1), .second, .val (.long x2), .second, .val (.int x3), .val (.ref b1), .val (.long bb), .second, .val (.ref b10), .val (.int kd), .val (.ref lb30), .val (.int (0 : Int32))] [(.ref lb30), (.ref b1)])) rfl (by rw [hml]; rfl) (argsL := [(.ref lb30)]) (rest := []) rfl (lenOf pd_Ljava_lang_Object___Z rfl) rfl (by show 2 * 0 + _ ≤ _; exact Nat.le_of_eq rfl) (hb hby at_113) (by decide) (by decide)
        obtain ⟨rfl, N37q, e37⟩ := hQ37
        have N37 := Fr.app N30 N37q
        refine own_via (U' := T37.setTop (mkF m 116 #[.val (.long x1), .second, .val (.long x2), .second, .val (.int x3), .val (.ref b1), .val (.long bb), .second, .val (.ref b10), .val (.int kd), .val (.ref lb30), .val (.int (0 : Int32))] [(.int (0 : Int32))])) (fun t k => st37 t k) ?_
        refine own_via (U' := T37.setTop (mkF m 118 #[.val (.long x1), .second, .val (.long x2), .second, .val (.int x3), .val (.ref b1), .val (.long bb), .second, .val (.ref b10), .val (.int kd), .val (.ref lb30), .val (.int (0 : Int32))] [(.int (0 : Int32)), (.int (0 : Int32))])) (fun t k => XS.iload X37.here hx rfl (hb hby at_116) rfl k) ?_
        refine own_via (U' := T37.setTop (mkF m 121 #[.val (.long x1), .second, .val (.long x2), .second, .val (.int x3), .val (.ref b1), .val (.long bb), .second, .val (.ref b10), .val (.int kd), .val (.ref lb30), .val (.int (0 : Int32))] [])) (fun t k => XS.icmpNo X37.here hx rfl (hb hby at_118) rfl (teq (by decide : ((0 : Int32) = (0 : Int32)))).2 k) ?_
        refine own_via (U' := T37.setTop (mkF m 122 #[.val (.long x1), .second, .val (.long x2), .second, .val (.int x3), .val (.ref b1), .val (.long bb), .second, .val (.ref b10), .val (.int kd), .val (.ref lb30), .val (.int (0 : Int32))] [(.int (1 : Int32))])) (fun t k => XS.iconst X37.here hx rfl (hb hby at_121) k) ?_
        refine own_via (U' := T37.setTop (mkF m 126 #[.val (.long x1), .second, .val (.long x2), .second, .val (.int x3), .val (.ref b1), .val (.long bb), .second, .val (.ref b10), .val (.int kd), .val (.ref lb30), .val (.int (0 : Int32))] [(.int (1 : Int32))])) (fun t k => XS.goto X37.here hx rfl (pc0 := 122) (pc' := 126) rfl (hb hby at_122) (by decide) (by decide) k) ?_
        exact own_ret X37 (v := some (.int (1 : Int32))) (fun h => by rw [Bd.returns] at h; cases h) hlk (fun fs hr => retN X37 hx (t := .boolean) Bd.returns (by simp) (hb hby at_126) hr) (by rw [e37]; exact ⟨rfl, N37⟩) (by decide) (by decide)
      case neg =>
        refine own_via (U' := T17.setTop (mkF m 102 #[.val (.long x1), .second, .val (.long x2), .second, .val (.int x3), .val (.ref b1), .val (.long bb), .second, .val (.ref b10), .val (.int kd), .unset, .unset] [])) (fun t k => XS.icmpYes X17.here hx rfl (pc0 := 87) (pc' := 102) rfl (hb hby at_87) rfl (feq hc29).2 (by decide) (by decide) k) ?_
        refine own_via (U' := T17.setTop (mkF m 104 #[.val (.long x1), .second, .val (.long x2), .second, .val (.int x3), .val (.ref b1), .val (.long bb), .second, .val (.ref b10), .val (.int kd), .unset, .unset] [(.ref b1)])) (fun t k => XS.aload X17.here hx rfl (hb hby at_102) rfl rfl k) ?_
        refine own_via (U' := T17.setTop (mkF m 106 #[.val (.long x1), .second, .val (.long x2), .second, .val (.int x3), .val (.ref b1), .val (.long bb), .second, .val (.ref b10), .val (.int kd), .val (.ref b1), .unset] [])) (fun t k => XS.astore X17.here hx rfl (hb hby at_104) rfl rfl (l' := #[.val (.long x1), .second, .val (.long x2), .second, .val (.int x3), .val (.ref b1), .val (.long bb), .second, .val (.ref b10), .val (.int kd), .val (.ref b1), .unset]) rfl k) ?_
        refine own_via (U' := T17.setTop (mkF m 107 #[.val (.long x1), .second, .val (.long x2), .second, .val (.int x3), .val (.ref b1), .val (.long bb), .second, .val (.ref b10), .val (.int kd), .val (.ref b1), .unset] [(.int (1 : Int32))])) (fun t k => XS.iconst X17.here hx rfl (hb hby at_106) k) ?_
        refine own_via (U' := T17.setTop (mkF m 109 #[.val (.long x1), .second, .val (.long x2), .second, .val (.int x3), .val (.ref b1), .val (.long bb), .second, .val (.ref b10), .val (.int kd), .val (.ref b1), .val (.int (1 : Int32))] [])) (fun t k => XS.istore X17.here hx rfl (hb hby at_107) rfl (l' := #[.val (.long x1), .second, .val (.long x2), .second, .val (.int x3), .val (.ref b1), .val (.long bb), .second, .val (.ref b10), .val (.int kd), .val (.ref b1), .val (.int (1 : Int32))]) rfl k) ?_
        refine own_via (U' := T17.setTop (mkF m 111 #[.val (.long x1), .second, .val (.long x2), .second, .val (.int x3), .val (.ref b1), .val (.long bb), .second, .val (.ref b10), .val (.int kd), .val (.ref b1), .val (.int (1 : Int32))] [(.ref b1)])) (fun t k => XS.aload X17.here hx rfl (hb hby at_109) rfl rfl k) ?_
        refine own_via (U' := T17.setTop (mkF m 113 #[.val (.long x1), .second, .val (.long x2), .second, .val (.int x3), .val (.ref b1), .val (.long bb), .second, .val (.ref b10), .val (.int kd), .val (.ref b1), .val (.int (1 : Int32))] [(.ref b1), (.ref b1)])) (fun t k => XS.aload X17.here hx rfl (hb hby at_111) rfl rfl k) ?_
        obtain ⟨_, T38, L38, X38, hQ38, st38⟩ := own_callV X17 hx hZ (y := (⟨"com/example/docketline/docketline/model/Price", "equals", "(Ljava/lang/Object;)Z"⟩ : MethodName)) (W := 0) (C := "com/example/docketline/docketline/model/Price") hown (hw _ (List.mem_of_getElem? (i := 16) rfl)) (hw _ (List.mem_of_getElem? (i := 17) rfl)) (hw _ (List.mem_of_getElem? (i := 19) rfl)) (hw _ (List.mem_of_getElem? (i := 18) rfl)) (hw _ (List.mem_of_getElem? (i := 2) rfl)) (hw _ (List.mem_of_getElem? (i := 20) rfl)) (by decide) (rm_Qe1 l Z a0 hw [] b1 b1 x1 x1 T17.heap n0 Z22 f19 f20 f20) (by decide) (by decide) rfl f19 (g := (mkF m 113 #[.val (.long x1), .second, .val (.long x2), .second, .val (.int x3), .val (.ref b1), .val (.long bb), .second, .val (.ref b10), .val (.int kd), .val (.ref b1), .val (.int (1 : Int32))] [(.ref b1), (.ref b1)])) rfl (by rw [hml]; rfl) (argsL := [(.ref b1)]) (rest := []) rfl (lenOf pd_Ljava_lang_Object___Z rfl) rfl (by show 2 * 0 + _ ≤ _; exact Nat.le_of_eq rfl) (hb hby at_113) (by decide) (by decide)
        obtain ⟨rfl, N38q, e38⟩ := hQ38
        have N38 := Fr.app N17 N38q
        refine own_via (U' := T38.setTop (mkF m 116 #[.val (.long x1), .second, .val (.long x2), .second, .val (.int x3), .val (.ref b1), .val (.long bb), .second, .val (.ref b10), .val (.int kd), .val (.ref b1), .val (.int (1 : Int32))] [(.int (if x1 = x1 then (1 : Int32) else (0 : Int32)))])) (fun t k => st38 t k) ?_
        refine own_via (U' := T38.setTop (mkF m 118 #[.val (.long x1), .second, .val (.long x2), .second, .val (.int x3), .val (.ref b1), .val (.long bb), .second, .val (.ref b10), .val (.int kd), .val (.ref b1), .val (.int (1 : Int32))] [(.int (1 : Int32)), (.int (if x1 = x1 then (1 : Int32) else (0 : Int32)))])) (fun t k => XS.iload X38.here hx rfl (hb hby at_116) rfl k) ?_
        refine own_via (U' := T38.setTop (mkF m 121 #[.val (.long x1), .second, .val (.long x2), .second, .val (.int x3), .val (.ref b1), .val (.long bb), .second, .val (.ref b10), .val (.int kd), .val (.ref b1), .val (.int (1 : Int32))] [])) (fun t k => XS.icmpNo X38.here hx rfl (hb hby at_118) rfl (teq (if_pos rfl)).2 k) ?_
        refine own_via (U' := T38.setTop (mkF m 122 #[.val (.long x1), .second, .val (.long x2), .second, .val (.int x3), .val (.ref b1), .val (.long bb), .second, .val (.ref b10), .val (.int kd), .val (.ref b1), .val (.int (1 : Int32))] [(.int (1 : Int32))])) (fun t k => XS.iconst X38.here hx rfl (hb hby at_121) k) ?_
        refine own_via (U' := T38.setTop (mkF m 126 #[.val (.long x1), .second, .val (.long x2), .second, .val (.int x3), .val (.ref b1), .val (.long bb), .second, .val (.ref b10), .val (.int kd), .val (.ref b1), .val (.int (1 : Int32))] [(.int (1 : Int32))])) (fun t k => XS.goto X38.here hx rfl (pc0 := 122) (pc' := 126) rfl (hb hby at_122) (by decide) (by decide) k) ?_
        exact own_ret X38 (v := some (.int (1 : Int32))) (fun h => by rw [Bd.returns] at h; cases h) hlk (fun fs hr => retN X38 hx (t := .boolean) Bd.returns (by simp) (hb hby at_126) hr) (by rw [e38]; exact ⟨rfl, N38⟩) (by decide) (by decide)
set_option maxRecDepth 65536 in
set_option maxHeartbeats 40000000 in
theorem comes_1 {Post : Tables → Env → Array Value → State → Outcome → State → Prop} (hpost : ∀ tb e args s v u, (limb_1_1.after args s (.returned v) u = true ∧ limb_1_2.after args s (.returned v) u = true ∧ True) → FrameEnd s (.returned v) u (Jvm.fieldLocs frame_1_writes args s ++ Jvm.arrayLocs frame_1_arrays args s ++ Jvm.staticLocs frame_1_statics s) 16 128 → Post tb e args s (.returned v) u) :
    ArmFor flags0 classFile x code maxLocals ret World_1 tables_1 room_1 Calls_1 rest_1 Pre_1 Post := by
  intro l hfl _ _ p e ha hc hk s m args below hf hA hF happ hP
  obtain ⟨hcalls, hrest, hpre⟩ := hP
  obtain ⟨-, -, -, hnamed, -, -, -, hat⟩ := (Spec.applies_iff hf).mp happ
  obtain ⟨hg, hn⟩ := and_e (Cond.before_iff.mp (show (Jvm.Cond.and given_1 narrow_1).before args s = true from hpre))
  obtain ⟨hcount, r0⟩ := and_e hg
  obtain ⟨k0, r1⟩ := and_e r0
  obtain ⟨k1, r2⟩ := and_e r1
  obtain ⟨w0, w1, w2, rfl⟩ : ∃ w0 w1 w2 : Value, args = #[w0, w1, w2] := by
    have hs : args.size = 3 := by simpa [Cond.value, given_1] using hcount
    obtain ⟨L⟩ := args
    match L, hs with
    | [w0, w1, w2], _ => exact ⟨w0, w1, w2, rfl⟩
  have hw := fun d (hd : d ∈ tables_1) => atoms_spec (ws := Jvm.Cond.code x code maxLocals ret :: tables_1) hat d (List.mem_cons_of_mem _ hd)
  have hfit : Fit s := fun {y c} hc i hi => by
    obtain ⟨ha, rfl⟩ := Array.getElem?_eq_some_iff.mp hc
    have q := List.all_eq_true.mp ((Array.all_eq_true_iff_forall_mem.mp hF) _ (Array.getElem_mem ha)) i (List.mem_range.mpr hi)
    simpa [Array.getElem?_eq_getElem hi] using q
  obtain ⟨hsets, hown0⟩ := atoms_of _ (rest_1_c_eq ▸ (show rest_1_c.before _ s = true from hrest))
  have hr0 := Cond.before_iff.mp hown0
  obtain ⟨i0, ei0⟩ := isL_v k0
  obtain rfl : w0 = (.long i0) := Option.some.inj ei0
  obtain ⟨i1, ei1⟩ := isL_v k1
  obtain rfl : w1 = (.long i1) := Option.some.inj ei1
  obtain ⟨i2, ei2⟩ := is_v r2
  obtain rfl : w2 = (.int i2) := Option.some.inj ei2
  have na := Cond.before_iff.mp (hsets _ (List.mem_of_getElem? (i := 3) rfl))
  obtain ⟨ca, v0⟩ := exa_v na
  have Sc := Sta.start v0 (Or.inl (hsets _ (List.mem_of_getElem? (i := 1) rfl)))
  obtain ⟨cl, Ac⟩ := Arr.start v0 (Cond.before_iff.mp (hsets _ (List.mem_of_getElem? (i := 2) rfl)))
  have hlen := Cond.before_iff.mp (hsets _ (List.mem_of_getElem? (i := 4) rfl))
  obtain ⟨lv, ly, le1, le2, -, -⟩ := cmp_v (Or.inl hlen)
  obtain ⟨la, lc, lf1, lf2, rfl⟩ := Term.length_spec le1
  have lg := eqv_i (Term.int_eval (256 : Int32)) hlen
  cases v0.symm.trans lf1
  cases (Ac.fin (Vm.Alike.refl _)).symm.trans lf2
  have l256 : cl.slots.size.toInt32 = (256 : Int32) := Value.int.inj (Option.some.inj (le1.symm.trans lg))
  have lsz : cl.slots.size < 2 ^ 31 := own_lsz v0 (Ac.fin (Vm.Alike.refl _)) le1
  have Bx := Bxs.start (K := "java/lang/Long") (d := "J") (z := (256 : Int32)) (val := fun j => .long ((j - (128 : Int32)).toInt64)) (fun _ => v0) Ac lsz l256 (by decide) (Cond.before_iff.mp (hsets _ (List.mem_of_getElem? (i := 5) rfl))) (fun X j hj h => eqv_l (i2l_at (by simp [Term.eval, own_idx hj])) h)
  obtain ⟨n, o, h1, h2, h3, _, L, rfl, ⟨rfl, N⟩, hq⟩ := rm_Q0 l s _ hw tables_1 i0 i1 i2 ca cl s.heap s.heap.size (Nat.le_refl _) (Old.start s) Sc Bx p e ha hc hk s m _ below hf ((Spec.applies_iff_loose hf).mp happ).1 ⟨rfl, State.Warmed39.refl s, rfl⟩ trivial
  refine ⟨n, _, h1, h2, h3, hpost _ _ _ _ _ _ ⟨Cond.after_iff.mpr rfl, Cond.after_iff.mpr (eq_i res_at (Term.int_eval (1)) rfl), trivial⟩ ⟨hq.1, hq.2.1, (hq.2.2.sift fun y hy => Or.inr (N y hy)).mono (by decide) (by decide)⟩⟩
theorem main_1_1 : Claimed_1_1 := comes_1 fun _ _ _ _ _ _ h hF => ⟨h.1, hF⟩
theorem main_1_2 : Claimed_1_2 := comes_1 fun _ _ _ _ _ _ h hF => ⟨h.2.1, hF⟩
end Jvm.Pilot.@@N@@
namespace Jvm.Pilot.@@N@@
open Jvm Jvm.ClassFile Sem Op Lib Jvm.Free Jvm.Stand Jvm.Pilot.@@N@@.Jvm.D
/-! MADE BY PROGRAM (witnessworld.py) out of the Statement's table words and the real class files: 17 classes; the members and pool entries that the words name. The judged class is class 1, her method 1. -/
namespace start1
open Jvm.ClassFile
def u (s : String) : CpInfo := .utf8 (stringToUtf16 s)
/-- a pool by its gaps: so many unusable entries, then the entry; so many at the end -/
def gap : Nat → List CpInfo → List CpInfo
  | 0, r => r
  | n + 1, r => .unusable :: gap n r
def poolList (es : List (Nat × CpInfo)) (last : Nat) : List CpInfo := es.foldr (fun e r => gap e.1 (e.2 :: r)) (gap last [])
def pool (es : List (Nat × CpInfo)) (last : Nat) : Array CpInfo := ⟨poolList es last⟩
def fileOf (pool : Array CpInfo) (this : Nat) (attrs : Array Attribute := #[]) (ms : Array MethodInfo := #[]) (fl : Nat := 33) (sup : Nat := 0) (ifs : Array Nat := #[]) (fds : Array FieldInfo := #[]) : ClassFile where
  minorVersion := 0
  majorVersion := 65
  constantPool := pool
  accessFlags := fl
  thisClass := this
  superClass := sup
  interfaces := ifs
  fields := fds
  methods := ms
  attributes := attrs
def plain (name : String) (sup : Option ClassId) : Class where
  name := name
  kind := .ordinary
  loader := none
  accessFlags := 33
  super := sup
  interfaces := #[]
  cf := none
  fields := #[]
  methods := #[]
  instanceTypes := #[]
  staticTypes := #[]
  resolved := #[]
  callSites := []
  init := .initialized
  statics := none
  mirror := none

def pool0 : Array CpInfo := pool [(5, u "<init>"), (0, u "()V"), (1, .class_ 10), (1, u "java/lang/Object")] 113

def k0c0 : Code := { maxStack := 0, maxLocals := 1, code := object_method_1_code, exceptionTable := #[], attributes := #[] }
def k0m0 : Method := { name := "<init>", desc := "()V", sig := { parameters := [], returnType := none }, accessFlags := 1, code := some k0c0 }
/-- java/lang/Object -/
def k0 : Class := { plain "java/lang/Object" none with
  accessFlags := 33
  interfaces := #[]
  cf := some (fileOf pool0 8 #[] #[{ accessFlags := 1, nameIndex := 5, descriptorIndex := 6, attributes := #[] }] 33 0 #[] #[])
  fields := #[]
  methods := #[k0m0]
  instanceTypes := #[]
  staticTypes := #[]
  resolved := Array.replicate 124 none
  statics := none }

def pool1 : Array CpInfo := pool [(2, .class_ 4), (1, u "java/lang/Object"), (0, u "<init>"), (0, u "()V"), (0, .class_ 8), (0, u "com/example/docketline/docketline/model/Price"), (0, .methodref 7 10), (0, .nameAndType 5 11), (0, u "(J)V"), (0, .methodref 13 14), (0, .class_ 15), (0, .nameAndType 16 17), (0, u "java/lang/Long"), (0, u "valueOf"), (0, u "(J)Ljava/lang/Long;"), (0, .methodref 7 19), (0, .nameAndType 20 21), (0, u "equals"), (0, u "(Ljava/lang/Object;)Z"), (0, .class_ 23), (0, u "com/example/docketline/docketline/model/PriceEqualsPinLaw"), (2, u "law"), (0, u "(JJI)Z")] 3

def k1m0 : Method := { name := "<init>", desc := "()V", sig := { parameters := [], returnType := none }, accessFlags := 1, code := none }
def k1c1 : Code := { maxStack := 4, maxLocals := 12, code := code, exceptionTable := #[], attributes := #[] }
def k1m1 : Method := { name := "law", desc := "(JJI)Z", sig := { parameters := [.long, .long, .int], returnType := some .boolean }, accessFlags := 9, code := some k1c1 }
/-- com/example/docketline/docketline/model/PriceEqualsPinLaw -/
def k1 : Class := { plain "com/example/docketline/docketline/model/PriceEqualsPinLaw" (some 0) with
  accessFlags := 49
  interfaces := #[]
  cf := some (fileOf pool1 22 #[] #[{ accessFlags := 1, nameIndex := 5, descriptorIndex := 6, attributes := #[] }, { accessFlags := 9, nameIndex := 26, descriptorIndex := 27, attributes := #[] }] 49 2 #[] #[])
  fields := #[]
  methods := #[k1m0, k1m1]
  instanceTypes := #[]
  staticTypes := #[]
  resolved := Array.replicate 31 none
  statics := none }

def pool2 : Array CpInfo := pool [(1, .methodref 2 3), (0, .class_ 4), (0, .nameAndType 5 6), (0, u "java/lang/Object"), (0, u "<init>"), (0, u "()V"), (0, .class_ 8), (0, u "java/lang/Record")] 13

def k2c0 : Code := { maxStack := 1, maxLocals := 1, code := jdk_30_method_1_code, exceptionTable := #[], attributes := #[] }
def k2m0 : Method := { name := "<init>", desc := "()V", sig := { parameters := [], returnType := none }, accessFlags := 4, code := some k2c0 }
/-- java/lang/Record -/
def k2 : Class := { plain "java/lang/Record" (some 0) with
  accessFlags := 1057
  interfaces := #[]
  cf := some (fileOf pool2 7 #[] #[{ accessFlags := 4, nameIndex := 5, descriptorIndex := 6, attributes := #[] }] 1057 2 #[] #[])
  fields := #[]
  methods := #[k2m0]
  instanceTypes := #[]
  staticTypes := #[]
  resolved := Array.replicate 22 none
  statics := none }

def pool3 : Array CpInfo := pool [(1, .class_ 2), (0, u "java/lang/Comparable"), (0, .class_ 4), (0, u "java/lang/Object")] 7

/-- java/lang/Comparable -/
def k3 : Class := { plain "java/lang/Comparable" (some 0) with
  accessFlags := 1537
  interfaces := #[]
  cf := some (fileOf pool3 1 #[] #[] 1537 3 #[] #[])
  fields := #[]
  methods := #[]
  instanceTypes := #[]
  staticTypes := #[]
  resolved := Array.replicate 12 none
  statics := none }

def pool4 : Array CpInfo := pool [(1, .methodref 2 3), (0, .class_ 4), (0, .nameAndType 5 6), (0, u "java/lang/Record"), (0, u "<init>"), (0, u "()V"), (0, .fieldref 8 9), (0, .class_ 10), (0, .nameAndType 11 12), (0, u "com/example/docketline/docketline/model/Price"), (0, u "units"), (0, u "J"), (12, u "(J)V"), (70, .class_ 97), (0, u "java/lang/Comparable"), (0, u "DECIMALS"), (0, u "I"), (2, u "PRINTED_DECIMALS"), (1, u "UNITS_PER_CENT"), (14, u "equals"), (0, u "(Ljava/lang/Object;)Z")] 26

def k4c0 : Code := { maxStack := 3, maxLocals := 3, code := prog_56_method_1_code, exceptionTable := #[], attributes := #[] }
def k4m0 : Method := { name := "<init>", desc := "(J)V", sig := { parameters := [.long], returnType := none }, accessFlags := 1, code := some k4c0 }
def k4c1 : Code := { maxStack := 4, maxLocals := 3, code := prog_56_method_8_code, exceptionTable := #[], attributes := #[] }
def k4m1 : Method := { name := "equals", desc := "(Ljava/lang/Object;)Z", sig := { parameters := [(.object "java/lang/Object")], returnType := some .boolean }, accessFlags := 1, code := some k4c1 }
/-- com/example/docketline/docketline/model/Price -/
def k4 : Class := { plain "com/example/docketline/docketline/model/Price" (some 2) with
  accessFlags := 49
  interfaces := #[3]
  cf := some (fileOf pool4 8 #[] #[{ accessFlags := 1, nameIndex := 5, descriptorIndex := 25, attributes := #[] }, { accessFlags := 1, nameIndex := 119, descriptorIndex := 120, attributes := #[] }] 49 2 #[96] #[{ accessFlags := 18, nameIndex := 11, descriptorIndex := 12, attributes := #[] }, { accessFlags := 25, nameIndex := 98, descriptorIndex := 99, attributes := #[] }, { accessFlags := 26, nameIndex := 102, descriptorIndex := 99, attributes := #[] }, { accessFlags := 25, nameIndex := 104, descriptorIndex := 12, attributes := #[] }])
  fields := #[{ name := "units", type := .long, accessFlags := 18, slot := 0, constantValue := 0 }, { name := "DECIMALS", type := .int, accessFlags := 25, slot := 0, constantValue := 0 }, { name := "PRINTED_DECIMALS", type := .int, accessFlags := 26, slot := 1, constantValue := 0 }, { name := "UNITS_PER_CENT", type := .long, accessFlags := 25, slot := 2, constantValue := 0 }]
  methods := #[k4m0, k4m1]
  instanceTypes := #[.long]
  staticTypes := #[.int, .int, .long]
  resolved := Array.replicate 147 none
  statics := none }

def pool5 : Array CpInfo := pool [(1, .class_ 2), (0, u "java/io/Serializable"), (0, .class_ 4), (0, u "java/lang/Object")] 2

/-- java/io/Serializable -/
def k5 : Class := { plain "java/io/Serializable" (some 0) with
  accessFlags := 1537
  interfaces := #[]
  cf := some (fileOf pool5 1 #[] #[] 1537 3 #[] #[])
  fields := #[]
  methods := #[]
  instanceTypes := #[]
  staticTypes := #[]
  resolved := Array.replicate 7 none
  statics := none }

def pool6 : Array CpInfo := pool [(1, .methodref 2 3), (0, .class_ 4), (0, .nameAndType 5 6), (0, u "java/lang/Object"), (0, u "<init>"), (0, u "()V"), (1, .class_ 10), (1, u "java/lang/Number"), (2, .class_ 14), (0, u "java/io/Serializable"), (0, u "serialVersionUID"), (0, u "J")] 20

def k6c0 : Code := { maxStack := 1, maxLocals := 1, code := jdk_18_method_1_code, exceptionTable := #[], attributes := #[] }
def k6m0 : Method := { name := "<init>", desc := "()V", sig := { parameters := [], returnType := none }, accessFlags := 1, code := some k6c0 }
/-- java/lang/Number -/
def k6 : Class := { plain "java/lang/Number" (some 0) with
  accessFlags := 1057
  interfaces := #[5]
  cf := some (fileOf pool6 8 #[] #[{ accessFlags := 1, nameIndex := 5, descriptorIndex := 6, attributes := #[] }] 1057 2 #[13] #[{ accessFlags := 26, nameIndex := 15, descriptorIndex := 16, attributes := #[] }])
  fields := #[{ name := "serialVersionUID", type := .long, accessFlags := 26, slot := 0, constantValue := 0 }]
  methods := #[k6m0]
  instanceTypes := #[]
  staticTypes := #[.long]
  resolved := Array.replicate 37 none
  statics := none }

def pool7 : Array CpInfo := pool [(1, .class_ 2), (0, u "java/lang/constant/Constable"), (0, .class_ 4), (0, u "java/lang/Object")] 6

/-- java/lang/constant/Constable -/
def k7 : Class := { plain "java/lang/constant/Constable" (some 0) with
  accessFlags := 1537
  interfaces := #[]
  cf := some (fileOf pool7 1 #[] #[] 1537 3 #[] #[])
  fields := #[]
  methods := #[]
  instanceTypes := #[]
  staticTypes := #[]
  resolved := Array.replicate 11 none
  statics := none }

def pool8 : Array CpInfo := pool [(1, .class_ 2), (0, u "java/lang/constant/ConstantDesc"), (0, .class_ 4), (0, u "java/lang/Object")] 32

/-- java/lang/constant/ConstantDesc -/
def k8 : Class := { plain "java/lang/constant/ConstantDesc" (some 0) with
  accessFlags := 1537
  interfaces := #[]
  cf := some (fileOf pool8 1 #[] #[] 1537 3 #[] #[])
  fields := #[]
  methods := #[]
  instanceTypes := #[]
  staticTypes := #[]
  resolved := Array.replicate 37 none
  statics := none }

def pool9 : Array CpInfo := pool [(1, .class_ 2), (0, u "java/lang/Long"), (55, .nameAndType 59 60), (0, u "<init>"), (0, u "()V"), (24, u "valueOf"), (143, u "(J)Ljava/lang/Long;"), (0, .long 18446744073709551488), (1, .long 127), (1, .fieldref 235 236), (0, .class_ 237), (0, .nameAndType 238 239), (0, u "java/lang/Long$LongCache"), (0, u "cache"), (0, u "[Ljava/lang/Long;"), (0, .methodref 1 241), (0, .nameAndType 59 242), (0, u "(J)V"), (27, .methodref 271 58), (0, .class_ 272), (0, u "java/lang/Number"), (0, .fieldref 1 274), (0, .nameAndType 275 276), (0, u "value"), (0, u "J"), (84, u "TYPE"), (0, u "Ljava/lang/Class;"), (0, .class_ 364), (0, u "java/lang/Comparable"), (0, .class_ 366), (0, u "java/lang/constant/Constable"), (0, .class_ 368), (0, u "java/lang/constant/ConstantDesc"), (0, u "MIN_VALUE"), (1, u "MAX_VALUE"), (4, u "SIZE"), (0, u "I"), (1, u "BYTES"), (1, u "serialVersionUID")] 142

def k9c0 : Code := { maxStack := 4, maxLocals := 3, code := jdk_35_method_24_code, exceptionTable := #[], attributes := #[] }
def k9m0 : Method := { name := "valueOf", desc := "(J)Ljava/lang/Long;", sig := { parameters := [.long], returnType := some (.object "java/lang/Long") }, accessFlags := 9, code := some k9c0 }
def k9c1 : Code := { maxStack := 3, maxLocals := 3, code := jdk_35_method_26_code, exceptionTable := #[], attributes := #[] }
def k9m1 : Method := { name := "<init>", desc := "(J)V", sig := { parameters := [.long], returnType := none }, accessFlags := 1, code := some k9c1 }
/-- java/lang/Long -/
def k9 : Class := { plain "java/lang/Long" (some 6) with
  accessFlags := 49
  interfaces := #[3, 7, 8]
  cf := some (fileOf pool9 1 #[.nestMembers #[235]] #[{ accessFlags := 9, nameIndex := 85, descriptorIndex := 229, attributes := #[] }, { accessFlags := 1, nameIndex := 59, descriptorIndex := 242, attributes := #[] }] 49 271 #[363, 365, 367] #[{ accessFlags := 25, nameIndex := 369, descriptorIndex := 276, attributes := #[] }, { accessFlags := 25, nameIndex := 371, descriptorIndex := 276, attributes := #[] }, { accessFlags := 25, nameIndex := 361, descriptorIndex := 362, attributes := #[] }, { accessFlags := 18, nameIndex := 275, descriptorIndex := 276, attributes := #[] }, { accessFlags := 25, nameIndex := 376, descriptorIndex := 377, attributes := #[] }, { accessFlags := 25, nameIndex := 379, descriptorIndex := 377, attributes := #[] }, { accessFlags := 26, nameIndex := 381, descriptorIndex := 276, attributes := #[] }])
  fields := #[{ name := "MIN_VALUE", type := .long, accessFlags := 25, slot := 0, constantValue := 0 }, { name := "MAX_VALUE", type := .long, accessFlags := 25, slot := 1, constantValue := 0 }, { name := "TYPE", type := (.object "java/lang/Class"), accessFlags := 25, slot := 2, constantValue := 0 }, { name := "value", type := .long, accessFlags := 18, slot := 0, constantValue := 0 }, { name := "SIZE", type := .int, accessFlags := 25, slot := 3, constantValue := 0 }, { name := "BYTES", type := .int, accessFlags := 25, slot := 4, constantValue := 0 }, { name := "serialVersionUID", type := .long, accessFlags := 26, slot := 5, constantValue := 0 }]
  methods := #[k9m0, k9m1]
  instanceTypes := #[.long]
  staticTypes := #[.long, .long, (.object "java/lang/Class"), .int, .int, .long]
  resolved := Array.replicate 524 none
  statics := none }

def pool10 : Array CpInfo := pool [(2, .class_ 4), (1, u "java/lang/Object"), (0, u "<init>"), (0, u "()V"), (0, .class_ 8), (0, u "java/lang/Long"), (7, .class_ 18), (1, u "java/lang/Long$LongCache"), (0, u "$assertionsDisabled"), (0, u "Z"), (8, u "archivedCache"), (0, u "[Ljava/lang/Long;"), (7, u "cache")] 24

def k10m0 : Method := { name := "<init>", desc := "()V", sig := { parameters := [], returnType := none }, accessFlags := 2, code := none }
/-- java/lang/Long$LongCache -/
def k10 : Class := { plain "java/lang/Long$LongCache" (some 0) with
  accessFlags := 48
  interfaces := #[]
  cf := some (fileOf pool10 16 #[.nestHost 7] #[{ accessFlags := 2, nameIndex := 5, descriptorIndex := 6, attributes := #[] }] 48 2 #[] #[{ accessFlags := 24, nameIndex := 38, descriptorIndex := 30, attributes := #[] }, { accessFlags := 8, nameIndex := 29, descriptorIndex := 30, attributes := #[] }, { accessFlags := 4120, nameIndex := 19, descriptorIndex := 20, attributes := #[] }])
  fields := #[{ name := "cache", type := (.array (.object "java/lang/Long")), accessFlags := 24, slot := 0, constantValue := 0 }, { name := "archivedCache", type := (.array (.object "java/lang/Long")), accessFlags := 8, slot := 1, constantValue := 0 }, { name := "$assertionsDisabled", type := .boolean, accessFlags := 4120, slot := 2, constantValue := 0 }]
  methods := #[k10m0]
  instanceTypes := #[]
  staticTypes := #[(.array (.object "java/lang/Long")), (.array (.object "java/lang/Long")), .boolean]
  resolved := Array.replicate 63 none
  statics := some 0 }

def pool11 : Array CpInfo := pool [(1, u "java/lang/Cloneable"), (0, .class_ 1), (0, u "java/lang/Object"), (0, .class_ 3)] 3

/-- java/lang/Cloneable -/
def k11 : Class := { plain "java/lang/Cloneable" (some 0) with
  accessFlags := 1537
  interfaces := #[]
  cf := some (fileOf pool11 2 #[] #[] 1537 4 #[] #[])
  fields := #[]
  methods := #[]
  instanceTypes := #[]
  staticTypes := #[]
  resolved := Array.replicate 8 none
  statics := none }

/-- the primitive byte -/
def k12 : Class := { plain "byte" none with kind := .primitive 'B', accessFlags := 0x411 }
/-- [B -/
def k13 : Class := { plain "[B" (some 0) with kind := .array 12 .byte, interfaces := #[11, 5], accessFlags := 1041 }

/-- the primitive int -/
def k14 : Class := { plain "int" none with kind := .primitive 'I', accessFlags := 0x411 }
/-- [I -/
def k15 : Class := { plain "[I" (some 0) with kind := .array 14 .int, interfaces := #[11, 5], accessFlags := 1041 }

/-- [Ljava/lang/Long; -/
def k16 : Class := { plain "[Ljava/lang/Long;" (some 0) with kind := .array 9 (.object "java/lang/Long"), interfaces := #[11, 5], accessFlags := 1041 }

def heap : Heap := #[{ cls := 10, slots := #[.ref 1, .null, .int 0], vm := .statics 10 },
  { cls := 16, slots := #[.ref 2, .ref 3, .ref 4, .ref 5, .ref 6, .ref 7, .ref 8, .ref 9, .ref 10, .ref 11, .ref 12, .ref 13, .ref 14, .ref 15, .ref 16, .ref 17, .ref 18, .ref 19, .ref 20, .ref 21, .ref 22, .ref 23, .ref 24, .ref 25, .ref 26, .ref 27, .ref 28, .ref 29, .ref 30, .ref 31, .ref 32, .ref 33, .ref 34, .ref 35, .ref 36, .ref 37, .ref 38, .ref 39, .ref 40, .ref 41, .ref 42, .ref 43, .ref 44, .ref 45, .ref 46, .ref 47, .ref 48, .ref 49, .ref 50, .ref 51, .ref 52, .ref 53, .ref 54, .ref 55, .ref 56, .ref 57, .ref 58, .ref 59, .ref 60, .ref 61, .ref 62, .ref 63, .ref 64, .ref 65, .ref 66, .ref 67, .ref 68, .ref 69, .ref 70, .ref 71, .ref 72, .ref 73, .ref 74, .ref 75, .ref 76, .ref 77, .ref 78, .ref 79, .ref 80, .ref 81, .ref 82, .ref 83, .ref 84, .ref 85, .ref 86, .ref 87, .ref 88, .ref 89, .ref 90, .ref 91, .ref 92, .ref 93, .ref 94, .ref 95, .ref 96, .ref 97, .ref 98, .ref 99, .ref 100, .ref 101, .ref 102, .ref 103, .ref 104, .ref 105, .ref 106, .ref 107, .ref 108, .ref 109, .ref 110, .ref 111, .ref 112, .ref 113, .ref 114, .ref 115, .ref 116, .ref 117, .ref 118, .ref 119, .ref 120, .ref 121, .ref 122, .ref 123, .ref 124, .ref 125, .ref 126, .ref 127, .ref 128, .ref 129, .ref 130, .ref 131, .ref 132, .ref 133, .ref 134, .ref 135, .ref 136, .ref 137, .ref 138, .ref 139, .ref 140, .ref 141, .ref 142, .ref 143, .ref 144, .ref 145, .ref 146, .ref 147, .ref 148, .ref 149, .ref 150, .ref 151, .ref 152, .ref 153, .ref 154, .ref 155, .ref 156, .ref 157, .ref 158, .ref 159, .ref 160, .ref 161, .ref 162, .ref 163, .ref 164, .ref 165, .ref 166, .ref 167, .ref 168, .ref 169, .ref 170, .ref 171, .ref 172, .ref 173, .ref 174, .ref 175, .ref 176, .ref 177, .ref 178, .ref 179, .ref 180, .ref 181, .ref 182, .ref 183, .ref 184, .ref 185, .ref 186, .ref 187, .ref 188, .ref 189, .ref 190, .ref 191, .ref 192, .ref 193, .ref 194, .ref 195, .ref 196, .ref 197, .ref 198, .ref 199, .ref 200, .ref 201, .ref 202, .ref 203, .ref 204, .ref 205, .ref 206, .ref 207, .ref 208, .ref 209, .ref 210, .ref 211, .ref 212, .ref 213, .ref 214, .ref 215, .ref 216, .ref 217, .ref 218, .ref 219, .ref 220, .ref 221, .ref 222, .ref 223, .ref 224, .ref 225, .ref 226, .ref 227, .ref 228, .ref 229, .ref 230, .ref 231, .ref 232, .ref 233, .ref 234, .ref 235, .ref 236, .ref 237, .ref 238, .ref 239, .ref 240, .ref 241, .ref 242, .ref 243, .ref 244, .ref 245, .ref 246, .ref 247, .ref 248, .ref 249, .ref 250, .ref 251, .ref 252, .ref 253, .ref 254, .ref 255, .ref 256, .ref 257], vm := .none },
  { cls := 9, slots := #[.long (-128)], vm := .none },
  { cls := 9, slots := #[.long (-127)], vm := .none },
  { cls := 9, slots := #[.long (-126)], vm := .none },
  { cls := 9, slots := #[.long (-125)], vm := .none },
  { cls := 9, slots := #[.long (-124)], vm := .none },
  { cls := 9, slots := #[.long (-123)], vm := .none },
  { cls := 9, slots := #[.long (-122)], vm := .none },
  { cls := 9, slots := #[.long (-121)], vm := .none },
  { cls := 9, slots := #[.long (-120)], vm := .none },
  { cls := 9, slots := #[.long (-119)], vm := .none },
  { cls := 9, slots := #[.long (-118)], vm := .none },
  { cls := 9, slots := #[.long (-117)], vm := .none },
  { cls := 9, slots := #[.long (-116)], vm := .none },
  { cls := 9, slots := #[.long (-115)], vm := .none },
  { cls := 9, slots := #[.long (-114)], vm := .none },
  { cls := 9, slots := #[.long (-113)], vm := .none },
  { cls := 9, slots := #[.long (-112)], vm := .none },
  { cls := 9, slots := #[.long (-111)], vm := .none },
  { cls := 9, slots := #[.long (-110)], vm := .none },
  { cls := 9, slots := #[.long (-109)], vm := .none },
  { cls := 9, slots := #[.long (-108)], vm := .none },
  { cls := 9, slots := #[.long (-107)], vm := .none },
  { cls := 9, slots := #[.long (-106)], vm := .none },
  { cls := 9, slots := #[.long (-105)], vm := .none },
  { cls := 9, slots := #[.long (-104)], vm := .none },
  { cls := 9, slots := #[.long (-103)], vm := .none },
  { cls := 9, slots := #[.long (-102)], vm := .none },
  { cls := 9, slots := #[.long (-101)], vm := .none },
  { cls := 9, slots := #[.long (-100)], vm := .none },
  { cls := 9, slots := #[.long (-99)], vm := .none },
  { cls := 9, slots := #[.long (-98)], vm := .none },
  { cls := 9, slots := #[.long (-97)], vm := .none },
  { cls := 9, slots := #[.long (-96)], vm := .none },
  { cls := 9, slots := #[.long (-95)], vm := .none },
  { cls := 9, slots := #[.long (-94)], vm := .none },
  { cls := 9, slots := #[.long (-93)], vm := .none },
  { cls := 9, slots := #[.long (-92)], vm := .none },
  { cls := 9, slots := #[.long (-91)], vm := .none },
  { cls := 9, slots := #[.long (-90)], vm := .none },
  { cls := 9, slots := #[.long (-89)], vm := .none },
  { cls := 9, slots := #[.long (-88)], vm := .none },
  { cls := 9, slots := #[.long (-87)], vm := .none },
  { cls := 9, slots := #[.long (-86)], vm := .none },
  { cls := 9, slots := #[.long (-85)], vm := .none },
  { cls := 9, slots := #[.long (-84)], vm := .none },
  { cls := 9, slots := #[.long (-83)], vm := .none },
  { cls := 9, slots := #[.long (-82)], vm := .none },
  { cls := 9, slots := #[.long (-81)], vm := .none },
  { cls := 9, slots := #[.long (-80)], vm := .none },
  { cls := 9, slots := #[.long (-79)], vm := .none },
  { cls := 9, slots := #[.long (-78)], vm := .none },
  { cls := 9, slots := #[.long (-77)], vm := .none },
  { cls := 9, slots := #[.long (-76)], vm := .none },
  { cls := 9, slots := #[.long (-75)], vm := .none },
  { cls := 9, slots := #[.long (-74)], vm := .none },
  { cls := 9, slots := #[.long (-73)], vm := .none },
  { cls := 9, slots := #[.long (-72)], vm := .none },
  { cls := 9, slots := #[.long (-71)], vm := .none },
  { cls := 9, slots := #[.long (-70)], vm := .none },
  { cls := 9, slots := #[.long (-69)], vm := .none },
  { cls := 9, slots := #[.long (-68)], vm := .none },
  { cls := 9, slots := #[.long (-67)], vm := .none },
  { cls := 9, slots := #[.long (-66)], vm := .none },
  { cls := 9, slots := #[.long (-65)], vm := .none },
  { cls := 9, slots := #[.long (-64)], vm := .none },
  { cls := 9, slots := #[.long (-63)], vm := .none },
  { cls := 9, slots := #[.long (-62)], vm := .none },
  { cls := 9, slots := #[.long (-61)], vm := .none },
  { cls := 9, slots := #[.long (-60)], vm := .none },
  { cls := 9, slots := #[.long (-59)], vm := .none },
  { cls := 9, slots := #[.long (-58)], vm := .none },
  { cls := 9, slots := #[.long (-57)], vm := .none },
  { cls := 9, slots := #[.long (-56)], vm := .none },
  { cls := 9, slots := #[.long (-55)], vm := .none },
  { cls := 9, slots := #[.long (-54)], vm := .none },
  { cls := 9, slots := #[.long (-53)], vm := .none },
  { cls := 9, slots := #[.long (-52)], vm := .none },
  { cls := 9, slots := #[.long (-51)], vm := .none },
  { cls := 9, slots := #[.long (-50)], vm := .none },
  { cls := 9, slots := #[.long (-49)], vm := .none },
  { cls := 9, slots := #[.long (-48)], vm := .none },
  { cls := 9, slots := #[.long (-47)], vm := .none },
  { cls := 9, slots := #[.long (-46)], vm := .none },
  { cls := 9, slots := #[.long (-45)], vm := .none },
  { cls := 9, slots := #[.long (-44)], vm := .none },
  { cls := 9, slots := #[.long (-43)], vm := .none },
  { cls := 9, slots := #[.long (-42)], vm := .none },
  { cls := 9, slots := #[.long (-41)], vm := .none },
  { cls := 9, slots := #[.long (-40)], vm := .none },
  { cls := 9, slots := #[.long (-39)], vm := .none },
  { cls := 9, slots := #[.long (-38)], vm := .none },
  { cls := 9, slots := #[.long (-37)], vm := .none },
  { cls := 9, slots := #[.long (-36)], vm := .none },
  { cls := 9, slots := #[.long (-35)], vm := .none },
  { cls := 9, slots := #[.long (-34)], vm := .none },
  { cls := 9, slots := #[.long (-33)], vm := .none },
  { cls := 9, slots := #[.long (-32)], vm := .none },
  { cls := 9, slots := #[.long (-31)], vm := .none },
  { cls := 9, slots := #[.long (-30)], vm := .none },
  { cls := 9, slots := #[.long (-29)], vm := .none },
  { cls := 9, slots := #[.long (-28)], vm := .none },
  { cls := 9, slots := #[.long (-27)], vm := .none },
  { cls := 9, slots := #[.long (-26)], vm := .none },
  { cls := 9, slots := #[.long (-25)], vm := .none },
  { cls := 9, slots := #[.long (-24)], vm := .none },
  { cls := 9, slots := #[.long (-23)], vm := .none },
  { cls := 9, slots := #[.long (-22)], vm := .none },
  { cls := 9, slots := #[.long (-21)], vm := .none },
  { cls := 9, slots := #[.long (-20)], vm := .none },
  { cls := 9, slots := #[.long (-19)], vm := .none },
  { cls := 9, slots := #[.long (-18)], vm := .none },
  { cls := 9, slots := #[.long (-17)], vm := .none },
  { cls := 9, slots := #[.long (-16)], vm := .none },
  { cls := 9, slots := #[.long (-15)], vm := .none },
  { cls := 9, slots := #[.long (-14)], vm := .none },
  { cls := 9, slots := #[.long (-13)], vm := .none },
  { cls := 9, slots := #[.long (-12)], vm := .none },
  { cls := 9, slots := #[.long (-11)], vm := .none },
  { cls := 9, slots := #[.long (-10)], vm := .none },
  { cls := 9, slots := #[.long (-9)], vm := .none },
  { cls := 9, slots := #[.long (-8)], vm := .none },
  { cls := 9, slots := #[.long (-7)], vm := .none },
  { cls := 9, slots := #[.long (-6)], vm := .none },
  { cls := 9, slots := #[.long (-5)], vm := .none },
  { cls := 9, slots := #[.long (-4)], vm := .none },
  { cls := 9, slots := #[.long (-3)], vm := .none },
  { cls := 9, slots := #[.long (-2)], vm := .none },
  { cls := 9, slots := #[.long (-1)], vm := .none },
  { cls := 9, slots := #[.long 0], vm := .none },
  { cls := 9, slots := #[.long 1], vm := .none },
  { cls := 9, slots := #[.long 2], vm := .none },
  { cls := 9, slots := #[.long 3], vm := .none },
  { cls := 9, slots := #[.long 4], vm := .none },
  { cls := 9, slots := #[.long 5], vm := .none },
  { cls := 9, slots := #[.long 6], vm := .none },
  { cls := 9, slots := #[.long 7], vm := .none },
  { cls := 9, slots := #[.long 8], vm := .none },
  { cls := 9, slots := #[.long 9], vm := .none },
  { cls := 9, slots := #[.long 10], vm := .none },
  { cls := 9, slots := #[.long 11], vm := .none },
  { cls := 9, slots := #[.long 12], vm := .none },
  { cls := 9, slots := #[.long 13], vm := .none },
  { cls := 9, slots := #[.long 14], vm := .none },
  { cls := 9, slots := #[.long 15], vm := .none },
  { cls := 9, slots := #[.long 16], vm := .none },
  { cls := 9, slots := #[.long 17], vm := .none },
  { cls := 9, slots := #[.long 18], vm := .none },
  { cls := 9, slots := #[.long 19], vm := .none },
  { cls := 9, slots := #[.long 20], vm := .none },
  { cls := 9, slots := #[.long 21], vm := .none },
  { cls := 9, slots := #[.long 22], vm := .none },
  { cls := 9, slots := #[.long 23], vm := .none },
  { cls := 9, slots := #[.long 24], vm := .none },
  { cls := 9, slots := #[.long 25], vm := .none },
  { cls := 9, slots := #[.long 26], vm := .none },
  { cls := 9, slots := #[.long 27], vm := .none },
  { cls := 9, slots := #[.long 28], vm := .none },
  { cls := 9, slots := #[.long 29], vm := .none },
  { cls := 9, slots := #[.long 30], vm := .none },
  { cls := 9, slots := #[.long 31], vm := .none },
  { cls := 9, slots := #[.long 32], vm := .none },
  { cls := 9, slots := #[.long 33], vm := .none },
  { cls := 9, slots := #[.long 34], vm := .none },
  { cls := 9, slots := #[.long 35], vm := .none },
  { cls := 9, slots := #[.long 36], vm := .none },
  { cls := 9, slots := #[.long 37], vm := .none },
  { cls := 9, slots := #[.long 38], vm := .none },
  { cls := 9, slots := #[.long 39], vm := .none },
  { cls := 9, slots := #[.long 40], vm := .none },
  { cls := 9, slots := #[.long 41], vm := .none },
  { cls := 9, slots := #[.long 42], vm := .none },
  { cls := 9, slots := #[.long 43], vm := .none },
  { cls := 9, slots := #[.long 44], vm := .none },
  { cls := 9, slots := #[.long 45], vm := .none },
  { cls := 9, slots := #[.long 46], vm := .none },
  { cls := 9, slots := #[.long 47], vm := .none },
  { cls := 9, slots := #[.long 48], vm := .none },
  { cls := 9, slots := #[.long 49], vm := .none },
  { cls := 9, slots := #[.long 50], vm := .none },
  { cls := 9, slots := #[.long 51], vm := .none },
  { cls := 9, slots := #[.long 52], vm := .none },
  { cls := 9, slots := #[.long 53], vm := .none },
  { cls := 9, slots := #[.long 54], vm := .none },
  { cls := 9, slots := #[.long 55], vm := .none },
  { cls := 9, slots := #[.long 56], vm := .none },
  { cls := 9, slots := #[.long 57], vm := .none },
  { cls := 9, slots := #[.long 58], vm := .none },
  { cls := 9, slots := #[.long 59], vm := .none },
  { cls := 9, slots := #[.long 60], vm := .none },
  { cls := 9, slots := #[.long 61], vm := .none },
  { cls := 9, slots := #[.long 62], vm := .none },
  { cls := 9, slots := #[.long 63], vm := .none },
  { cls := 9, slots := #[.long 64], vm := .none },
  { cls := 9, slots := #[.long 65], vm := .none },
  { cls := 9, slots := #[.long 66], vm := .none },
  { cls := 9, slots := #[.long 67], vm := .none },
  { cls := 9, slots := #[.long 68], vm := .none },
  { cls := 9, slots := #[.long 69], vm := .none },
  { cls := 9, slots := #[.long 70], vm := .none },
  { cls := 9, slots := #[.long 71], vm := .none },
  { cls := 9, slots := #[.long 72], vm := .none },
  { cls := 9, slots := #[.long 73], vm := .none },
  { cls := 9, slots := #[.long 74], vm := .none },
  { cls := 9, slots := #[.long 75], vm := .none },
  { cls := 9, slots := #[.long 76], vm := .none },
  { cls := 9, slots := #[.long 77], vm := .none },
  { cls := 9, slots := #[.long 78], vm := .none },
  { cls := 9, slots := #[.long 79], vm := .none },
  { cls := 9, slots := #[.long 80], vm := .none },
  { cls := 9, slots := #[.long 81], vm := .none },
  { cls := 9, slots := #[.long 82], vm := .none },
  { cls := 9, slots := #[.long 83], vm := .none },
  { cls := 9, slots := #[.long 84], vm := .none },
  { cls := 9, slots := #[.long 85], vm := .none },
  { cls := 9, slots := #[.long 86], vm := .none },
  { cls := 9, slots := #[.long 87], vm := .none },
  { cls := 9, slots := #[.long 88], vm := .none },
  { cls := 9, slots := #[.long 89], vm := .none },
  { cls := 9, slots := #[.long 90], vm := .none },
  { cls := 9, slots := #[.long 91], vm := .none },
  { cls := 9, slots := #[.long 92], vm := .none },
  { cls := 9, slots := #[.long 93], vm := .none },
  { cls := 9, slots := #[.long 94], vm := .none },
  { cls := 9, slots := #[.long 95], vm := .none },
  { cls := 9, slots := #[.long 96], vm := .none },
  { cls := 9, slots := #[.long 97], vm := .none },
  { cls := 9, slots := #[.long 98], vm := .none },
  { cls := 9, slots := #[.long 99], vm := .none },
  { cls := 9, slots := #[.long 100], vm := .none },
  { cls := 9, slots := #[.long 101], vm := .none },
  { cls := 9, slots := #[.long 102], vm := .none },
  { cls := 9, slots := #[.long 103], vm := .none },
  { cls := 9, slots := #[.long 104], vm := .none },
  { cls := 9, slots := #[.long 105], vm := .none },
  { cls := 9, slots := #[.long 106], vm := .none },
  { cls := 9, slots := #[.long 107], vm := .none },
  { cls := 9, slots := #[.long 108], vm := .none },
  { cls := 9, slots := #[.long 109], vm := .none },
  { cls := 9, slots := #[.long 110], vm := .none },
  { cls := 9, slots := #[.long 111], vm := .none },
  { cls := 9, slots := #[.long 112], vm := .none },
  { cls := 9, slots := #[.long 113], vm := .none },
  { cls := 9, slots := #[.long 114], vm := .none },
  { cls := 9, slots := #[.long 115], vm := .none },
  { cls := 9, slots := #[.long 116], vm := .none },
  { cls := 9, slots := #[.long 117], vm := .none },
  { cls := 9, slots := #[.long 118], vm := .none },
  { cls := 9, slots := #[.long 119], vm := .none },
  { cls := 9, slots := #[.long 120], vm := .none },
  { cls := 9, slots := #[.long 121], vm := .none },
  { cls := 9, slots := #[.long 122], vm := .none },
  { cls := 9, slots := #[.long 123], vm := .none },
  { cls := 9, slots := #[.long 124], vm := .none },
  { cls := 9, slots := #[.long 125], vm := .none },
  { cls := 9, slots := #[.long 126], vm := .none },
  { cls := 9, slots := #[.long 127], vm := .none }]
def classes : Array Class := #[k0, k1, k2, k3, k4, k5, k6, k7, k8, k9, k10, k11, k12, k13, k14, k15, k16]
def interned : List (Array UInt16 × Addr) := []
def slotsUsed : Nat := 515
def theMethod : MethodId := ⟨1, 1⟩
def args0 : Array Value := #[.long 5, .long 7, .int 0]
def aboutOver (below : List Frame) : State where
  vm := { classes := classes, interned := interned.toArray }
  heap := heap
  slotsUsed := slotsUsed
  threads := #[{ frames := .invoking theMethod args0 :: below }]
def below0 : List Frame := [.native { method := ⟨0, 0⟩, args := #[] }]
def about1 : State := aboutOver below0
def p0 : Program := .bare "" "" ""
def e0 : Env := launch0.env 0 0 0
theorem w_frames : about1.frames = Frame.invoking theMethod args0 :: below0 := rfl
set_option maxRecDepth 65536 in
theorem w_args : argsFit about1.vm theMethod args0 = true := by decide +kernel
set_option maxRecDepth 65536 in
theorem w_heap : heapFits about1 = true := by decide +kernel
set_option maxRecDepth 65536 in
theorem w_runnable : about1.curStatus? = some .runnable := by decide +kernel
set_option maxRecDepth 65536 in
theorem w_alone : about1.alone = true := by decide +kernel
set_option maxRecDepth 65536 in
theorem w_named : about1.methodNamed? x = some theMethod := by decide +kernel
set_option maxRecDepth 65536 in
theorem w_hears : about1.hears theMethod below0 = true := by decide +kernel
set_option maxRecDepth 65536 in
theorem w_ripe : about1.ripe theMethod args0 below0 = true := by decide +kernel
theorem w_running : about1.status = .running := rfl
set_option maxRecDepth 65536 in
theorem w_room : about1.hasRoom e0.platform room_1 = true :=
  launch0.hasRoom_least _ room_1 (by decide +kernel) (by decide +kernel) (by decide +kernel) (by decide +kernel) (by decide +kernel) (by decide +kernel)
theorem allAtoms_all (ts : List Jvm.Cond) (a : Array Jvm.Value) (st : Jvm.State) : (allAtoms ts).before a st = ts.all (fun c => c.before a st) := by
  induction ts with
  | nil => rfl
  | cons c t ih =>
    show (Jvm.Cond.and c (allAtoms t)).before a st = _
    rw [Jvm.Cond.before_and, ih, List.all_cons]
def words1 : List Jvm.Cond := Jvm.Cond.code x code maxLocals ret :: tables_1
/-- a 'code' word, met by the world's own term for the bytes: nothing is compared byte by byte -/
theorem code_word {y : MethodName} {bytes : ByteArray} {mx : Nat} {rt : Option FieldType} {a : Array Value} {s : State} {m : MethodId} {meth : Method} {c : Code} (h1 : s.methodNamed? y = some m) (h2 : s.vm.method? m = some meth) (h3 : meth.code = some c) (h4 : c.code = bytes)
    (h5 : (c.maxLocals == mx && c.exceptionTable.isEmpty && decide (c.maxStack ≤ mostOperands) && decide (meth.sig.returnType = rt) && !meth.locks && decide (parseMethodDescriptor y.desc = some meth.sig)) = true) : (Jvm.Cond.code y bytes mx rt).before a s = true := by
  simp only [Bool.and_eq_true, beq_iff_eq, Bool.not_eq_true', decide_eq_true_eq] at h5
  obtain ⟨⟨⟨⟨⟨g1, g2⟩, g3⟩, g4⟩, g5⟩, g6⟩ := h5
  simp [Cond.before, Cond.holds, Cond.value, h1, h2, h3, h4, g1, g2, g3, g4, g5, g6]
def isCode : Jvm.Cond → Bool
  | .code _ _ _ _ => true
  | _ => false
theorem all_split {L : List Jvm.Cond} {P : Jvm.Cond → Bool} (h1 : L.all (fun c => isCode c || P c) = true) (h2 : ∀ c ∈ L.filter isCode, P c = true) : L.all P = true := by
  refine List.all_eq_true.mpr fun c hc => ?_
  have h := List.all_eq_true.mp h1 c hc
  rcases Bool.eq_false_or_eq_true (isCode c) with hi | hi
  · exact h2 c (List.mem_filter.mpr ⟨hc, hi⟩)
  · simpa [hi] using h
set_option maxRecDepth 65536 in
theorem w_c0 : (Jvm.Cond.code x code maxLocals ret).before args0 about1 = true := code_word (m := ⟨1, 1⟩) (meth := k1m1) (c := k1c1) (by decide +kernel) rfl rfl rfl (by decide +kernel)
set_option maxRecDepth 65536 in
theorem w_c1 : (Jvm.Cond.code ({ cls := "com/example/docketline/docketline/model/Price", name := "<init>", desc := "(J)V" } : Jvm.MethodName) prog_56_method_1_code (3 : Nat) (Option.none : Option Jvm.ClassFile.FieldType)).before args0 about1 = true := code_word (m := ⟨4, 0⟩) (meth := k4m0) (c := k4c0) (by decide +kernel) rfl rfl rfl (by decide +kernel)
set_option maxRecDepth 65536 in
theorem w_c2 : (Jvm.Cond.code ({ cls := "java/lang/Record", name := "<init>", desc := "()V" } : Jvm.MethodName) jdk_30_method_1_code (1 : Nat) (Option.none : Option Jvm.ClassFile.FieldType)).before args0 about1 = true := code_word (m := ⟨2, 0⟩) (meth := k2m0) (c := k2c0) (by decide +kernel) rfl rfl rfl (by decide +kernel)
set_option maxRecDepth 65536 in
theorem w_c3 : (Jvm.Cond.code ({ cls := "java/lang/Object", name := "<init>", desc := "()V" } : Jvm.MethodName) object_method_1_code (1 : Nat) (Option.none : Option Jvm.ClassFile.FieldType)).before args0 about1 = true := code_word (m := ⟨0, 0⟩) (meth := k0m0) (c := k0c0) (by decide +kernel) rfl rfl rfl (by decide +kernel)
set_option maxRecDepth 65536 in
theorem w_c4 : (Jvm.Cond.code ({ cls := "com/example/docketline/docketline/model/Price", name := "equals", desc := "(Ljava/lang/Object;)Z" } : Jvm.MethodName) prog_56_method_8_code (3 : Nat) (Option.some Jvm.ClassFile.FieldType.boolean)).before args0 about1 = true := code_word (m := ⟨4, 1⟩) (meth := k4m1) (c := k4c1) (by decide +kernel) rfl rfl rfl (by decide +kernel)
set_option maxRecDepth 65536 in
theorem w_c5 : (Jvm.Cond.code ({ cls := "java/lang/Long", name := "valueOf", desc := "(J)Ljava/lang/Long;" } : Jvm.MethodName) jdk_35_method_24_code (3 : Nat) (Option.some (Jvm.ClassFile.FieldType.object "java/lang/Long"))).before args0 about1 = true := code_word (m := ⟨9, 0⟩) (meth := k9m0) (c := k9c0) (by decide +kernel) rfl rfl rfl (by decide +kernel)
set_option maxRecDepth 65536 in
theorem w_c6 : (Jvm.Cond.code ({ cls := "java/lang/Long", name := "<init>", desc := "(J)V" } : Jvm.MethodName) jdk_35_method_26_code (3 : Nat) (Option.none : Option Jvm.ClassFile.FieldType)).before args0 about1 = true := code_word (m := ⟨9, 1⟩) (meth := k9m1) (c := k9c1) (by decide +kernel) rfl rfl rfl (by decide +kernel)
set_option maxRecDepth 65536 in
theorem w_c7 : (Jvm.Cond.code ({ cls := "java/lang/Number", name := "<init>", desc := "()V" } : Jvm.MethodName) jdk_18_method_1_code (1 : Nat) (Option.none : Option Jvm.ClassFile.FieldType)).before args0 about1 = true := code_word (m := ⟨6, 0⟩) (meth := k6m0) (c := k6c0) (by decide +kernel) rfl rfl rfl (by decide +kernel)
def codes1 : List Jvm.Cond := [Jvm.Cond.code x code maxLocals ret, Jvm.Cond.code ({ cls := "com/example/docketline/docketline/model/Price", name := "<init>", desc := "(J)V" } : Jvm.MethodName) prog_56_method_1_code (3 : Nat) (Option.none : Option Jvm.ClassFile.FieldType), Jvm.Cond.code ({ cls := "java/lang/Record", name := "<init>", desc := "()V" } : Jvm.MethodName) jdk_30_method_1_code (1 : Nat) (Option.none : Option Jvm.ClassFile.FieldType), Jvm.Cond.code ({ cls := "java/lang/Object", name := "<init>", desc := "()V" } : Jvm.MethodName) object_method_1_code (1 : Nat) (Option.none : Option Jvm.ClassFile.FieldType), Jvm.Cond.code ({ cls := "com/example/docketline/docketline/model/Price", name := "equals", desc := "(Ljava/lang/Object;)Z" } : Jvm.MethodName) prog_56_method_8_code (3 : Nat) (Option.some Jvm.ClassFile.FieldType.boolean), Jvm.Cond.code ({ cls := "java/lang/Long", name := "valueOf", desc := "(J)Ljava/lang/Long;" } : Jvm.MethodName) jdk_35_method_24_code (3 : Nat) (Option.some (Jvm.ClassFile.FieldType.object "java/lang/Long")), Jvm.Cond.code ({ cls := "java/lang/Long", name := "<init>", desc := "(J)V" } : Jvm.MethodName) jdk_35_method_26_code (3 : Nat) (Option.none : Option Jvm.ClassFile.FieldType), Jvm.Cond.code ({ cls := "java/lang/Number", name := "<init>", desc := "()V" } : Jvm.MethodName) jdk_18_method_1_code (1 : Nat) (Option.none : Option Jvm.ClassFile.FieldType)]
set_option maxRecDepth 65536 in
theorem codes_eq : words1.filter isCode = codes1 := rfl
theorem w_codes : ∀ c ∈ words1.filter isCode, c.before args0 about1 = true := by
  rw [codes_eq]
  intro c hc
  simp only [codes1, List.mem_cons, List.not_mem_nil, or_false] at hc
  rcases hc with rfl | rfl | rfl | rfl | rfl | rfl | rfl | rfl
  · exact w_c0
  · exact w_c1
  · exact w_c2
  · exact w_c3
  · exact w_c4
  · exact w_c5
  · exact w_c6
  · exact w_c7
set_option maxRecDepth 65536 in
theorem w_t1 : (words1.take 24).all (fun c => isCode c || c.before args0 about1) = true := by decide +kernel
set_option maxRecDepth 65536 in
theorem w_t2 : ((words1.drop 24).take 24).all (fun c => isCode c || c.before args0 about1) = true := by decide +kernel
set_option maxRecDepth 65536 in
theorem w_t3 : ((words1.drop 24).drop 24).all (fun c => isCode c || c.before args0 about1) = true := by decide +kernel
theorem w_tables : (allAtoms (Jvm.Cond.code x code maxLocals ret :: tables_1)).before args0 about1 = true := by
  rw [allAtoms_all]
  show words1.all (fun c => c.before args0 about1) = true
  refine all_split ?_ w_codes
  rw [← List.take_append_drop 24 words1, List.all_append, w_t1, ← List.take_append_drop 24 (words1.drop 24), List.all_append, w_t2, w_t3]
  rfl
set_option maxRecDepth 65536 in
theorem w_rest : rest_1_c.before args0 about1 = true := by decide +kernel
set_option maxRecDepth 65536 in
theorem w_case : (Jvm.Cond.and given_1 narrow_1).before args0 about1 = true := by decide +kernel
theorem w_applies : (headSpec (Jvm.Cond.code x code maxLocals ret :: tables_1) room_1).applies x e0.platform about1 = true :=
  (Spec.applies_iff w_frames).mpr ⟨w_running, w_runnable, w_alone, w_named, w_hears, w_ripe, w_room, w_tables⟩
theorem atStart : AtStart classFile x code maxLocals ret World_1 tables_1 room_1 Calls_1 rest_1 Pre_1 launch0 p0 e0 about1 theMethod args0 below0 :=
  ⟨lists_1, trivial, launch0.admits_env _ _ _, launch0.least_env, fairChoices_fair.cas, fairChoices_fair.clock, w_frames, w_args, w_heap, w_applies, trivial, w_rest, w_case⟩
end start1
theorem witness_1 : WitnessClaimed_1 := ⟨start1.p0, start1.e0, start1.about1, start1.theMethod, start1.args0, start1.below0, start1.atStart⟩
end Jvm.Pilot.@@N@@
