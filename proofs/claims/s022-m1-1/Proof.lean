import JvmDerived
import JvmDerived.Pilot.@@N@@Statement
import JvmDerived.Pilot.@@N@@Code
set_option linter.unusedVariables false
set_option linter.unusedSimpArgs false
namespace Jvm.Pilot.@@N@@
open Jvm Jvm.ClassFile Sem Op Lib Jvm.Free Jvm.Stand Jvm.LawKit Jvm.RoadKit Bundle Jvm.Pilot.@@N@@.Jvm.D
/-! own laws: the run from a state to the return, in continuation form -/
section OwnG
variable {p : Program} {l : Launch} {e : Env} {R : Room} {s : State} {m : MethodId} {args : Array Value} {below : List Frame} {meth : Method} {c : Code} {T : State} {locs : List Loc} {cells slots : Nat} {Z : State} {a0 : Array Value} {h : Heap} {Q : Option Value → Heap → List Loc → Prop} {ck sk : Nat}
def own_G (p : Program) (e : Env) (below : List Frame) (s : State) (Q : Option Value → Heap → List Loc → Prop) (ck sk : Nat) (U : State) : Prop :=
  ∃ s₂ o, Steps p.tables e below U s₂ ∧ s₂.status = .running ∧ Ended s₂ below o ∧ ∃ v L, o = .returned v ∧ Q v s₂.heap L ∧ FrameEnd s o s₂ L ck sk
theorem own_via {U U' : State} (k : ∀ t, Steps p.tables e below U' t → Steps p.tables e below U t) (g : own_G p e below s Q ck sk U') : own_G p e below s Q ck sk U := by
  obtain ⟨s2, o, h1, r⟩ := g
  exact ⟨s2, o, k _ h1, r⟩
theorem own_mono {Q' : Option Value → Heap → List Loc → Prop} {U : State} (k : ∀ v h L, Q v h L → Q' v h L) (g : own_G p e below s Q ck sk U) : own_G p e below s Q' ck sk U := by
  obtain ⟨s2, o, h1, h2, h3, v, L, h4, h5, h6⟩ := g
  exact ⟨s2, o, h1, h2, h3, v, L, h4, k _ _ _ h5, h6⟩
theorem own_ret (X : Stand p l e R s m args below meth c T locs cells slots) {v : Option Value} (hv : meth.sig.returnType = none → v = none) (hlk : meth.locks = false) {f : JFrame}
    (st : ∀ fs, (∀ (f : JFrame) (acts : List Action), f.method = m → f.locked = none → f.entered = [] → (doReturn e (T.setTop f) acts v).1 = T.setFrames fs) → Steps p.tables e below (T.setTop f) (T.setFrames fs))
    (hQ : Q v T.heap locs) (hc : cells ≤ ck) (hs : slots ≤ sk) : own_G p e below s Q ck sk (T.setTop f) := by
  obtain ⟨fs, hr, hrun, hended, hW, hsame⟩ := X.leave (v := v) hv hlk
  exact ⟨_, _, st fs hr, hrun, hended, _, _, rfl, hQ, ⟨_, rfl⟩, hW, hsame.mono hc hs⟩
theorem own_callS (X : Stand p l e R s m args below meth c T locs cells slots) (hx : p.tables.exec = Jvm.exec) (hZ : Z.Warmed39 s.vm) {own : String} {index : Nat} {y : MethodName} {bytes : ByteArray} {maxL : Nat} {ret : Option FieldType} {rm : Room} {as' : Array Value} {W : Nat}
    (hown : s.vm.findClass own = some m.cls) (w1 : (Jvm.Cond.methodLink own index y).before a0 Z = true) (w2 : (Jvm.Cond.static y).before a0 Z = true) (w3 : (Jvm.Cond.initialized y.cls).before a0 Z = true) (w4 : (Jvm.Cond.code y bytes maxL ret).before a0 Z = true)
    (hy : y.cls ≠ "java/lang/invoke/MethodHandle" ∧ y.cls ≠ "java/lang/invoke/VarHandle")
    (hM : MetFree l y (head1 [Jvm.Cond.code y bytes maxL ret] rm) (fun a U => a = as' ∧ Z.Warmed39 U.vm ∧ U.heap = h) (fun _ _ _ _ _ => True) (fun _ U o U' => ∃ v L, o = .returned v ∧ Q v U'.heap L ∧ FrameEnd U o U' L rm.cells rm.slots))
    (hf : rm.frames + 1 ≤ R.frames) (hl : W + (maxL + 11) + rm.locals ≤ R.locals) (eT : T.heap = h)
    {g : JFrame} (hg : g.method = m) (hsize : g.locals.size = c.maxLocals) {argsL rest : List Value} (has : argsL.toArray = as') (hlen : ∀ sig, parseMethodDescriptor y.desc = some sig → argsL.length = sig.parameters.length)
    (hstack : g.stack = argsL.reverse ++ rest) (hW : 2 * g.monitorRoom + (rest.map fun v => v.category).sum ≤ W) (hdg : decode c.code g.pc = .ok (.invokestatic index, 3))
    (hcells : cells + rm.cells ≤ R.cells) (hslots : slots + rm.slots ≤ R.slots) :
    ∃ v T' L', Stand p l e R s m args below meth c T' (locs ++ L') (cells + rm.cells) (slots + rm.slots) ∧ Q v T'.heap L' ∧ ∀ t, Steps p.tables e below (T'.setTop { g with pc := g.pc + 3, stack := v.toList ++ rest }) t → Steps p.tables e below (T.setTop g) t := by
  obtain ⟨v, vm1, ⟨T', L', k', n'⟩, -, X', ⟨Lc, hQ, q1, q2, q3⟩, st⟩ := Jvm.LawKit.callS X hx hown (mvT hZ w1) (mvT hZ w2) (mvT hZ w3) (mvT hZ w4) hy (backOf (W := W) hM hZ w4 w3 hf hl) hg hsize hlen hstack hW hdg (fun _ _ => ⟨has, eT, hcells, hslots⟩)
  dsimp only [Pt.U, Pt.locs, Pt.cells, Pt.slots] at X' q1 q2 q3 st hQ
  subst q1 q2 q3
  exact ⟨v, T', Lc, X', hQ, st⟩
theorem own_callI (X : Stand p l e R s m args below meth c T locs cells slots) (hx : p.tables.exec = Jvm.exec) (hZ : Z.Warmed39 s.vm) {own : String} {index : Nat} {y : MethodName} (hy1 : y.name = "<init>") {bytes : ByteArray} {maxL : Nat} {rm : Room} {as' : Array Value} {W : Nat}
    (hown : s.vm.findClass own = some m.cls) (w1 : (Jvm.Cond.methodLink own index y).before a0 Z = true) (w2 : (Jvm.Cond.instanceMethod y).before a0 Z = true) (w3 : (Jvm.Cond.initialized y.cls).before a0 Z = true) (w4 : (Jvm.Cond.code y bytes maxL none).before a0 Z = true)
    (hy : y.cls ≠ "java/lang/invoke/MethodHandle" ∧ y.cls ≠ "java/lang/invoke/VarHandle")
    (hM : MetFree l y (head1 [Jvm.Cond.code y bytes maxL none] rm) (fun a U => a = as' ∧ Z.Warmed39 U.vm ∧ U.heap = h) (fun _ _ _ _ _ => True) (fun _ U o U' => ∃ v L, o = .returned v ∧ Q v U'.heap L ∧ FrameEnd U o U' L rm.cells rm.slots))
    (hf : rm.frames + 1 ≤ R.frames) (hl : W + (maxL + 11) + rm.locals ≤ R.locals) (eT : T.heap = h)
    {g : JFrame} (hg : g.method = m) (hsize : g.locals.size = c.maxLocals) {a : Addr} {argsL rest : List Value} (has : (.ref a :: argsL).toArray = as') (hlen : ∀ sig, parseMethodDescriptor y.desc = some sig → argsL.length = sig.parameters.length)
    (hstack : g.stack = argsL.reverse ++ .ref a :: rest) (hW : 2 * g.monitorRoom + (rest.map fun v => v.category).sum ≤ W) (hdg : decode c.code g.pc = .ok (.invokespecial index, 3))
    (hcells : cells + rm.cells ≤ R.cells) (hslots : slots + rm.slots ≤ R.slots) :
    ∃ v T' L', Stand p l e R s m args below meth c T' (locs ++ L') (cells + rm.cells) (slots + rm.slots) ∧ Q v T'.heap L' ∧ ∀ t, Steps p.tables e below (T'.setTop { g with pc := g.pc + 3, stack := v.toList ++ rest }) t → Steps p.tables e below (T.setTop g) t := by
  obtain ⟨v, vm1, ⟨T', L', k', n'⟩, -, X', ⟨Lc, hQ, q1, q2, q3⟩, st⟩ := X.specialBack hx hy1 hown (mvT hZ w1) (mvT hZ w2) (mvT hZ w4) hy (backOf (W := W) hM hZ w4 w3 hf hl) hg hsize (Steps.refl _) hlen hstack hW hdg (fun _ _ => ⟨has, eT, hcells, hslots⟩)
  dsimp only [Pt.U, Pt.locs, Pt.cells, Pt.slots] at X' q1 q2 q3 st hQ
  subst q1 q2 q3
  exact ⟨v, T', Lc, X', hQ, fun t k => st.trans k⟩
theorem own_callV (X : Stand p l e R s m args below meth c T locs cells slots) (hx : p.tables.exec = Jvm.exec) (hZ : Z.Warmed39 s.vm) {own : String} {index : Nat} {y : MethodName} {bytes : ByteArray} {maxL : Nat} {ret : Option FieldType} {rm : Room} {as' : Array Value} {W : Nat} {C : String}
    (hown : s.vm.findClass own = some m.cls) (w1 : (Jvm.Cond.methodLink own index y).before a0 Z = true) (w2 : (Jvm.Cond.declares y).before a0 Z = true) (w5 : (Jvm.Cond.selects C y y).before a0 Z = true) (w6 : (Jvm.Cond.instanceMethod y).before a0 Z = true) (w3 : (Jvm.Cond.initialized y.cls).before a0 Z = true) (w4 : (Jvm.Cond.code y bytes maxL ret).before a0 Z = true)
    (hy : y.cls ≠ "java/lang/invoke/MethodHandle" ∧ y.cls ≠ "java/lang/invoke/VarHandle")
    (hM : MetFree l y (head1 [Jvm.Cond.code y bytes maxL ret] rm) (fun a U => a = as' ∧ Z.Warmed39 U.vm ∧ U.heap = h) (fun _ _ _ _ _ => True) (fun _ U o U' => ∃ v L, o = .returned v ∧ Q v U'.heap L ∧ FrameEnd U o U' L rm.cells rm.slots))
    (hf : rm.frames + 1 ≤ R.frames) (hl : W + (maxL + 11) + rm.locals ≤ R.locals) (eT : T.heap = h) {b : Addr} (E : Exa Z h b C)
    {g : JFrame} (hg : g.method = m) (hsize : g.locals.size = c.maxLocals) {argsL rest : List Value} (has : (.ref b :: argsL).toArray = as') (hlen : ∀ sig, parseMethodDescriptor y.desc = some sig → argsL.length = sig.parameters.length)
    (hstack : g.stack = argsL.reverse ++ .ref b :: rest) (hW : 2 * g.monitorRoom + (rest.map fun v => v.category).sum ≤ W) (hdg : decode c.code g.pc = .ok (.invokevirtual index, 3))
    (hcells : cells + rm.cells ≤ R.cells) (hslots : slots + rm.slots ≤ R.slots) :
    ∃ v T' L', Stand p l e R s m args below meth c T' (locs ++ L') (cells + rm.cells) (slots + rm.slots) ∧ Q v T'.heap L' ∧ ∀ t, Steps p.tables e below (T'.setTop { g with pc := g.pc + 3, stack := v.toList ++ rest }) t → Steps p.tables e below (T.setTop g) t := by
  obtain ⟨cq, kq, qa, qb, qc⟩ := isOf hZ eT E
  obtain ⟨v, vm1, ⟨T', L', k', n'⟩, -, X', ⟨Lc, hQ, q1, q2, q3⟩, st⟩ := X.virtualBack hx hown (mvT hZ w1) (mvT hZ w2) (notFace_of_selects (args := #[]) (mvT hZ w5)) (mvT hZ w5) (mvT hZ w6) hy (backOf (W := W) hM hZ w4 w3 hf hl) qa qc hg hsize (Steps.refl _) hlen hstack hW hdg (fun _ _ => ⟨has, eT, hcells, hslots⟩)
  dsimp only [Pt.U, Pt.locs, Pt.cells, Pt.slots] at X' q1 q2 q3 st hQ
  subst q1 q2 q3
  exact ⟨v, T', Lc, X', hQ, fun t k => st.trans k⟩
end OwnG
theorem own_jlt {x y : Int64} (h : x < y) : ifCond.holds .lt (lcmpW x y) = true ∧ ifCond.holds .ge (lcmpW x y) = false := by
  have q := (lw_lt x y).mpr h
  exact ⟨(if0 _ _).trans (tlt q).1, (if0 _ _).trans (tlt q).2.1⟩
theorem own_jnlt {x y : Int64} (h : ¬ x < y) : ifCond.holds .lt (lcmpW x y) = false ∧ ifCond.holds .ge (lcmpW x y) = true := by
  have q := fun z => h ((lw_lt x y).mp z)
  exact ⟨(if0 _ _).trans (flt q).1, (if0 _ _).trans (flt q).2.1⟩
theorem own_jgt {x y : Int64} (h : y < x) : ifCond.holds .gt (lcmpW x y) = true ∧ ifCond.holds .le (lcmpW x y) = false := by
  have q := (lw_gt x y).mpr h
  exact ⟨(if0 _ _).trans (tlt q).2.2.1, (if0 _ _).trans (tlt q).2.2.2⟩
theorem own_jngt {x y : Int64} (h : ¬ y < x) : ifCond.holds .gt (lcmpW x y) = false ∧ ifCond.holds .le (lcmpW x y) = true := by
  have q := fun z => h ((lw_gt x y).mp z)
  exact ⟨(if0 _ _).trans (flt q).2.2.1, (if0 _ _).trans (flt q).2.2.2⟩
theorem own_jeq {x y : Int64} (h : x = y) : ifCond.holds .eq (lcmpW x y) = true ∧ ifCond.holds .ne (lcmpW x y) = false := by
  have q := (lw_eq x y).mpr h
  exact ⟨(if0 _ _).trans (teq q).1, (if0 _ _).trans (teq q).2⟩
theorem own_jne {x y : Int64} (h : ¬ x = y) : ifCond.holds .eq (lcmpW x y) = false ∧ ifCond.holds .ne (lcmpW x y) = true := by
  have q := fun z => h ((lw_eq x y).mp z)
  exact ⟨(if0 _ _).trans (feq q).1, (if0 _ _).trans (feq q).2⟩
theorem own_sta_keep {Z : State} {h h' : Heap} {C n d : String} {v : Value} {ws : List Addr} (F : Sta Z h C n d v) (K : Keep h h' ws) (q : ∀ x ∈ ws, ∃ cell : Cell, h[x]? = some cell ∧ cell.vm.isStatics = false) : Sta Z h' C n d v := by
  obtain ⟨cf, i, k, f, st, cell, h1, h2, h3, h4, h5, h6, h7⟩ := F
  refine ⟨cf, i, k, f, st, cell, h1, h2, h3, h4, K.2.1 st cell h5 (fun hm => ?_), h6, h7⟩
  obtain ⟨c', e1, e2⟩ := q st hm
  cases h5.symm.trans e1
  rw [e2] at h6; cases h6
theorem own_exa_ns {Z : State} {h : Heap} {a : Addr} {C : String} (E : Exa Z h a C) : ∃ cell : Cell, h[a]? = some cell ∧ cell.vm.isStatics = false := by
  obtain ⟨cell, k, h1, -, -, h4, -⟩ := E
  exact ⟨cell, h1, h4⟩
theorem own_arv_ns {Z : State} {h : Heap} {a : Addr} {k : ClassId} {ty : FieldType} {z : Int32} {vs : List Value} {dv : Value} (F : Arv Z h a k ty z vs dv) : ∃ cell : Cell, h[a]? = some cell ∧ cell.vm.isStatics = false := by
  obtain ⟨c, A, -⟩ := F
  exact ⟨c, A.1, A.plain⟩
theorem own_seg {tb : Tables} {e : Env} {below : List Frame} {U U' t : State} (a : Steps tb e below U' t → Steps tb e below U t) (b : Steps tb e below U' t) : Steps tb e below U t := a b
theorem own_NSroot {Z : State} {a0 : Array Value} {O K : String} {n : Nat} (w : (Jvm.Cond.noSuperclass O).before a0 Z = true) (wk : (Jvm.Cond.instantiable K n).before a0 Z = true) (hn : O ≠ K) : NS Z O K := by
  obtain ⟨c, k, h1, h2, h3, -, -⟩ := Cond.noSuperclass_spec w
  obtain ⟨t, kt, g1, -⟩ := Cond.instantiable_spec wk
  refine ⟨c, t, h1, g1, fun fuel => ?_⟩
  have ne := ids_ne h1 g1 hn
  cases fuel <;> simp [Vm.isSubclassAux, ne, h2, h3]
theorem own_NSno {Z : State} {a0 : Array Value} {C S K : String} {n : Nat} (w : (Jvm.Cond.superclass C S).before a0 Z = true) (wk : (Jvm.Cond.instantiable K n).before a0 Z = true) (nn : NS Z C K) (hn : C ≠ K) : ∃ c t, Z.vm.findClass C = some c ∧ Z.vm.findClass K = some t ∧ Z.vm.assignable c t = false := by
  obtain ⟨c, t, h0, g0, n3⟩ := nn
  obtain ⟨p, k, kp, h1, h2, h3, h4, h5, -, h7⟩ := Cond.superclass_spec h0 w
  obtain ⟨t', kt, g1, g2, g3, g4, -⟩ := Cond.instantiable_spec wk
  cases g0.symm.trans g1
  have g7 : kt.isInterface = false := by cases q : kt.isInterface <;> simp [q] at g4 ⊢
  have ne := ids_ne h0 g0 hn
  refine ⟨c, t, h0, g0, ?_⟩
  show Z.vm.assignableAux (255 + 1) c t = false
  simp [Vm.assignableAux, ne, h2, g2, h5, g3, g7, Vm.isSubclass, n3]
theorem own_eqI {args : Array Value} {s : State} {t : Term} {C n d : String} {a : Addr} {k : Int32} (ht : t.eval args s none [] s = some (.ref a)) (h : (Jvm.Cond.eq (.field t C n d) (.int k)).value args s none s [] = some true) : Fld s s.heap a C n d (.int k) := by
  obtain ⟨x, y, hx, hy, K1, K2⟩ := cmp_v (Or.inl h)
  have e : y = .int k := Option.some.inj (hy.symm.trans (Term.int_eval k))
  subst e
  obtain ⟨z, rfl⟩ := K2
  have q := gotT (Cond.eq_ints hx hy) h
  subst q
  exact Fld.start ((fld_at ht).symm.trans hx)
theorem own_eqJ {args : Array Value} {s : State} {t : Term} {C n d : String} {a : Addr} {k : Int64} (ht : t.eval args s none [] s = some (.ref a)) (h : (Jvm.Cond.eq (.field t C n d) (.long k)).value args s none s [] = some true) : Fld s s.heap a C n d (.long k) := by
  obtain ⟨x, y, hx, hy, K1, K2⟩ := cmp_v (Or.inl h)
  have e : y = .long k := Option.some.inj (hy.symm.trans (show (Term.long k).eval args s none [] s = some (.long k) from rfl))
  subst e
  obtain ⟨z, rfl⟩ := K2
  have q := gotT (eq_L hx hy) h
  subst q
  exact Fld.start ((fld_at ht).symm.trans hx)

theorem own_m40 (l : Int64) : 0 ≤ (l &&& (1099511627775 : Int64)).toInt ∧ (l &&& (1099511627775 : Int64)).toInt < 1099511627776 := by
  rw [c_maskL l 1099511627775 40 (by decide) (by decide)]; omega
theorem own_tn (m : Int64) (h : 0 ≤ m.toInt ∧ m.toInt < 1099511627776) : (if (9223372036854 : Int64) < m then (9223372036854775807 : Int64) else (if m < (-(9223372036854 : Int64)) then (-9223372036854775808 : Int64) else (m * (1000000 : Int64)))) = m * (1000000 : Int64) := by
  have e1 : (9223372036854 : Int64).toInt = 9223372036854 := by decide
  have e2 : (-(9223372036854 : Int64)).toInt = -9223372036854 := by decide
  rw [if_neg (by rw [Int64.lt_iff_toInt_lt, e1]; omega), if_neg (by rw [Int64.lt_iff_toInt_lt, e2]; omega)]
theorem own_lr (s t d : Int64) : ((s + t) + d) - (s + t) = d := by
  rw [← Int64.toInt_inj]
  have h1 := c_ladd (s + t) d
  have h2 := c_lsub (s + t + d) (s + t)
  have r1 := rng64 (s + t + d - (s + t))
  have r2 := rng64 d
  omega

def Qtn (Z : State) (o : Addr) (x1 : Int64) (h0 : Heap) (n0 : Nat) (v : Option Value) (h : Heap) (L : List Loc) : Prop := v = some (.long (if (9223372036854 : Int64) < x1 then (9223372036854775807 : Int64) else (if x1 < (-(9223372036854 : Int64)) then (-9223372036854775808 : Int64) else (x1 * (1000000 : Int64))))) ∧ Fr n0 L ∧ h = h0
theorem d_jdk_2799_method_7_0 : decode jdk_2799_method_7_code 0 = .ok (.aload_n 0, 1) := by decide +kernel
theorem d_jdk_2799_method_7_1 : decode jdk_2799_method_7_code 1 = .ok (.getfield 44, 3) := by decide +kernel
theorem d_jdk_2799_method_7_4 : decode jdk_2799_method_7_code 4 = .ok (.dup2, 1) := by decide +kernel
theorem d_jdk_2799_method_7_5 : decode jdk_2799_method_7_code 5 = .ok (.lstore_n 3, 1) := by decide +kernel
theorem d_jdk_2799_method_7_6 : decode jdk_2799_method_7_code 6 = .ok (.lconst 1, 1) := by decide +kernel
theorem d_jdk_2799_method_7_7 : decode jdk_2799_method_7_code 7 = .ok (.lcmp, 1) := by decide +kernel
theorem d_jdk_2799_method_7_8 : decode jdk_2799_method_7_code 8 = .ok (.ifCond .ne 5, 3) := by decide +kernel
theorem d_jdk_2799_method_7_13 : decode jdk_2799_method_7_code 13 = .ok (.lload_n 1, 1) := by decide +kernel
theorem d_jdk_2799_method_7_14 : decode jdk_2799_method_7_code 14 = .ok (.aload_n 0, 1) := by decide +kernel
theorem d_jdk_2799_method_7_15 : decode jdk_2799_method_7_code 15 = .ok (.getfield 52, 3) := by decide +kernel
theorem d_jdk_2799_method_7_18 : decode jdk_2799_method_7_code 18 = .ok (.dup2, 1) := by decide +kernel
theorem d_jdk_2799_method_7_19 : decode jdk_2799_method_7_code 19 = .ok (.lstore 5, 2) := by decide +kernel
theorem d_jdk_2799_method_7_21 : decode jdk_2799_method_7_code 21 = .ok (.lcmp, 1) := by decide +kernel
theorem d_jdk_2799_method_7_22 : decode jdk_2799_method_7_code 22 = .ok (.ifCond .le 7, 3) := by decide +kernel
theorem d_jdk_2799_method_7_25 : decode jdk_2799_method_7_code 25 = .ok (.ldc2_w 50, 3) := by decide +kernel
theorem d_jdk_2799_method_7_28 : decode jdk_2799_method_7_code 28 = .ok (.lreturn, 1) := by decide +kernel
theorem d_jdk_2799_method_7_29 : decode jdk_2799_method_7_code 29 = .ok (.lload_n 1, 1) := by decide +kernel
theorem d_jdk_2799_method_7_30 : decode jdk_2799_method_7_code 30 = .ok (.lload 5, 2) := by decide +kernel
theorem d_jdk_2799_method_7_32 : decode jdk_2799_method_7_code 32 = .ok (.lneg, 1) := by decide +kernel
theorem d_jdk_2799_method_7_33 : decode jdk_2799_method_7_code 33 = .ok (.lcmp, 1) := by decide +kernel
theorem d_jdk_2799_method_7_34 : decode jdk_2799_method_7_code 34 = .ok (.ifCond .ge 7, 3) := by decide +kernel
theorem d_jdk_2799_method_7_37 : decode jdk_2799_method_7_code 37 = .ok (.ldc2_w 80, 3) := by decide +kernel
theorem d_jdk_2799_method_7_40 : decode jdk_2799_method_7_code 40 = .ok (.lreturn, 1) := by decide +kernel
theorem d_jdk_2799_method_7_41 : decode jdk_2799_method_7_code 41 = .ok (.lload_n 1, 1) := by decide +kernel
theorem d_jdk_2799_method_7_42 : decode jdk_2799_method_7_code 42 = .ok (.lload_n 3, 1) := by decide +kernel
theorem d_jdk_2799_method_7_43 : decode jdk_2799_method_7_code 43 = .ok (.lmul, 1) := by decide +kernel
theorem d_jdk_2799_method_7_44 : decode jdk_2799_method_7_code 44 = .ok (.lreturn, 1) := by decide +kernel
theorem ef_rm_Qtn (m : MethodId) (x0 : Addr) (x1 : Int64) : entryFrame m #[(.ref x0), (.long x1)] 7 = mkF m 0 #[.val (.ref x0), .val (.long x1), .second, .unset, .unset, .unset, .unset] [] := by first | (simp [entryFrame, mkF, argsToLocals, Value.category]; done) | rfl
theorem pn_java_util_concurrent_TimeUnit : plainName "java/util/concurrent/TimeUnit" = true := by first | (simp [plainName, overriddenIn]; done) | decide +kernel
set_option maxRecDepth 65536 in
set_option maxHeartbeats 40000000 in
theorem rm_Qtn (l : Launch) (Z : State) (a0 : Array Value) (hw : ∀ d ∈ tables_1, d.before a0 Z = true) (ws : List Jvm.Cond) (o : Addr) (x1 : Int64) (h0 : Heap) (n0 : Nat) (Z0 : n0 ≤ h0.size) (Fs : Fld Z h0 o "java/util/concurrent/TimeUnit" "scale" "J" (.long (1000000 : Int64))) (Fm : Fld Z h0 o "java/util/concurrent/TimeUnit" "maxNanos" "J" (.long (9223372036854 : Int64))) :
    MetFree l (⟨"java/util/concurrent/TimeUnit", "toNanos", "(J)J"⟩ : MethodName) (head1 (Jvm.Cond.code (⟨"java/util/concurrent/TimeUnit", "toNanos", "(J)J"⟩ : MethodName) jdk_2799_method_7_code 7 (some .long) :: ws) ({ frames := 0, cells := 0, slots := 0, locals := 0 } : Room)) (fun aa_ UU_ => aa_ = #[(.ref o), (.long x1)] ∧ Z.Warmed39 UU_.vm ∧ UU_.heap = h0) (fun _ _ _ _ _ => True) (fun _ UU_ oo_ VV_ => ∃ vv_ LL_, oo_ = .returned vv_ ∧ Qtn Z o x1 h0 n0 vv_ VV_.heap LL_ ∧ FrameEnd UU_ oo_ VV_ LL_ ({ frames := 0, cells := 0, slots := 0, locals := 0 } : Room).cells ({ frames := 0, cells := 0, slots := 0, locals := 0 } : Room).slots) := by
  refine MetFree.of_bodySF (plainFor_of_name pn_java_util_concurrent_TimeUnit) hisR ?_
  intro p e s m args below meth c s₁ Bd hml0 hP hK
  obtain ⟨rfl, hZ, hh⟩ := hP
  have hx := Bd.exec
  have hby := Bd.bytes
  have hml : c.maxLocals = 7 := hml0
  have hown : s.vm.findClass "java/util/concurrent/TimeUnit" = some m.cls := findClass_of_methodNamed Bd.named
  have hnm := (name_of_methodNamed Bd.named Bd.method).1
  have hlk : meth.locks = false := Bd.notSynchronized
  have X0 : Stand p l e ({ frames := 0, cells := 0, slots := 0, locals := 0 } : Room) s m #[(.ref o), (.long x1)] below meth c s₁ [] 0 0 := Stand.of_body Bd
  have e0 : s₁.heap = h0 := by rw [← hh, Bd.state]; rfl
  have N0 := Fr.nil n0
  have K0 := Keep.refl h0 []
  show own_G p e below s (Qtn Z o x1 h0 n0) _ _ (s₁.setTop (entryFrame m #[(.ref o), (.long x1)] 7))
  rw [ef_rm_Qtn m o x1]
  refine own_via (U' := s₁.setTop (mkF m 1 #[.val (.ref o), .val (.long x1), .second, .unset, .unset, .unset, .unset] [(.ref o)])) (fun t k => XS.aloadN X0.here hx rfl (hb hby d_jdk_2799_method_7_0) rfl rfl k) ?_
  obtain ⟨T1, X1, e1, st1⟩ := getF (host := "") X0 hx hZ hown (Or.inl (hw _ (List.mem_of_getElem? (i := 19) rfl))) Via.refl e0 Fs (g := (mkF m 1 #[.val (.ref o), .val (.long x1), .second, .unset, .unset, .unset, .unset] [(.ref o)])) rfl rfl (hb hby d_jdk_2799_method_7_1)
  refine own_via (U' := T1.setTop (mkF m 4 #[.val (.ref o), .val (.long x1), .second, .unset, .unset, .unset, .unset] [(.long (1000000 : Int64))])) (fun t k => st1 t k) ?_
  refine own_via (U' := T1.setTop (mkF m 5 #[.val (.ref o), .val (.long x1), .second, .unset, .unset, .unset, .unset] [(.long (1000000 : Int64)), (.long (1000000 : Int64))])) (fun t k => XT.dup2L X1.here hx rfl (hb hby d_jdk_2799_method_7_4) rfl k) ?_
  refine own_via (U' := T1.setTop (mkF m 6 #[.val (.ref o), .val (.long x1), .second, .val (.long (1000000 : Int64)), .second, .unset, .unset] [(.long (1000000 : Int64))])) (fun t k => XS.lstoreN X1.here hx rfl (hb hby d_jdk_2799_method_7_5) rfl (l' := #[.val (.ref o), .val (.long x1), .second, .val (.long (1000000 : Int64)), .second, .unset, .unset]) rfl k) ?_
  refine own_via (U' := T1.setTop (mkF m 7 #[.val (.ref o), .val (.long x1), .second, .val (.long (1000000 : Int64)), .second, .unset, .unset] [(.long (1 : Int64)), (.long (1000000 : Int64))])) (fun t k => XS.lconst X1.here hx rfl (hb hby d_jdk_2799_method_7_6) k) ?_
  refine own_via (U' := T1.setTop (mkF m 8 #[.val (.ref o), .val (.long x1), .second, .val (.long (1000000 : Int64)), .second, .unset, .unset] [(.int (lcmpW (1000000 : Int64) (1 : Int64)))])) (fun t k => XS.lcmp X1.here hx rfl (hb hby d_jdk_2799_method_7_7) rfl k) ?_
  refine own_via (U' := T1.setTop (mkF m 13 #[.val (.ref o), .val (.long x1), .second, .val (.long (1000000 : Int64)), .second, .unset, .unset] [])) (fun t k => XS.ifYes X1.here hx rfl (pc0 := 8) (pc' := 13) rfl (hb hby d_jdk_2799_method_7_8) rfl (own_jne (by decide : ¬ ((1000000 : Int64) = (1 : Int64)))).2 (by decide) (by decide) k) ?_
  refine own_via (U' := T1.setTop (mkF m 14 #[.val (.ref o), .val (.long x1), .second, .val (.long (1000000 : Int64)), .second, .unset, .unset] [(.long x1)])) (fun t k => XS.lloadN X1.here hx rfl (hb hby d_jdk_2799_method_7_13) rfl k) ?_
  refine own_via (U' := T1.setTop (mkF m 15 #[.val (.ref o), .val (.long x1), .second, .val (.long (1000000 : Int64)), .second, .unset, .unset] [(.ref o), (.long x1)])) (fun t k => XS.aloadN X1.here hx rfl (hb hby d_jdk_2799_method_7_14) rfl rfl k) ?_
  obtain ⟨T2, X2, e2, st2⟩ := getF (host := "") X1 hx hZ hown (Or.inl (hw _ (List.mem_of_getElem? (i := 21) rfl))) Via.refl e1 Fm (g := (mkF m 15 #[.val (.ref o), .val (.long x1), .second, .val (.long (1000000 : Int64)), .second, .unset, .unset] [(.ref o), (.long x1)])) rfl rfl (hb hby d_jdk_2799_method_7_15)
  refine own_via (U' := T2.setTop (mkF m 18 #[.val (.ref o), .val (.long x1), .second, .val (.long (1000000 : Int64)), .second, .unset, .unset] [(.long (9223372036854 : Int64)), (.long x1)])) (fun t k => st2 t k) ?_
  refine own_via (U' := T2.setTop (mkF m 19 #[.val (.ref o), .val (.long x1), .second, .val (.long (1000000 : Int64)), .second, .unset, .unset] [(.long (9223372036854 : Int64)), (.long (9223372036854 : Int64)), (.long x1)])) (fun t k => XT.dup2L X2.here hx rfl (hb hby d_jdk_2799_method_7_18) rfl k) ?_
  refine own_via (U' := T2.setTop (mkF m 21 #[.val (.ref o), .val (.long x1), .second, .val (.long (1000000 : Int64)), .second, .val (.long (9223372036854 : Int64)), .second] [(.long (9223372036854 : Int64)), (.long x1)])) (fun t k => XS.lstore X2.here hx rfl (hb hby d_jdk_2799_method_7_19) rfl (l' := #[.val (.ref o), .val (.long x1), .second, .val (.long (1000000 : Int64)), .second, .val (.long (9223372036854 : Int64)), .second]) rfl k) ?_
  refine own_via (U' := T2.setTop (mkF m 22 #[.val (.ref o), .val (.long x1), .second, .val (.long (1000000 : Int64)), .second, .val (.long (9223372036854 : Int64)), .second] [(.int (lcmpW x1 (9223372036854 : Int64)))])) (fun t k => XS.lcmp X2.here hx rfl (hb hby d_jdk_2799_method_7_21) rfl k) ?_
  by_cases hc3 : (9223372036854 : Int64) < x1
  case pos =>
    refine own_via (U' := T2.setTop (mkF m 25 #[.val (.ref o), .val (.long x1), .second, .val (.long (1000000 : Int64)), .second, .val (.long (9223372036854 : Int64)), .second] [])) (fun t k => XS.ifNo X2.here hx rfl (hb hby d_jdk_2799_method_7_22) rfl (own_jgt hc3).2 k) ?_
    refine own_via (U' := T2.setTop (mkF m 28 #[.val (.ref o), .val (.long x1), .second, .val (.long (1000000 : Int64)), .second, .val (.long (9223372036854 : Int64)), .second] [(.long (9223372036854775807 : Int64))])) (fun t k => X2.ldc2Long hx hown (mvT hZ (hw _ (List.mem_of_getElem? (i := 32) rfl))) (g := (mkF m 25 #[.val (.ref o), .val (.long x1), .second, .val (.long (1000000 : Int64)), .second, .val (.long (9223372036854 : Int64)), .second] [])) rfl (hb hby d_jdk_2799_method_7_25) _ k) ?_
    exact own_ret X2 (v := some (.long (9223372036854775807 : Int64))) (fun h => by rw [Bd.returns] at h; cases h) hlk (fun fs hr => retOut X2 hx (t := .long) Bd.returns rfl (Or.inr (Or.inl ⟨rfl, rfl, _, rfl⟩)) (hb hby d_jdk_2799_method_7_28) hr) (by rw [e2]; exact ⟨by first | rfl | (simp only [if_pos hc3]), N0, rfl⟩) (by decide) (by decide)
  case neg =>
    refine own_via (U' := T2.setTop (mkF m 29 #[.val (.ref o), .val (.long x1), .second, .val (.long (1000000 : Int64)), .second, .val (.long (9223372036854 : Int64)), .second] [])) (fun t k => XS.ifYes X2.here hx rfl (pc0 := 22) (pc' := 29) rfl (hb hby d_jdk_2799_method_7_22) rfl (own_jngt hc3).2 (by decide) (by decide) k) ?_
    refine own_via (U' := T2.setTop (mkF m 30 #[.val (.ref o), .val (.long x1), .second, .val (.long (1000000 : Int64)), .second, .val (.long (9223372036854 : Int64)), .second] [(.long x1)])) (fun t k => XS.lloadN X2.here hx rfl (hb hby d_jdk_2799_method_7_29) rfl k) ?_
    refine own_via (U' := T2.setTop (mkF m 32 #[.val (.ref o), .val (.long x1), .second, .val (.long (1000000 : Int64)), .second, .val (.long (9223372036854 : Int64)), .second] [(.long (9223372036854 : Int64)), (.long x1)])) (fun t k => XS.lload X2.here hx rfl (hb hby d_jdk_2799_method_7_30) rfl k) ?_
    refine own_via (U' := T2.setTop (mkF m 33 #[.val (.ref o), .val (.long x1), .second, .val (.long (1000000 : Int64)), .second, .val (.long (9223372036854 : Int64)), .second] [(.long (-(9223372036854 : Int64))), (.long x1)])) (fun t k => XS.lneg X2.here hx rfl (hb hby d_jdk_2799_method_7_32) rfl k) ?_
    refine own_via (U' := T2.setTop (mkF m 34 #[.val (.ref o), .val (.long x1), .second, .val (.long (1000000 : Int64)), .second, .val (.long (9223372036854 : Int64)), .second] [(.int (lcmpW x1 (-(9223372036854 : Int64))))])) (fun t k => XS.lcmp X2.here hx rfl (hb hby d_jdk_2799_method_7_33) rfl k) ?_
    by_cases hc4 : x1 < (-(9223372036854 : Int64))
    case pos =>
      refine own_via (U' := T2.setTop (mkF m 37 #[.val (.ref o), .val (.long x1), .second, .val (.long (1000000 : Int64)), .second, .val (.long (9223372036854 : Int64)), .second] [])) (fun t k => XS.ifNo X2.here hx rfl (hb hby d_jdk_2799_method_7_34) rfl (own_jlt hc4).2 k) ?_
      refine own_via (U' := T2.setTop (mkF m 40 #[.val (.ref o), .val (.long x1), .second, .val (.long (1000000 : Int64)), .second, .val (.long (9223372036854 : Int64)), .second] [(.long (-9223372036854775808 : Int64))])) (fun t k => X2.ldc2Long hx hown (mvT hZ (hw _ (List.mem_of_getElem? (i := 44) rfl))) (g := (mkF m 37 #[.val (.ref o), .val (.long x1), .second, .val (.long (1000000 : Int64)), .second, .val (.long (9223372036854 : Int64)), .second] [])) rfl (hb hby d_jdk_2799_method_7_37) _ k) ?_
      exact own_ret X2 (v := some (.long (-9223372036854775808 : Int64))) (fun h => by rw [Bd.returns] at h; cases h) hlk (fun fs hr => retOut X2 hx (t := .long) Bd.returns rfl (Or.inr (Or.inl ⟨rfl, rfl, _, rfl⟩)) (hb hby d_jdk_2799_method_7_40) hr) (by rw [e2]; exact ⟨by first | rfl | (simp only [if_neg hc3, if_pos hc4]), N0, rfl⟩) (by decide) (by decide)
    case neg =>
      refine own_via (U' := T2.setTop (mkF m 41 #[.val (.ref o), .val (.long x1), .second, .val (.long (1000000 : Int64)), .second, .val (.long (9223372036854 : Int64)), .second] [])) (fun t k => XS.ifYes X2.here hx rfl (pc0 := 34) (pc' := 41) rfl (hb hby d_jdk_2799_method_7_34) rfl (own_jnlt hc4).2 (by decide) (by decide) k) ?_
      refine own_via (U' := T2.setTop (mkF m 42 #[.val (.ref o), .val (.long x1), .second, .val (.long (1000000 : Int64)), .second, .val (.long (9223372036854 : Int64)), .second] [(.long x1)])) (fun t k => XS.lloadN X2.here hx rfl (hb hby d_jdk_2799_method_7_41) rfl k) ?_
      refine own_via (U' := T2.setTop (mkF m 43 #[.val (.ref o), .val (.long x1), .second, .val (.long (1000000 : Int64)), .second, .val (.long (9223372036854 : Int64)), .second] [(.long (1000000 : Int64)), (.long x1)])) (fun t k => XS.lloadN X2.here hx rfl (hb hby d_jdk_2799_method_7_42) rfl k) ?_
      refine own_via (U' := T2.setTop (mkF m 44 #[.val (.ref o), .val (.long x1), .second, .val (.long (1000000 : Int64)), .second, .val (.long (9223372036854 : Int64)), .second] [(.long (x1 * (1000000 : Int64)))])) (fun t k => XS.lmul X2.here hx rfl (hb hby d_jdk_2799_method_7_43) rfl k) ?_
      exact own_ret X2 (v := some (.long (x1 * (1000000 : Int64)))) (fun h => by rw [Bd.returns] at h; cases h) hlk (fun fs hr => retOut X2 hx (t := .long) Bd.returns rfl (Or.inr (Or.inl ⟨rfl, rfl, _, rfl⟩)) (hb hby d_jdk_2799_method_7_44) hr) (by rw [e2]; exact ⟨by first | rfl | (simp only [if_neg hc3, if_neg hc4]), N0, rfl⟩) (by decide) (by decide)
def Qrt (Z : State) (o : Addr) (x1 : Int64) (tu : Addr) (h0 : Heap) (n0 : Nat) (v : Option Value) (h : Heap) (L : List Loc) : Prop := ∃ (ar : Addr) (kk : ClassId), v = none ∧ Fr n0 L ∧ Keep h0 h [o] ∧ n0 ≤ ar ∧ h0.size ≤ ar ∧ Exa Z h o "com/example/assignor/assignor/client/RequestTimeouts" ∧ Fld Z h o "com/example/assignor/assignor/client/RequestTimeouts" "roundTrips" "[J" (.ref ar) ∧ Fld Z h o "com/example/assignor/assignor/client/RequestTimeouts" "leaseNanos" "J" (.long (if (9223372036854 : Int64) < x1 then (9223372036854775807 : Int64) else (if x1 < (-(9223372036854 : Int64)) then (-9223372036854775808 : Int64) else (x1 * (1000000 : Int64))))) ∧ Fld Z h o "com/example/assignor/assignor/client/RequestTimeouts" "answered" "Z" (.int (0 : Int32)) ∧ Fld Z h o "com/example/assignor/assignor/client/RequestTimeouts" "nextRoundTrip" "I" (.int (0 : Int32)) ∧ Fld Z h o "com/example/assignor/assignor/client/RequestTimeouts" "leaseEndNanos" "J" (.long (0 : Int64)) ∧ Arv Z h ar kk .long (10 : Int32) [(.long (0 : Int64)), (.long (0 : Int64)), (.long (0 : Int64)), (.long (0 : Int64)), (.long (0 : Int64)), (.long (0 : Int64)), (.long (0 : Int64)), (.long (0 : Int64)), (.long (0 : Int64)), (.long (0 : Int64))] (.long (0 : Int64))
theorem d_prog_9_method_1_0 : decode prog_9_method_1_code 0 = .ok (.aload_n 0, 1) := by decide +kernel
theorem d_prog_9_method_1_1 : decode prog_9_method_1_code 1 = .ok (.invokespecial 1, 3) := by decide +kernel
theorem d_prog_9_method_1_4 : decode prog_9_method_1_code 4 = .ok (.aload_n 0, 1) := by decide +kernel
theorem d_prog_9_method_1_5 : decode prog_9_method_1_code 5 = .ok (.bipush 10, 2) := by decide +kernel
theorem d_prog_9_method_1_7 : decode prog_9_method_1_code 7 = .ok (.newarray .long, 2) := by decide +kernel
theorem d_prog_9_method_1_9 : decode prog_9_method_1_code 9 = .ok (.putfield 9, 3) := by decide +kernel
theorem d_prog_9_method_1_12 : decode prog_9_method_1_code 12 = .ok (.aload_n 0, 1) := by decide +kernel
theorem d_prog_9_method_1_13 : decode prog_9_method_1_code 13 = .ok (.getstatic 13, 3) := by decide +kernel
theorem d_prog_9_method_1_16 : decode prog_9_method_1_code 16 = .ok (.lload_n 1, 1) := by decide +kernel
theorem pd_J__J : parseMethodDescriptor "(J)J" = some ⟨[.long], some .long⟩ := by decide +kernel
theorem d_prog_9_method_1_17 : decode prog_9_method_1_code 17 = .ok (.invokevirtual 19, 3) := by decide +kernel
theorem d_prog_9_method_1_20 : decode prog_9_method_1_code 20 = .ok (.putfield 23, 3) := by decide +kernel
theorem d_prog_9_method_1_23 : decode prog_9_method_1_code 23 = .ok (.return_, 1) := by decide +kernel
theorem ef_rm_Qrt (m : MethodId) (x0 : Addr) (x1 : Int64) : entryFrame m #[(.ref x0), (.long x1)] 3 = mkF m 0 #[.val (.ref x0), .val (.long x1), .second] [] := by first | (simp [entryFrame, mkF, argsToLocals, Value.category]; done) | rfl
theorem pn_com_example_assignor_assignor_client_RequestTimeouts : plainName "com/example/assignor/assignor/client/RequestTimeouts" = true := by first | (simp [plainName, overriddenIn]; done) | decide +kernel
set_option maxRecDepth 65536 in
set_option maxHeartbeats 40000000 in
theorem rm_Qrt (l : Launch) (Z : State) (a0 : Array Value) (hw : ∀ d ∈ tables_1, d.before a0 Z = true) (ws : List Jvm.Cond) (o : Addr) (x1 : Int64) (tu : Addr) (h0 : Heap) (n0 : Nat) (Z0 : n0 ≤ h0.size) (Eo : Exa Z h0 o "com/example/assignor/assignor/client/RequestTimeouts") (F_roundTrips : Fld Z h0 o "com/example/assignor/assignor/client/RequestTimeouts" "roundTrips" "[J" .null) (F_leaseNanos : Fld Z h0 o "com/example/assignor/assignor/client/RequestTimeouts" "leaseNanos" "J" (.long (0 : Int64))) (F_answered : Fld Z h0 o "com/example/assignor/assignor/client/RequestTimeouts" "answered" "Z" (.int (0 : Int32))) (F_nextRoundTrip : Fld Z h0 o "com/example/assignor/assignor/client/RequestTimeouts" "nextRoundTrip" "I" (.int (0 : Int32))) (F_leaseEndNanos : Fld Z h0 o "com/example/assignor/assignor/client/RequestTimeouts" "leaseEndNanos" "J" (.long (0 : Int64))) (gn_o : n0 ≤ o) (Sm : Sta Z h0 "java/util/concurrent/TimeUnit" "MILLISECONDS" "Ljava/util/concurrent/TimeUnit;" (.ref tu)) (Et : Exa Z h0 tu "java/util/concurrent/TimeUnit") (Fs : Fld Z h0 tu "java/util/concurrent/TimeUnit" "scale" "J" (.long (1000000 : Int64))) (Fm : Fld Z h0 tu "java/util/concurrent/TimeUnit" "maxNanos" "J" (.long (9223372036854 : Int64))) (ne_to : tu ≠ o) :
    MetFree l (⟨"com/example/assignor/assignor/client/RequestTimeouts", "<init>", "(J)V"⟩ : MethodName) (head1 (Jvm.Cond.code (⟨"com/example/assignor/assignor/client/RequestTimeouts", "<init>", "(J)V"⟩ : MethodName) prog_9_method_1_code 3 none :: ws) ({ frames := 1, cells := 1, slots := 10, locals := 19 } : Room)) (fun aa_ UU_ => aa_ = #[(.ref o), (.long x1)] ∧ Z.Warmed39 UU_.vm ∧ UU_.heap = h0) (fun _ _ _ _ _ => True) (fun _ UU_ oo_ VV_ => ∃ vv_ LL_, oo_ = .returned vv_ ∧ Qrt Z o x1 tu h0 n0 vv_ VV_.heap LL_ ∧ FrameEnd UU_ oo_ VV_ LL_ ({ frames := 1, cells := 1, slots := 10, locals := 19 } : Room).cells ({ frames := 1, cells := 1, slots := 10, locals := 19 } : Room).slots) := by
  refine MetFree.of_bodySF (plainFor_of_name pn_com_example_assignor_assignor_client_RequestTimeouts) hisR ?_
  intro p e s m args below meth c s₁ Bd hml0 hP hK
  obtain ⟨rfl, hZ, hh⟩ := hP
  have hx := Bd.exec
  have hby := Bd.bytes
  have hml : c.maxLocals = 3 := hml0
  have hown : s.vm.findClass "com/example/assignor/assignor/client/RequestTimeouts" = some m.cls := findClass_of_methodNamed Bd.named
  have hnm := (name_of_methodNamed Bd.named Bd.method).1
  have hlk : meth.locks = false := Bd.notSynchronized
  have X0 : Stand p l e ({ frames := 1, cells := 1, slots := 10, locals := 19 } : Room) s m #[(.ref o), (.long x1)] below meth c s₁ [] 0 0 := Stand.of_body Bd
  have e0 : s₁.heap = h0 := by rw [← hh, Bd.state]; rfl
  have N0 := Fr.nil n0
  have K0 := Keep.refl h0 [o]
  show own_G p e below s (Qrt Z o x1 tu h0 n0) _ _ (s₁.setTop (entryFrame m #[(.ref o), (.long x1)] 3))
  rw [ef_rm_Qrt m o x1]
  refine own_via (U' := s₁.setTop (mkF m 1 #[.val (.ref o), .val (.long x1), .second] [(.ref o)])) (fun t k => XS.aloadN X0.here hx rfl (hb hby d_prog_9_method_1_0) rfl rfl k) ?_
  obtain ⟨T1, X1, e1, st1⟩ := initO X0 hx hZ hown (hw _ (List.mem_of_getElem? (i := 6) rfl)) (hw _ (List.mem_of_getElem? (i := 7) rfl)) (hw _ (List.mem_of_getElem? (i := 8) rfl)) e0 (g := (mkF m 1 #[.val (.ref o), .val (.long x1), .second] [(.ref o)])) rfl (by rw [hml]; rfl) rfl (hb hby d_prog_9_method_1_1) (by decide) (W := 0) (by show 2 * 0 + _ ≤ _; exact Nat.le_of_eq rfl) (by decide)
  refine own_via (U' := T1.setTop (mkF m 4 #[.val (.ref o), .val (.long x1), .second] [])) (fun t k => st1 t k) ?_
  refine own_via (U' := T1.setTop (mkF m 5 #[.val (.ref o), .val (.long x1), .second] [(.ref o)])) (fun t k => XS.aloadN X1.here hx rfl (hb hby d_prog_9_method_1_4) rfl rfl k) ?_
  refine own_via (U' := T1.setTop (mkF m 7 #[.val (.ref o), .val (.long x1), .second] [(.int (10 : Int32)), (.ref o)])) (fun t k => XS.bipush X1.here hx rfl (hb hby d_prog_9_method_1_5) k) ?_
  obtain ⟨T2, h2, k2, X2, e2, E2, A2, st2⟩ := newP X1 hx hZ (hw _ (List.mem_of_getElem? (i := 9) rfl)) e1 (g := (mkF m 7 #[.val (.ref o), .val (.long x1), .second] [(.int (10 : Int32)), (.ref o)])) rfl (hb hby d_prog_9_method_1_7) rfl (by decide) (cap := 10) (by decide) (by decide) (by decide) (by decide)
  obtain ⟨b2, g2⟩ : ∃ z, z = h0.size := ⟨_, rfl⟩
  rw [← g2] at A2 st2
  have ne3 : o ≠ b2 := Nat.ne_of_lt (Nat.lt_of_lt_of_le Eo.lt (Nat.le_of_eq g2.symm))
  have ne4 : tu ≠ b2 := Nat.ne_of_lt (Nat.lt_of_lt_of_le Et.lt (Nat.le_of_eq g2.symm))
  have gn_b2 : n0 ≤ b2 := Nat.le_trans Z0 (Nat.le_of_eq g2.symm)
  have sz_b2 : h0.size ≤ b2 := Nat.le_trans K0.1 (Nat.le_of_eq g2.symm)
  have f5 := Eo.ext E2
  have f6 := F_roundTrips.ext E2
  have f7 := F_leaseNanos.ext E2
  have f8 := F_answered.ext E2
  have f9 := F_nextRoundTrip.ext E2
  have f10 := F_leaseEndNanos.ext E2
  have f11 := Sm.ext E2
  have f12 := Et.ext E2
  have f13 := Fs.ext E2
  have f14 := Fm.ext E2
  have V2 : Arv Z h2 b2 k2 .long (10 : Int32) [(.long (0 : Int64)), (.long (0 : Int64)), (.long (0 : Int64)), (.long (0 : Int64)), (.long (0 : Int64)), (.long (0 : Int64)), (.long (0 : Int64)), (.long (0 : Int64)), (.long (0 : Int64)), (.long (0 : Int64))] (.long (0 : Int64)) := (Arv.new A2 (by decide)).pad (pad_rep [] (.long (0 : Int64)) 10)
  have Z15 : n0 ≤ h2.size := Nat.le_trans Z0 E2.1
  have K15 := K0.ext E2
  refine own_via (U' := T2.setTop (mkF m 9 #[.val (.ref o), .val (.long x1), .second] [(.ref b2), (.ref o)])) (fun t k => st2 t k) ?_
  obtain ⟨T16, h16, X16, e16, W16, st16⟩ := putF (host := "") X2 hx hZ hown (Or.inl (hw _ (List.mem_of_getElem? (i := 10) rfl))) Via.refl e2 f6 f5 (Or.inr ⟨(hw _ (List.mem_of_getElem? (i := 11) rfl)), rfl, hnm⟩) (hw _ (List.mem_of_getElem? (i := 1) rfl)) (ty := (.array .long)) (by decide) rfl rfl (g := (mkF m 9 #[.val (.ref o), .val (.long x1), .second] [(.ref b2), (.ref o)])) rfl rfl (hb hby d_prog_9_method_1_9)
  have f16w := f6.same W16
  have f17 := f5.wr W16
  have f18 := f7.other W16 (Or.inr (slot_ne (Or.inl (hw _ (List.mem_of_getElem? (i := 24) rfl))) (Or.inr (hw _ (List.mem_of_getElem? (i := 11) rfl))) (by decide) (t := .long) (t' := (.array .long)) (by decide) (by decide)))
  have f19 := f8.other W16 (Or.inr (slot_ne (Or.inl (hw _ (List.mem_of_getElem? (i := 31) rfl))) (Or.inr (hw _ (List.mem_of_getElem? (i := 11) rfl))) (by decide) (t := .boolean) (t' := (.array .long)) (by decide) (by decide)))
  have f20 := f9.other W16 (Or.inr (slot_ne (Or.inl (hw _ (List.mem_of_getElem? (i := 40) rfl))) (Or.inr (hw _ (List.mem_of_getElem? (i := 11) rfl))) (by decide) (t := .int) (t' := (.array .long)) (by decide) (by decide)))
  have f21 := f10.other W16 (Or.inr (slot_ne (Or.inl (hw _ (List.mem_of_getElem? (i := 42) rfl))) (Or.inr (hw _ (List.mem_of_getElem? (i := 11) rfl))) (by decide) (t := .long) (t' := (.array .long)) (by decide) (by decide)))
  have f22 := f11.wr W16
  have f23 := f12.wr W16
  have f24 := f13.other W16 (Or.inl ne_to)
  have f25 := f14.other W16 (Or.inl ne_to)
  have f26 := V2.other W16 (Ne.symm ne3)
  have Z27 : n0 ≤ h16.size := Nat.le_trans Z15 (Keep.of_wr W16).1
  have K27 := K15.wr W16 (Or.inl (List.mem_of_getElem? (i := 0) rfl))
  have N16 := Fr.snoc X16 N0 gn_o
  refine own_via (U' := T16.setTop (mkF m 12 #[.val (.ref o), .val (.long x1), .second] [])) (fun t k => st16 t k) ?_
  refine own_via (U' := T16.setTop (mkF m 13 #[.val (.ref o), .val (.long x1), .second] [(.ref o)])) (fun t k => XS.aloadN X16.here hx rfl (hb hby d_prog_9_method_1_12) rfl rfl k) ?_
  obtain ⟨T28, X28, e28, st28⟩ := getS2 (host := "") X16 hx hZ hown (Or.inl (hw _ (List.mem_of_getElem? (i := 12) rfl))) Via.refl e16 f22 (g := (mkF m 13 #[.val (.ref o), .val (.long x1), .second] [(.ref o)])) rfl (hb hby d_prog_9_method_1_13)
  refine own_via (U' := T28.setTop (mkF m 16 #[.val (.ref o), .val (.long x1), .second] [(.ref tu), (.ref o)])) (fun t k => st28 t k) ?_
  refine own_via (U' := T28.setTop (mkF m 17 #[.val (.ref o), .val (.long x1), .second] [(.long x1), (.ref tu), (.ref o)])) (fun t k => XS.lloadN X28.here hx rfl (hb hby d_prog_9_method_1_16) rfl k) ?_
  obtain ⟨_, T29, L29, X29, hQ29, st29⟩ := own_callV X28 hx hZ (y := (⟨"java/util/concurrent/TimeUnit", "toNanos", "(J)J"⟩ : MethodName)) (W := 1) (C := "java/util/concurrent/TimeUnit") hown (hw _ (List.mem_of_getElem? (i := 14) rfl)) (hw _ (List.mem_of_getElem? (i := 15) rfl)) (hw _ (List.mem_of_getElem? (i := 17) rfl)) (hw _ (List.mem_of_getElem? (i := 16) rfl)) (hw _ (List.mem_of_getElem? (i := 13) rfl)) (hw _ (List.mem_of_getElem? (i := 18) rfl)) (by decide) (rm_Qtn l Z a0 hw [] tu x1 h16 n0 Z27 f24 f25) (by decide) (by decide) e28 f23 (g := (mkF m 17 #[.val (.ref o), .val (.long x1), .second] [(.long x1), (.ref tu), (.ref o)])) rfl (by rw [hml]; rfl) (argsL := [(.long x1)]) (rest := [(.ref o)]) rfl (lenOf pd_J__J rfl) rfl (by show 2 * 0 + _ ≤ _; exact Nat.le_of_eq rfl) (hb hby d_prog_9_method_1_17) (by decide) (by decide)
  obtain ⟨rfl, N29q, e29⟩ := hQ29
  have N29 := Fr.app N16 N29q
  refine own_via (U' := T29.setTop (mkF m 20 #[.val (.ref o), .val (.long x1), .second] [(.long (if (9223372036854 : Int64) < x1 then (9223372036854775807 : Int64) else (if x1 < (-(9223372036854 : Int64)) then (-9223372036854775808 : Int64) else (x1 * (1000000 : Int64))))), (.ref o)])) (fun t k => st29 t k) ?_
  obtain ⟨T30, h30, X30, e30, W30, st30⟩ := putF (host := "") X29 hx hZ hown (Or.inl (hw _ (List.mem_of_getElem? (i := 23) rfl))) Via.refl e29 f18 f17 (Or.inl (hw _ (List.mem_of_getElem? (i := 24) rfl))) (hw _ (List.mem_of_getElem? (i := 1) rfl)) (ty := .long) (by decide) rfl rfl (g := (mkF m 20 #[.val (.ref o), .val (.long x1), .second] [(.long (if (9223372036854 : Int64) < x1 then (9223372036854775807 : Int64) else (if x1 < (-(9223372036854 : Int64)) then (-9223372036854775808 : Int64) else (x1 * (1000000 : Int64))))), (.ref o)])) rfl rfl (hb hby d_prog_9_method_1_20)
  have f30w := f18.same W30
  have f31 := f17.wr W30
  have f32 := f19.other W30 (Or.inr (slot_ne (Or.inl (hw _ (List.mem_of_getElem? (i := 31) rfl))) (Or.inl (hw _ (List.mem_of_getElem? (i := 24) rfl))) (by decide) (t := .boolean) (t' := .long) (by decide) (by decide)))
  have f33 := f20.other W30 (Or.inr (slot_ne (Or.inl (hw _ (List.mem_of_getElem? (i := 40) rfl))) (Or.inl (hw _ (List.mem_of_getElem? (i := 24) rfl))) (by decide) (t := .int) (t' := .long) (by decide) (by decide)))
  have f34 := f21.other W30 (Or.inr (slot_ne (Or.inl (hw _ (List.mem_of_getElem? (i := 42) rfl))) (Or.inl (hw _ (List.mem_of_getElem? (i := 24) rfl))) (by decide) (t := .long) (t' := .long) (by decide) (by decide)))
  have f35 := f22.wr W30
  have f36 := f23.wr W30
  have f37 := f24.other W30 (Or.inl ne_to)
  have f38 := f25.other W30 (Or.inl ne_to)
  have f39 := f26.other W30 (Ne.symm ne3)
  have f40 := f16w.other W30 (Or.inr (slot_ne (Or.inr (hw _ (List.mem_of_getElem? (i := 11) rfl))) (Or.inl (hw _ (List.mem_of_getElem? (i := 24) rfl))) (by decide) (t := (.array .long)) (t' := .long) (by decide) (by decide)))
  have Z41 : n0 ≤ h30.size := Nat.le_trans Z27 (Keep.of_wr W30).1
  have K41 := K27.wr W30 (Or.inl (List.mem_of_getElem? (i := 0) rfl))
  have N30 := Fr.snoc X30 N29 gn_o
  refine own_via (U' := T30.setTop (mkF m 23 #[.val (.ref o), .val (.long x1), .second] [])) (fun t k => st30 t k) ?_
  exact own_ret X30 (v := none) (fun _ => rfl) hlk (fun fs hr => X30.returnOut hx Bd.returns (hb hby d_prog_9_method_1_23) hr) (by rw [e30]; exact ⟨b2, k2, rfl, N30, K41, gn_b2, sz_b2, f31, f40, f30w, f32, f33, f34, f39⟩) (by decide) (by decide)
def Qan0 (Z : State) (o ar : Addr) (kk : ClassId) (u0 u1 u2 u3 u4 u5 u6 u7 u8 u9 : Int64) (len_ end_ : Int64) (an_ : Int32) (x1 x2 x3 : Int64) (tu : Addr) (h0 : Heap) (n0 : Nat) (v : Option Value) (h : Heap) (L : List Loc) : Prop := v = none ∧ Fr n0 L ∧ Keep h0 h [o, ar] ∧ Exa Z h o "com/example/assignor/assignor/client/RequestTimeouts" ∧ Fld Z h o "com/example/assignor/assignor/client/RequestTimeouts" "roundTrips" "[J" (.ref ar) ∧ Fld Z h o "com/example/assignor/assignor/client/RequestTimeouts" "leaseNanos" "J" (.long (if (9223372036854 : Int64) < x3 then (9223372036854775807 : Int64) else (if x3 < (-(9223372036854 : Int64)) then (-9223372036854775808 : Int64) else (x3 * (1000000 : Int64))))) ∧ Fld Z h o "com/example/assignor/assignor/client/RequestTimeouts" "answered" "Z" (.int (1 : Int32)) ∧ Fld Z h o "com/example/assignor/assignor/client/RequestTimeouts" "nextRoundTrip" "I" (.int (1 : Int32)) ∧ Fld Z h o "com/example/assignor/assignor/client/RequestTimeouts" "leaseEndNanos" "J" (.long (x1 + (if (9223372036854 : Int64) < x3 then (9223372036854775807 : Int64) else (if x3 < (-(9223372036854 : Int64)) then (-9223372036854775808 : Int64) else (x3 * (1000000 : Int64)))))) ∧ Arv Z h ar kk .long (10 : Int32) [(.long (x2 - x1)), (.long u1), (.long u2), (.long u3), (.long u4), (.long u5), (.long u6), (.long u7), (.long u8), (.long u9)] (.long (0 : Int64))
theorem d_prog_9_method_5_0 : decode prog_9_method_5_code 0 = .ok (.aload_n 0, 1) := by decide +kernel
theorem d_prog_9_method_5_1 : decode prog_9_method_5_code 1 = .ok (.getfield 9, 3) := by decide +kernel
theorem d_prog_9_method_5_4 : decode prog_9_method_5_code 4 = .ok (.aload_n 0, 1) := by decide +kernel
theorem d_prog_9_method_5_5 : decode prog_9_method_5_code 5 = .ok (.getfield 55, 3) := by decide +kernel
theorem d_prog_9_method_5_8 : decode prog_9_method_5_code 8 = .ok (.lload_n 3, 1) := by decide +kernel
theorem d_prog_9_method_5_9 : decode prog_9_method_5_code 9 = .ok (.lload_n 1, 1) := by decide +kernel
theorem d_prog_9_method_5_10 : decode prog_9_method_5_code 10 = .ok (.lsub, 1) := by decide +kernel
theorem d_prog_9_method_5_11 : decode prog_9_method_5_code 11 = .ok (.lastore, 1) := by decide +kernel
theorem d_prog_9_method_5_12 : decode prog_9_method_5_code 12 = .ok (.aload_n 0, 1) := by decide +kernel
theorem d_prog_9_method_5_13 : decode prog_9_method_5_code 13 = .ok (.aload_n 0, 1) := by decide +kernel
theorem d_prog_9_method_5_14 : decode prog_9_method_5_code 14 = .ok (.getfield 55, 3) := by decide +kernel
theorem d_prog_9_method_5_17 : decode prog_9_method_5_code 17 = .ok (.iconst 1, 1) := by decide +kernel
theorem d_prog_9_method_5_18 : decode prog_9_method_5_code 18 = .ok (.iadd, 1) := by decide +kernel
theorem d_prog_9_method_5_19 : decode prog_9_method_5_code 19 = .ok (.bipush 10, 2) := by decide +kernel
theorem d_prog_9_method_5_21 : decode prog_9_method_5_code 21 = .ok (.irem, 1) := by decide +kernel
theorem d_prog_9_method_5_22 : decode prog_9_method_5_code 22 = .ok (.putfield 55, 3) := by decide +kernel
theorem d_prog_9_method_5_25 : decode prog_9_method_5_code 25 = .ok (.aload_n 0, 1) := by decide +kernel
theorem d_prog_9_method_5_26 : decode prog_9_method_5_code 26 = .ok (.iconst 1, 1) := by decide +kernel
theorem d_prog_9_method_5_27 : decode prog_9_method_5_code 27 = .ok (.putfield 31, 3) := by decide +kernel
theorem d_prog_9_method_5_30 : decode prog_9_method_5_code 30 = .ok (.aload_n 0, 1) := by decide +kernel
theorem d_prog_9_method_5_31 : decode prog_9_method_5_code 31 = .ok (.getstatic 13, 3) := by decide +kernel
theorem d_prog_9_method_5_34 : decode prog_9_method_5_code 34 = .ok (.lload 5, 2) := by decide +kernel
theorem d_prog_9_method_5_36 : decode prog_9_method_5_code 36 = .ok (.invokevirtual 19, 3) := by decide +kernel
theorem d_prog_9_method_5_39 : decode prog_9_method_5_code 39 = .ok (.putfield 23, 3) := by decide +kernel
theorem d_prog_9_method_5_42 : decode prog_9_method_5_code 42 = .ok (.aload_n 0, 1) := by decide +kernel
theorem d_prog_9_method_5_43 : decode prog_9_method_5_code 43 = .ok (.lload_n 1, 1) := by decide +kernel
theorem d_prog_9_method_5_44 : decode prog_9_method_5_code 44 = .ok (.aload_n 0, 1) := by decide +kernel
theorem d_prog_9_method_5_45 : decode prog_9_method_5_code 45 = .ok (.getfield 23, 3) := by decide +kernel
theorem d_prog_9_method_5_48 : decode prog_9_method_5_code 48 = .ok (.ladd, 1) := by decide +kernel
theorem d_prog_9_method_5_49 : decode prog_9_method_5_code 49 = .ok (.putfield 34, 3) := by decide +kernel
theorem d_prog_9_method_5_52 : decode prog_9_method_5_code 52 = .ok (.return_, 1) := by decide +kernel
theorem ef_rm_Qan0 (m : MethodId) (x0 : Addr) (x1 : Int64) (x2 : Int64) (x3 : Int64) : entryFrame m #[(.ref x0), (.long x1), (.long x2), (.long x3)] 7 = mkF m 0 #[.val (.ref x0), .val (.long x1), .second, .val (.long x2), .second, .val (.long x3), .second] [] := by first | (simp [entryFrame, mkF, argsToLocals, Value.category]; done) | rfl
set_option maxRecDepth 65536 in
set_option maxHeartbeats 40000000 in
theorem rm_Qan0 (l : Launch) (Z : State) (a0 : Array Value) (hw : ∀ d ∈ tables_1, d.before a0 Z = true) (ws : List Jvm.Cond) (o ar : Addr) (kk : ClassId) (u0 u1 u2 u3 u4 u5 u6 u7 u8 u9 : Int64) (len_ end_ : Int64) (an_ : Int32) (x1 x2 x3 : Int64) (tu : Addr) (h0 : Heap) (n0 : Nat) (Z0 : n0 ≤ h0.size) (Eo : Exa Z h0 o "com/example/assignor/assignor/client/RequestTimeouts") (F_roundTrips : Fld Z h0 o "com/example/assignor/assignor/client/RequestTimeouts" "roundTrips" "[J" (.ref ar)) (F_leaseNanos : Fld Z h0 o "com/example/assignor/assignor/client/RequestTimeouts" "leaseNanos" "J" (.long len_)) (F_answered : Fld Z h0 o "com/example/assignor/assignor/client/RequestTimeouts" "answered" "Z" (.int an_)) (F_nextRoundTrip : Fld Z h0 o "com/example/assignor/assignor/client/RequestTimeouts" "nextRoundTrip" "I" (.int (0 : Int32))) (F_leaseEndNanos : Fld Z h0 o "com/example/assignor/assignor/client/RequestTimeouts" "leaseEndNanos" "J" (.long end_)) (gn_o : n0 ≤ o) (gn_ar : n0 ≤ ar) (Va : Arv Z h0 ar kk .long (10 : Int32) [(.long u0), (.long u1), (.long u2), (.long u3), (.long u4), (.long u5), (.long u6), (.long u7), (.long u8), (.long u9)] (.long (0 : Int64))) (Sm : Sta Z h0 "java/util/concurrent/TimeUnit" "MILLISECONDS" "Ljava/util/concurrent/TimeUnit;" (.ref tu)) (Et : Exa Z h0 tu "java/util/concurrent/TimeUnit") (Fs : Fld Z h0 tu "java/util/concurrent/TimeUnit" "scale" "J" (.long (1000000 : Int64))) (Fm : Fld Z h0 tu "java/util/concurrent/TimeUnit" "maxNanos" "J" (.long (9223372036854 : Int64))) (ne_to : tu ≠ o) (ne_ta : tu ≠ ar) (ne_oa : o ≠ ar) :
    MetFree l (⟨"com/example/assignor/assignor/client/RequestTimeouts", "answered", "(JJJ)V"⟩ : MethodName) (head1 (Jvm.Cond.code (⟨"com/example/assignor/assignor/client/RequestTimeouts", "answered", "(JJJ)V"⟩ : MethodName) prog_9_method_5_code 7 none :: ws) ({ frames := 1, cells := 0, slots := 0, locals := 19 } : Room)) (fun aa_ UU_ => aa_ = #[(.ref o), (.long x1), (.long x2), (.long x3)] ∧ Z.Warmed39 UU_.vm ∧ UU_.heap = h0) (fun _ _ _ _ _ => True) (fun _ UU_ oo_ VV_ => ∃ vv_ LL_, oo_ = .returned vv_ ∧ Qan0 Z o ar kk u0 u1 u2 u3 u4 u5 u6 u7 u8 u9 len_ end_ an_ x1 x2 x3 tu h0 n0 vv_ VV_.heap LL_ ∧ FrameEnd UU_ oo_ VV_ LL_ ({ frames := 1, cells := 0, slots := 0, locals := 19 } : Room).cells ({ frames := 1, cells := 0, slots := 0, locals := 19 } : Room).slots) := by
  refine MetFree.of_bodySF (plainFor_of_name pn_com_example_assignor_assignor_client_RequestTimeouts) hisR ?_
  intro p e s m args below meth c s₁ Bd hml0 hP hK
  obtain ⟨rfl, hZ, hh⟩ := hP
  have hx := Bd.exec
  have hby := Bd.bytes
  have hml : c.maxLocals = 7 := hml0
  have hown : s.vm.findClass "com/example/assignor/assignor/client/RequestTimeouts" = some m.cls := findClass_of_methodNamed Bd.named
  have hnm := (name_of_methodNamed Bd.named Bd.method).1
  have hlk : meth.locks = false := Bd.notSynchronized
  have X0 : Stand p l e ({ frames := 1, cells := 0, slots := 0, locals := 19 } : Room) s m #[(.ref o), (.long x1), (.long x2), (.long x3)] below meth c s₁ [] 0 0 := Stand.of_body Bd
  have e0 : s₁.heap = h0 := by rw [← hh, Bd.state]; rfl
  have N0 := Fr.nil n0
  have K0 := Keep.refl h0 [o, ar]
  show own_G p e below s (Qan0 Z o ar kk u0 u1 u2 u3 u4 u5 u6 u7 u8 u9 len_ end_ an_ x1 x2 x3 tu h0 n0) _ _ (s₁.setTop (entryFrame m #[(.ref o), (.long x1), (.long x2), (.long x3)] 7))
  rw [ef_rm_Qan0 m o x1 x2 x3]
  refine own_via (U' := s₁.setTop (mkF m 1 #[.val (.ref o), .val (.long x1), .second, .val (.long x2), .second, .val (.long x3), .second] [(.ref o)])) (fun t k => XS.aloadN X0.here hx rfl (hb hby d_prog_9_method_5_0) rfl rfl k) ?_
  obtain ⟨T1, X1, e1, st1⟩ := getF (host := "") X0 hx hZ hown (Or.inl (hw _ (List.mem_of_getElem? (i := 10) rfl))) Via.refl e0 F_roundTrips (g := (mkF m 1 #[.val (.ref o), .val (.long x1), .second, .val (.long x2), .second, .val (.long x3), .second] [(.ref o)])) rfl rfl (hb hby d_prog_9_method_5_1)
  refine own_via (U' := T1.setTop (mkF m 4 #[.val (.ref o), .val (.long x1), .second, .val (.long x2), .second, .val (.long x3), .second] [(.ref ar)])) (fun t k => st1 t k) ?_
  refine own_via (U' := T1.setTop (mkF m 5 #[.val (.ref o), .val (.long x1), .second, .val (.long x2), .second, .val (.long x3), .second] [(.ref o), (.ref ar)])) (fun t k => XS.aloadN X1.here hx rfl (hb hby d_prog_9_method_5_4) rfl rfl k) ?_
  obtain ⟨T2, X2, e2, st2⟩ := getF (host := "") X1 hx hZ hown (Or.inl (hw _ (List.mem_of_getElem? (i := 39) rfl))) Via.refl e1 F_nextRoundTrip (g := (mkF m 5 #[.val (.ref o), .val (.long x1), .second, .val (.long x2), .second, .val (.long x3), .second] [(.ref o), (.ref ar)])) rfl rfl (hb hby d_prog_9_method_5_5)
  refine own_via (U' := T2.setTop (mkF m 8 #[.val (.ref o), .val (.long x1), .second, .val (.long x2), .second, .val (.long x3), .second] [(.int (0 : Int32)), (.ref ar)])) (fun t k => st2 t k) ?_
  refine own_via (U' := T2.setTop (mkF m 9 #[.val (.ref o), .val (.long x1), .second, .val (.long x2), .second, .val (.long x3), .second] [(.long x2), (.int (0 : Int32)), (.ref ar)])) (fun t k => XS.lloadN X2.here hx rfl (hb hby d_prog_9_method_5_8) rfl k) ?_
  refine own_via (U' := T2.setTop (mkF m 10 #[.val (.ref o), .val (.long x1), .second, .val (.long x2), .second, .val (.long x3), .second] [(.long x1), (.long x2), (.int (0 : Int32)), (.ref ar)])) (fun t k => XS.lloadN X2.here hx rfl (hb hby d_prog_9_method_5_9) rfl k) ?_
  refine own_via (U' := T2.setTop (mkF m 11 #[.val (.ref o), .val (.long x1), .second, .val (.long x2), .second, .val (.long x3), .second] [(.long (x2 - x1)), (.int (0 : Int32)), (.ref ar)])) (fun t k => XS.lsub X2.here hx rfl (hb hby d_prog_9_method_5_10) rfl k) ?_
  obtain ⟨c3, Ar3, q3a, q3b, q3c, q3d, q3e⟩ := id Va
  obtain ⟨T3, h3, X3, e3, W3, st3⟩ := stJ X2 hx hZ e2 Ar3 (inb_of q3b (by decide)) (g := (mkF m 11 #[.val (.ref o), .val (.long x1), .second, .val (.long x2), .second, .val (.long x3), .second] [(.long (x2 - x1)), (.int (0 : Int32)), (.ref ar)])) rfl rfl (hb hby d_prog_9_method_5_11)
  have V3 : Arv Z h3 ar kk .long (10 : Int32) [(.long (x2 - x1)), (.long u1), (.long u2), (.long u3), (.long u4), (.long u5), (.long u6), (.long u7), (.long u8), (.long u9)] (.long (0 : Int64)) := Arv.set Ar3 q3a q3b q3c q3d q3e rfl W3 0 rfl (Nat.le_of_ble_eq_true rfl)
  have f4 := Eo.wr W3
  have f5 := F_roundTrips.other W3 (Or.inl ne_oa)
  have f6 := F_leaseNanos.other W3 (Or.inl ne_oa)
  have f7 := F_answered.other W3 (Or.inl ne_oa)
  have f8 := F_nextRoundTrip.other W3 (Or.inl ne_oa)
  have f9 := F_leaseEndNanos.other W3 (Or.inl ne_oa)
  have f10 := Sm.wr W3
  have f11 := Et.wr W3
  have f12 := Fs.other W3 (Or.inl ne_ta)
  have f13 := Fm.other W3 (Or.inl ne_ta)
  have Z14 : n0 ≤ h3.size := Nat.le_trans Z0 (Keep.of_wr W3).1
  have K14 := K0.wr W3 (Or.inl (List.mem_of_getElem? (i := 1) rfl))
  have N3 := Fr.snoc X3 N0 gn_ar
  refine own_via (U' := T3.setTop (mkF m 12 #[.val (.ref o), .val (.long x1), .second, .val (.long x2), .second, .val (.long x3), .second] [])) (fun t k => st3 t k) ?_
  refine own_via (U' := T3.setTop (mkF m 13 #[.val (.ref o), .val (.long x1), .second, .val (.long x2), .second, .val (.long x3), .second] [(.ref o)])) (fun t k => XS.aloadN X3.here hx rfl (hb hby d_prog_9_method_5_12) rfl rfl k) ?_
  refine own_via (U' := T3.setTop (mkF m 14 #[.val (.ref o), .val (.long x1), .second, .val (.long x2), .second, .val (.long x3), .second] [(.ref o), (.ref o)])) (fun t k => XS.aloadN X3.here hx rfl (hb hby d_prog_9_method_5_13) rfl rfl k) ?_
  obtain ⟨T15, X15, e15, st15⟩ := getF (host := "") X3 hx hZ hown (Or.inl (hw _ (List.mem_of_getElem? (i := 39) rfl))) Via.refl e3 f8 (g := (mkF m 14 #[.val (.ref o), .val (.long x1), .second, .val (.long x2), .second, .val (.long x3), .second] [(.ref o), (.ref o)])) rfl rfl (hb hby d_prog_9_method_5_14)
  refine own_via (U' := T15.setTop (mkF m 17 #[.val (.ref o), .val (.long x1), .second, .val (.long x2), .second, .val (.long x3), .second] [(.int (0 : Int32)), (.ref o)])) (fun t k => st15 t k) ?_
  refine own_via (U' := T15.setTop (mkF m 18 #[.val (.ref o), .val (.long x1), .second, .val (.long x2), .second, .val (.long x3), .second] [(.int (1 : Int32)), (.int (0 : Int32)), (.ref o)])) (fun t k => XS.iconst X15.here hx rfl (hb hby d_prog_9_method_5_17) k) ?_
  refine own_via (U' := T15.setTop (mkF m 19 #[.val (.ref o), .val (.long x1), .second, .val (.long x2), .second, .val (.long x3), .second] [(.int ((0 : Int32) + (1 : Int32))), (.ref o)])) (fun t k => XS.iadd X15.here hx rfl (hb hby d_prog_9_method_5_18) rfl k) ?_
  rw [show ((0 : Int32) + (1 : Int32)) = (1 : Int32) from by decide]
  refine own_via (U' := T15.setTop (mkF m 21 #[.val (.ref o), .val (.long x1), .second, .val (.long x2), .second, .val (.long x3), .second] [(.int (10 : Int32)), (.int (1 : Int32)), (.ref o)])) (fun t k => XS.bipush X15.here hx rfl (hb hby d_prog_9_method_5_19) k) ?_
  refine own_via (U' := T15.setTop (mkF m 22 #[.val (.ref o), .val (.long x1), .second, .val (.long x2), .second, .val (.long x3), .second] [(.int ((1 : Int32) % (10 : Int32))), (.ref o)])) (fun t k => iremM X15 hx rfl (hb hby d_prog_9_method_5_21) rfl (by decide) k) ?_
  rw [show ((1 : Int32) % (10 : Int32)) = (1 : Int32) from by decide]
  obtain ⟨T16, h16, X16, e16, W16, st16⟩ := putF (host := "") X15 hx hZ hown (Or.inl (hw _ (List.mem_of_getElem? (i := 39) rfl))) Via.refl e15 f8 f4 (Or.inl (hw _ (List.mem_of_getElem? (i := 40) rfl))) (hw _ (List.mem_of_getElem? (i := 1) rfl)) (ty := .int) (by decide) rfl rfl (g := (mkF m 22 #[.val (.ref o), .val (.long x1), .second, .val (.long x2), .second, .val (.long x3), .second] [(.int (1 : Int32)), (.ref o)])) rfl rfl (hb hby d_prog_9_method_5_22)
  have f16w := f8.same W16
  have f17 := f4.wr W16
  have f18 := f5.other W16 (Or.inr (slot_ne (Or.inr (hw _ (List.mem_of_getElem? (i := 11) rfl))) (Or.inl (hw _ (List.mem_of_getElem? (i := 40) rfl))) (by decide) (t := (.array .long)) (t' := .int) (by decide) (by decide)))
  have f19 := f6.other W16 (Or.inr (slot_ne (Or.inl (hw _ (List.mem_of_getElem? (i := 24) rfl))) (Or.inl (hw _ (List.mem_of_getElem? (i := 40) rfl))) (by decide) (t := .long) (t' := .int) (by decide) (by decide)))
  have f20 := f7.other W16 (Or.inr (slot_ne (Or.inl (hw _ (List.mem_of_getElem? (i := 31) rfl))) (Or.inl (hw _ (List.mem_of_getElem? (i := 40) rfl))) (by decide) (t := .boolean) (t' := .int) (by decide) (by decide)))
  have f21 := f9.other W16 (Or.inr (slot_ne (Or.inl (hw _ (List.mem_of_getElem? (i := 42) rfl))) (Or.inl (hw _ (List.mem_of_getElem? (i := 40) rfl))) (by decide) (t := .long) (t' := .int) (by decide) (by decide)))
  have f22 := f10.wr W16
  have f23 := f11.wr W16
  have f24 := f12.other W16 (Or.inl ne_to)
  have f25 := f13.other W16 (Or.inl ne_to)
  have f26 := V3.other W16 (Ne.symm ne_oa)
  have Z27 : n0 ≤ h16.size := Nat.le_trans Z14 (Keep.of_wr W16).1
  have K27 := K14.wr W16 (Or.inl (List.mem_of_getElem? (i := 0) rfl))
  have N16 := Fr.snoc X16 N3 gn_o
  refine own_via (U' := T16.setTop (mkF m 25 #[.val (.ref o), .val (.long x1), .second, .val (.long x2), .second, .val (.long x3), .second] [])) (fun t k => st16 t k) ?_
  refine own_via (U' := T16.setTop (mkF m 26 #[.val (.ref o), .val (.long x1), .second, .val (.long x2), .second, .val (.long x3), .second] [(.ref o)])) (fun t k => XS.aloadN X16.here hx rfl (hb hby d_prog_9_method_5_25) rfl rfl k) ?_
  refine own_via (U' := T16.setTop (mkF m 27 #[.val (.ref o), .val (.long x1), .second, .val (.long x2), .second, .val (.long x3), .second] [(.int (1 : Int32)), (.ref o)])) (fun t k => XS.iconst X16.here hx rfl (hb hby d_prog_9_method_5_26) k) ?_
  obtain ⟨T28, h28, X28, e28, W28, st28⟩ := putF (host := "") X16 hx hZ hown (Or.inl (hw _ (List.mem_of_getElem? (i := 30) rfl))) Via.refl e16 f20 f17 (Or.inl (hw _ (List.mem_of_getElem? (i := 31) rfl))) (hw _ (List.mem_of_getElem? (i := 1) rfl)) (ty := .boolean) (by decide) rfl rfl (g := (mkF m 27 #[.val (.ref o), .val (.long x1), .second, .val (.long x2), .second, .val (.long x3), .second] [(.int (1 : Int32)), (.ref o)])) rfl rfl (hb hby d_prog_9_method_5_27)
  have f28w := f20.same W28
  have f29 := f17.wr W28
  have f30 := f18.other W28 (Or.inr (slot_ne (Or.inr (hw _ (List.mem_of_getElem? (i := 11) rfl))) (Or.inl (hw _ (List.mem_of_getElem? (i := 31) rfl))) (by decide) (t := (.array .long)) (t' := .boolean) (by decide) (by decide)))
  have f31 := f19.other W28 (Or.inr (slot_ne (Or.inl (hw _ (List.mem_of_getElem? (i := 24) rfl))) (Or.inl (hw _ (List.mem_of_getElem? (i := 31) rfl))) (by decide) (t := .long) (t' := .boolean) (by decide) (by decide)))
  have f32 := f21.other W28 (Or.inr (slot_ne (Or.inl (hw _ (List.mem_of_getElem? (i := 42) rfl))) (Or.inl (hw _ (List.mem_of_getElem? (i := 31) rfl))) (by decide) (t := .long) (t' := .boolean) (by decide) (by decide)))
  have f33 := f22.wr W28
  have f34 := f23.wr W28
  have f35 := f24.other W28 (Or.inl ne_to)
  have f36 := f25.other W28 (Or.inl ne_to)
  have f37 := f26.other W28 (Ne.symm ne_oa)
  have f38 := f16w.other W28 (Or.inr (slot_ne (Or.inl (hw _ (List.mem_of_getElem? (i := 40) rfl))) (Or.inl (hw _ (List.mem_of_getElem? (i := 31) rfl))) (by decide) (t := .int) (t' := .boolean) (by decide) (by decide)))
  have Z39 : n0 ≤ h28.size := Nat.le_trans Z27 (Keep.of_wr W28).1
  have K39 := K27.wr W28 (Or.inl (List.mem_of_getElem? (i := 0) rfl))
  have N28 := Fr.snoc X28 N16 gn_o
  refine own_via (U' := T28.setTop (mkF m 30 #[.val (.ref o), .val (.long x1), .second, .val (.long x2), .second, .val (.long x3), .second] [])) (fun t k => st28 t k) ?_
  refine own_via (U' := T28.setTop (mkF m 31 #[.val (.ref o), .val (.long x1), .second, .val (.long x2), .second, .val (.long x3), .second] [(.ref o)])) (fun t k => XS.aloadN X28.here hx rfl (hb hby d_prog_9_method_5_30) rfl rfl k) ?_
  obtain ⟨T40, X40, e40, st40⟩ := getS2 (host := "") X28 hx hZ hown (Or.inl (hw _ (List.mem_of_getElem? (i := 12) rfl))) Via.refl e28 f33 (g := (mkF m 31 #[.val (.ref o), .val (.long x1), .second, .val (.long x2), .second, .val (.long x3), .second] [(.ref o)])) rfl (hb hby d_prog_9_method_5_31)
  refine own_via (U' := T40.setTop (mkF m 34 #[.val (.ref o), .val (.long x1), .second, .val (.long x2), .second, .val (.long x3), .second] [(.ref tu), (.ref o)])) (fun t k => st40 t k) ?_
  refine own_via (U' := T40.setTop (mkF m 36 #[.val (.ref o), .val (.long x1), .second, .val (.long x2), .second, .val (.long x3), .second] [(.long x3), (.ref tu), (.ref o)])) (fun t k => XS.lload X40.here hx rfl (hb hby d_prog_9_method_5_34) rfl k) ?_
  obtain ⟨_, T41, L41, X41, hQ41, st41⟩ := own_callV X40 hx hZ (y := (⟨"java/util/concurrent/TimeUnit", "toNanos", "(J)J"⟩ : MethodName)) (W := 1) (C := "java/util/concurrent/TimeUnit") hown (hw _ (List.mem_of_getElem? (i := 14) rfl)) (hw _ (List.mem_of_getElem? (i := 15) rfl)) (hw _ (List.mem_of_getElem? (i := 17) rfl)) (hw _ (List.mem_of_getElem? (i := 16) rfl)) (hw _ (List.mem_of_getElem? (i := 13) rfl)) (hw _ (List.mem_of_getElem? (i := 18) rfl)) (by decide) (rm_Qtn l Z a0 hw [] tu x3 h28 n0 Z39 f35 f36) (by decide) (by decide) e40 f34 (g := (mkF m 36 #[.val (.ref o), .val (.long x1), .second, .val (.long x2), .second, .val (.long x3), .second] [(.long x3), (.ref tu), (.ref o)])) rfl (by rw [hml]; rfl) (argsL := [(.long x3)]) (rest := [(.ref o)]) rfl (lenOf pd_J__J rfl) rfl (by show 2 * 0 + _ ≤ _; exact Nat.le_of_eq rfl) (hb hby d_prog_9_method_5_36) (by decide) (by decide)
  obtain ⟨rfl, N41q, e41⟩ := hQ41
  have N41 := Fr.app N28 N41q
  refine own_via (U' := T41.setTop (mkF m 39 #[.val (.ref o), .val (.long x1), .second, .val (.long x2), .second, .val (.long x3), .second] [(.long (if (9223372036854 : Int64) < x3 then (9223372036854775807 : Int64) else (if x3 < (-(9223372036854 : Int64)) then (-9223372036854775808 : Int64) else (x3 * (1000000 : Int64))))), (.ref o)])) (fun t k => st41 t k) ?_
  obtain ⟨T42, h42, X42, e42, W42, st42⟩ := putF (host := "") X41 hx hZ hown (Or.inl (hw _ (List.mem_of_getElem? (i := 23) rfl))) Via.refl e41 f31 f29 (Or.inl (hw _ (List.mem_of_getElem? (i := 24) rfl))) (hw _ (List.mem_of_getElem? (i := 1) rfl)) (ty := .long) (by decide) rfl rfl (g := (mkF m 39 #[.val (.ref o), .val (.long x1), .second, .val (.long x2), .second, .val (.long x3), .second] [(.long (if (9223372036854 : Int64) < x3 then (9223372036854775807 : Int64) else (if x3 < (-(9223372036854 : Int64)) then (-9223372036854775808 : Int64) else (x3 * (1000000 : Int64))))), (.ref o)])) rfl rfl (hb hby d_prog_9_method_5_39)
  have f42w := f31.same W42
  have f43 := f29.wr W42
  have f44 := f30.other W42 (Or.inr (slot_ne (Or.inr (hw _ (List.mem_of_getElem? (i := 11) rfl))) (Or.inl (hw _ (List.mem_of_getElem? (i := 24) rfl))) (by decide) (t := (.array .long)) (t' := .long) (by decide) (by decide)))
  have f45 := f32.other W42 (Or.inr (slot_ne (Or.inl (hw _ (List.mem_of_getElem? (i := 42) rfl))) (Or.inl (hw _ (List.mem_of_getElem? (i := 24) rfl))) (by decide) (t := .long) (t' := .long) (by decide) (by decide)))
  have f46 := f33.wr W42
  have f47 := f34.wr W42
  have f48 := f35.other W42 (Or.inl ne_to)
  have f49 := f36.other W42 (Or.inl ne_to)
  have f50 := f37.other W42 (Ne.symm ne_oa)
  have f51 := f38.other W42 (Or.inr (slot_ne (Or.inl (hw _ (List.mem_of_getElem? (i := 40) rfl))) (Or.inl (hw _ (List.mem_of_getElem? (i := 24) rfl))) (by decide) (t := .int) (t' := .long) (by decide) (by decide)))
  have f52 := f28w.other W42 (Or.inr (slot_ne (Or.inl (hw _ (List.mem_of_getElem? (i := 31) rfl))) (Or.inl (hw _ (List.mem_of_getElem? (i := 24) rfl))) (by decide) (t := .boolean) (t' := .long) (by decide) (by decide)))
  have Z53 : n0 ≤ h42.size := Nat.le_trans Z39 (Keep.of_wr W42).1
  have K53 := K39.wr W42 (Or.inl (List.mem_of_getElem? (i := 0) rfl))
  have N42 := Fr.snoc X42 N41 gn_o
  refine own_via (U' := T42.setTop (mkF m 42 #[.val (.ref o), .val (.long x1), .second, .val (.long x2), .second, .val (.long x3), .second] [])) (fun t k => st42 t k) ?_
  refine own_via (U' := T42.setTop (mkF m 43 #[.val (.ref o), .val (.long x1), .second, .val (.long x2), .second, .val (.long x3), .second] [(.ref o)])) (fun t k => XS.aloadN X42.here hx rfl (hb hby d_prog_9_method_5_42) rfl rfl k) ?_
  refine own_via (U' := T42.setTop (mkF m 44 #[.val (.ref o), .val (.long x1), .second, .val (.long x2), .second, .val (.long x3), .second] [(.long x1), (.ref o)])) (fun t k => XS.lloadN X42.here hx rfl (hb hby d_prog_9_method_5_43) rfl k) ?_
  refine own_via (U' := T42.setTop (mkF m 45 #[.val (.ref o), .val (.long x1), .second, .val (.long x2), .second, .val (.long x3), .second] [(.ref o), (.long x1), (.ref o)])) (fun t k => XS.aloadN X42.here hx rfl (hb hby d_prog_9_method_5_44) rfl rfl k) ?_
  obtain ⟨T54, X54, e54, st54⟩ := getF (host := "") X42 hx hZ hown (Or.inl (hw _ (List.mem_of_getElem? (i := 23) rfl))) Via.refl e42 f42w (g := (mkF m 45 #[.val (.ref o), .val (.long x1), .second, .val (.long x2), .second, .val (.long x3), .second] [(.ref o), (.long x1), (.ref o)])) rfl rfl (hb hby d_prog_9_method_5_45)
  refine own_via (U' := T54.setTop (mkF m 48 #[.val (.ref o), .val (.long x1), .second, .val (.long x2), .second, .val (.long x3), .second] [(.long (if (9223372036854 : Int64) < x3 then (9223372036854775807 : Int64) else (if x3 < (-(9223372036854 : Int64)) then (-9223372036854775808 : Int64) else (x3 * (1000000 : Int64))))), (.long x1), (.ref o)])) (fun t k => st54 t k) ?_
  refine own_via (U' := T54.setTop (mkF m 49 #[.val (.ref o), .val (.long x1), .second, .val (.long x2), .second, .val (.long x3), .second] [(.long (x1 + (if (9223372036854 : Int64) < x3 then (9223372036854775807 : Int64) else (if x3 < (-(9223372036854 : Int64)) then (-9223372036854775808 : Int64) else (x3 * (1000000 : Int64)))))), (.ref o)])) (fun t k => XS.ladd X54.here hx rfl (hb hby d_prog_9_method_5_48) rfl k) ?_
  obtain ⟨T55, h55, X55, e55, W55, st55⟩ := putF (host := "") X54 hx hZ hown (Or.inl (hw _ (List.mem_of_getElem? (i := 41) rfl))) Via.refl e54 f45 f43 (Or.inl (hw _ (List.mem_of_getElem? (i := 42) rfl))) (hw _ (List.mem_of_getElem? (i := 1) rfl)) (ty := .long) (by decide) rfl rfl (g := (mkF m 49 #[.val (.ref o), .val (.long x1), .second, .val (.long x2), .second, .val (.long x3), .second] [(.long (x1 + (if (9223372036854 : Int64) < x3 then (9223372036854775807 : Int64) else (if x3 < (-(9223372036854 : Int64)) then (-9223372036854775808 : Int64) else (x3 * (1000000 : Int64)))))), (.ref o)])) rfl rfl (hb hby d_prog_9_method_5_49)
  have f55w := f45.same W55
  have f56 := f43.wr W55
  have f57 := f44.other W55 (Or.inr (slot_ne (Or.inr (hw _ (List.mem_of_getElem? (i := 11) rfl))) (Or.inl (hw _ (List.mem_of_getElem? (i := 42) rfl))) (by decide) (t := (.array .long)) (t' := .long) (by decide) (by decide)))
  have f58 := f46.wr W55
  have f59 := f47.wr W55
  have f60 := f48.other W55 (Or.inl ne_to)
  have f61 := f49.other W55 (Or.inl ne_to)
  have f62 := f50.other W55 (Ne.symm ne_oa)
  have f63 := f51.other W55 (Or.inr (slot_ne (Or.inl (hw _ (List.mem_of_getElem? (i := 40) rfl))) (Or.inl (hw _ (List.mem_of_getElem? (i := 42) rfl))) (by decide) (t := .int) (t' := .long) (by decide) (by decide)))
  have f64 := f52.other W55 (Or.inr (slot_ne (Or.inl (hw _ (List.mem_of_getElem? (i := 31) rfl))) (Or.inl (hw _ (List.mem_of_getElem? (i := 42) rfl))) (by decide) (t := .boolean) (t' := .long) (by decide) (by decide)))
  have f65 := f42w.other W55 (Or.inr (slot_ne (Or.inl (hw _ (List.mem_of_getElem? (i := 24) rfl))) (Or.inl (hw _ (List.mem_of_getElem? (i := 42) rfl))) (by decide) (t := .long) (t' := .long) (by decide) (by decide)))
  have Z66 : n0 ≤ h55.size := Nat.le_trans Z53 (Keep.of_wr W55).1
  have K66 := K53.wr W55 (Or.inl (List.mem_of_getElem? (i := 0) rfl))
  have N55 := Fr.snoc X55 N42 gn_o
  refine own_via (U' := T55.setTop (mkF m 52 #[.val (.ref o), .val (.long x1), .second, .val (.long x2), .second, .val (.long x3), .second] [])) (fun t k => st55 t k) ?_
  exact own_ret X55 (v := none) (fun _ => rfl) hlk (fun fs hr => X55.returnOut hx Bd.returns (hb hby d_prog_9_method_5_52) hr) (by rw [e55]; exact ⟨rfl, N55, K66, f56, f57, f65, f64, f63, f55w, f62⟩) (by decide) (by decide)
def Qan1 (Z : State) (o ar : Addr) (kk : ClassId) (u0 u1 u2 u3 u4 u5 u6 u7 u8 u9 : Int64) (len_ end_ : Int64) (an_ : Int32) (x1 x2 x3 : Int64) (tu : Addr) (h0 : Heap) (n0 : Nat) (v : Option Value) (h : Heap) (L : List Loc) : Prop := v = none ∧ Fr n0 L ∧ Keep h0 h [o, ar] ∧ Exa Z h o "com/example/assignor/assignor/client/RequestTimeouts" ∧ Fld Z h o "com/example/assignor/assignor/client/RequestTimeouts" "roundTrips" "[J" (.ref ar) ∧ Fld Z h o "com/example/assignor/assignor/client/RequestTimeouts" "leaseNanos" "J" (.long (if (9223372036854 : Int64) < x3 then (9223372036854775807 : Int64) else (if x3 < (-(9223372036854 : Int64)) then (-9223372036854775808 : Int64) else (x3 * (1000000 : Int64))))) ∧ Fld Z h o "com/example/assignor/assignor/client/RequestTimeouts" "answered" "Z" (.int (1 : Int32)) ∧ Fld Z h o "com/example/assignor/assignor/client/RequestTimeouts" "nextRoundTrip" "I" (.int (2 : Int32)) ∧ Fld Z h o "com/example/assignor/assignor/client/RequestTimeouts" "leaseEndNanos" "J" (.long (x1 + (if (9223372036854 : Int64) < x3 then (9223372036854775807 : Int64) else (if x3 < (-(9223372036854 : Int64)) then (-9223372036854775808 : Int64) else (x3 * (1000000 : Int64)))))) ∧ Arv Z h ar kk .long (10 : Int32) [(.long u0), (.long (x2 - x1)), (.long u2), (.long u3), (.long u4), (.long u5), (.long u6), (.long u7), (.long u8), (.long u9)] (.long (0 : Int64))
theorem ef_rm_Qan1 (m : MethodId) (x0 : Addr) (x1 : Int64) (x2 : Int64) (x3 : Int64) : entryFrame m #[(.ref x0), (.long x1), (.long x2), (.long x3)] 7 = mkF m 0 #[.val (.ref x0), .val (.long x1), .second, .val (.long x2), .second, .val (.long x3), .second] [] := by first | (simp [entryFrame, mkF, argsToLocals, Value.category]; done) | rfl
set_option maxRecDepth 65536 in
set_option maxHeartbeats 40000000 in
theorem rm_Qan1 (l : Launch) (Z : State) (a0 : Array Value) (hw : ∀ d ∈ tables_1, d.before a0 Z = true) (ws : List Jvm.Cond) (o ar : Addr) (kk : ClassId) (u0 u1 u2 u3 u4 u5 u6 u7 u8 u9 : Int64) (len_ end_ : Int64) (an_ : Int32) (x1 x2 x3 : Int64) (tu : Addr) (h0 : Heap) (n0 : Nat) (Z0 : n0 ≤ h0.size) (Eo : Exa Z h0 o "com/example/assignor/assignor/client/RequestTimeouts") (F_roundTrips : Fld Z h0 o "com/example/assignor/assignor/client/RequestTimeouts" "roundTrips" "[J" (.ref ar)) (F_leaseNanos : Fld Z h0 o "com/example/assignor/assignor/client/RequestTimeouts" "leaseNanos" "J" (.long len_)) (F_answered : Fld Z h0 o "com/example/assignor/assignor/client/RequestTimeouts" "answered" "Z" (.int an_)) (F_nextRoundTrip : Fld Z h0 o "com/example/assignor/assignor/client/RequestTimeouts" "nextRoundTrip" "I" (.int (1 : Int32))) (F_leaseEndNanos : Fld Z h0 o "com/example/assignor/assignor/client/RequestTimeouts" "leaseEndNanos" "J" (.long end_)) (gn_o : n0 ≤ o) (gn_ar : n0 ≤ ar) (Va : Arv Z h0 ar kk .long (10 : Int32) [(.long u0), (.long u1), (.long u2), (.long u3), (.long u4), (.long u5), (.long u6), (.long u7), (.long u8), (.long u9)] (.long (0 : Int64))) (Sm : Sta Z h0 "java/util/concurrent/TimeUnit" "MILLISECONDS" "Ljava/util/concurrent/TimeUnit;" (.ref tu)) (Et : Exa Z h0 tu "java/util/concurrent/TimeUnit") (Fs : Fld Z h0 tu "java/util/concurrent/TimeUnit" "scale" "J" (.long (1000000 : Int64))) (Fm : Fld Z h0 tu "java/util/concurrent/TimeUnit" "maxNanos" "J" (.long (9223372036854 : Int64))) (ne_to : tu ≠ o) (ne_ta : tu ≠ ar) (ne_oa : o ≠ ar) :
    MetFree l (⟨"com/example/assignor/assignor/client/RequestTimeouts", "answered", "(JJJ)V"⟩ : MethodName) (head1 (Jvm.Cond.code (⟨"com/example/assignor/assignor/client/RequestTimeouts", "answered", "(JJJ)V"⟩ : MethodName) prog_9_method_5_code 7 none :: ws) ({ frames := 1, cells := 0, slots := 0, locals := 19 } : Room)) (fun aa_ UU_ => aa_ = #[(.ref o), (.long x1), (.long x2), (.long x3)] ∧ Z.Warmed39 UU_.vm ∧ UU_.heap = h0) (fun _ _ _ _ _ => True) (fun _ UU_ oo_ VV_ => ∃ vv_ LL_, oo_ = .returned vv_ ∧ Qan1 Z o ar kk u0 u1 u2 u3 u4 u5 u6 u7 u8 u9 len_ end_ an_ x1 x2 x3 tu h0 n0 vv_ VV_.heap LL_ ∧ FrameEnd UU_ oo_ VV_ LL_ ({ frames := 1, cells := 0, slots := 0, locals := 19 } : Room).cells ({ frames := 1, cells := 0, slots := 0, locals := 19 } : Room).slots) := by
  refine MetFree.of_bodySF (plainFor_of_name pn_com_example_assignor_assignor_client_RequestTimeouts) hisR ?_
  intro p e s m args below meth c s₁ Bd hml0 hP hK
  obtain ⟨rfl, hZ, hh⟩ := hP
  have hx := Bd.exec
  have hby := Bd.bytes
  have hml : c.maxLocals = 7 := hml0
  have hown : s.vm.findClass "com/example/assignor/assignor/client/RequestTimeouts" = some m.cls := findClass_of_methodNamed Bd.named
  have hnm := (name_of_methodNamed Bd.named Bd.method).1
  have hlk : meth.locks = false := Bd.notSynchronized
  have X0 : Stand p l e ({ frames := 1, cells := 0, slots := 0, locals := 19 } : Room) s m #[(.ref o), (.long x1), (.long x2), (.long x3)] below meth c s₁ [] 0 0 := Stand.of_body Bd
  have e0 : s₁.heap = h0 := by rw [← hh, Bd.state]; rfl
  have N0 := Fr.nil n0
  have K0 := Keep.refl h0 [o, ar]
  show own_G p e below s (Qan1 Z o ar kk u0 u1 u2 u3 u4 u5 u6 u7 u8 u9 len_ end_ an_ x1 x2 x3 tu h0 n0) _ _ (s₁.setTop (entryFrame m #[(.ref o), (.long x1), (.long x2), (.long x3)] 7))
  rw [ef_rm_Qan1 m o x1 x2 x3]
  refine own_via (U' := s₁.setTop (mkF m 1 #[.val (.ref o), .val (.long x1), .second, .val (.long x2), .second, .val (.long x3), .second] [(.ref o)])) (fun t k => XS.aloadN X0.here hx rfl (hb hby d_prog_9_method_5_0) rfl rfl k) ?_
  obtain ⟨T1, X1, e1, st1⟩ := getF (host := "") X0 hx hZ hown (Or.inl (hw _ (List.mem_of_getElem? (i := 10) rfl))) Via.refl e0 F_roundTrips (g := (mkF m 1 #[.val (.ref o), .val (.long x1), .second, .val (.long x2), .second, .val (.long x3), .second] [(.ref o)])) rfl rfl (hb hby d_prog_9_method_5_1)
  refine own_via (U' := T1.setTop (mkF m 4 #[.val (.ref o), .val (.long x1), .second, .val (.long x2), .second, .val (.long x3), .second] [(.ref ar)])) (fun t k => st1 t k) ?_
  refine own_via (U' := T1.setTop (mkF m 5 #[.val (.ref o), .val (.long x1), .second, .val (.long x2), .second, .val (.long x3), .second] [(.ref o), (.ref ar)])) (fun t k => XS.aloadN X1.here hx rfl (hb hby d_prog_9_method_5_4) rfl rfl k) ?_
  obtain ⟨T2, X2, e2, st2⟩ := getF (host := "") X1 hx hZ hown (Or.inl (hw _ (List.mem_of_getElem? (i := 39) rfl))) Via.refl e1 F_nextRoundTrip (g := (mkF m 5 #[.val (.ref o), .val (.long x1), .second, .val (.long x2), .second, .val (.long x3), .second] [(.ref o), (.ref ar)])) rfl rfl (hb hby d_prog_9_method_5_5)
  refine own_via (U' := T2.setTop (mkF m 8 #[.val (.ref o), .val (.long x1), .second, .val (.long x2), .second, .val (.long x3), .second] [(.int (1 : Int32)), (.ref ar)])) (fun t k => st2 t k) ?_
  refine own_via (U' := T2.setTop (mkF m 9 #[.val (.ref o), .val (.long x1), .second, .val (.long x2), .second, .val (.long x3), .second] [(.long x2), (.int (1 : Int32)), (.ref ar)])) (fun t k => XS.lloadN X2.here hx rfl (hb hby d_prog_9_method_5_8) rfl k) ?_
  refine own_via (U' := T2.setTop (mkF m 10 #[.val (.ref o), .val (.long x1), .second, .val (.long x2), .second, .val (.long x3), .second] [(.long x1), (.long x2), (.int (1 : Int32)), (.ref ar)])) (fun t k => XS.lloadN X2.here hx rfl (hb hby d_prog_9_method_5_9) rfl k) ?_
  refine own_via (U' := T2.setTop (mkF m 11 #[.val (.ref o), .val (.long x1), .second, .val (.long x2), .second, .val (.long x3), .second] [(.long (x2 - x1)), (.int (1 : Int32)), (.ref ar)])) (fun t k => XS.lsub X2.here hx rfl (hb hby d_prog_9_method_5_10) rfl k) ?_
  obtain ⟨c3, Ar3, q3a, q3b, q3c, q3d, q3e⟩ := id Va
  obtain ⟨T3, h3, X3, e3, W3, st3⟩ := stJ X2 hx hZ e2 Ar3 (inb_of q3b (by decide)) (g := (mkF m 11 #[.val (.ref o), .val (.long x1), .second, .val (.long x2), .second, .val (.long x3), .second] [(.long (x2 - x1)), (.int (1 : Int32)), (.ref ar)])) rfl rfl (hb hby d_prog_9_method_5_11)
  have V3 : Arv Z h3 ar kk .long (10 : Int32) [(.long u0), (.long (x2 - x1)), (.long u2), (.long u3), (.long u4), (.long u5), (.long u6), (.long u7), (.long u8), (.long u9)] (.long (0 : Int64)) := Arv.set Ar3 q3a q3b q3c q3d q3e rfl W3 1 rfl (Nat.le_of_ble_eq_true rfl)
  have f4 := Eo.wr W3
  have f5 := F_roundTrips.other W3 (Or.inl ne_oa)
  have f6 := F_leaseNanos.other W3 (Or.inl ne_oa)
  have f7 := F_answered.other W3 (Or.inl ne_oa)
  have f8 := F_nextRoundTrip.other W3 (Or.inl ne_oa)
  have f9 := F_leaseEndNanos.other W3 (Or.inl ne_oa)
  have f10 := Sm.wr W3
  have f11 := Et.wr W3
  have f12 := Fs.other W3 (Or.inl ne_ta)
  have f13 := Fm.other W3 (Or.inl ne_ta)
  have Z14 : n0 ≤ h3.size := Nat.le_trans Z0 (Keep.of_wr W3).1
  have K14 := K0.wr W3 (Or.inl (List.mem_of_getElem? (i := 1) rfl))
  have N3 := Fr.snoc X3 N0 gn_ar
  refine own_via (U' := T3.setTop (mkF m 12 #[.val (.ref o), .val (.long x1), .second, .val (.long x2), .second, .val (.long x3), .second] [])) (fun t k => st3 t k) ?_
  refine own_via (U' := T3.setTop (mkF m 13 #[.val (.ref o), .val (.long x1), .second, .val (.long x2), .second, .val (.long x3), .second] [(.ref o)])) (fun t k => XS.aloadN X3.here hx rfl (hb hby d_prog_9_method_5_12) rfl rfl k) ?_
  refine own_via (U' := T3.setTop (mkF m 14 #[.val (.ref o), .val (.long x1), .second, .val (.long x2), .second, .val (.long x3), .second] [(.ref o), (.ref o)])) (fun t k => XS.aloadN X3.here hx rfl (hb hby d_prog_9_method_5_13) rfl rfl k) ?_
  obtain ⟨T15, X15, e15, st15⟩ := getF (host := "") X3 hx hZ hown (Or.inl (hw _ (List.mem_of_getElem? (i := 39) rfl))) Via.refl e3 f8 (g := (mkF m 14 #[.val (.ref o), .val (.long x1), .second, .val (.long x2), .second, .val (.long x3), .second] [(.ref o), (.ref o)])) rfl rfl (hb hby d_prog_9_method_5_14)
  refine own_via (U' := T15.setTop (mkF m 17 #[.val (.ref o), .val (.long x1), .second, .val (.long x2), .second, .val (.long x3), .second] [(.int (1 : Int32)), (.ref o)])) (fun t k => st15 t k) ?_
  refine own_via (U' := T15.setTop (mkF m 18 #[.val (.ref o), .val (.long x1), .second, .val (.long x2), .second, .val (.long x3), .second] [(.int (1 : Int32)), (.int (1 : Int32)), (.ref o)])) (fun t k => XS.iconst X15.here hx rfl (hb hby d_prog_9_method_5_17) k) ?_
  refine own_via (U' := T15.setTop (mkF m 19 #[.val (.ref o), .val (.long x1), .second, .val (.long x2), .second, .val (.long x3), .second] [(.int ((1 : Int32) + (1 : Int32))), (.ref o)])) (fun t k => XS.iadd X15.here hx rfl (hb hby d_prog_9_method_5_18) rfl k) ?_
  rw [show ((1 : Int32) + (1 : Int32)) = (2 : Int32) from by decide]
  refine own_via (U' := T15.setTop (mkF m 21 #[.val (.ref o), .val (.long x1), .second, .val (.long x2), .second, .val (.long x3), .second] [(.int (10 : Int32)), (.int (2 : Int32)), (.ref o)])) (fun t k => XS.bipush X15.here hx rfl (hb hby d_prog_9_method_5_19) k) ?_
  refine own_via (U' := T15.setTop (mkF m 22 #[.val (.ref o), .val (.long x1), .second, .val (.long x2), .second, .val (.long x3), .second] [(.int ((2 : Int32) % (10 : Int32))), (.ref o)])) (fun t k => iremM X15 hx rfl (hb hby d_prog_9_method_5_21) rfl (by decide) k) ?_
  rw [show ((2 : Int32) % (10 : Int32)) = (2 : Int32) from by decide]
  obtain ⟨T16, h16, X16, e16, W16, st16⟩ := putF (host := "") X15 hx hZ hown (Or.inl (hw _ (List.mem_of_getElem? (i := 39) rfl))) Via.refl e15 f8 f4 (Or.inl (hw _ (List.mem_of_getElem? (i := 40) rfl))) (hw _ (List.mem_of_getElem? (i := 1) rfl)) (ty := .int) (by decide) rfl rfl (g := (mkF m 22 #[.val (.ref o), .val (.long x1), .second, .val (.long x2), .second, .val (.long x3), .second] [(.int (2 : Int32)), (.ref o)])) rfl rfl (hb hby d_prog_9_method_5_22)
  have f16w := f8.same W16
  have f17 := f4.wr W16
  have f18 := f5.other W16 (Or.inr (slot_ne (Or.inr (hw _ (List.mem_of_getElem? (i := 11) rfl))) (Or.inl (hw _ (List.mem_of_getElem? (i := 40) rfl))) (by decide) (t := (.array .long)) (t' := .int) (by decide) (by decide)))
  have f19 := f6.other W16 (Or.inr (slot_ne (Or.inl (hw _ (List.mem_of_getElem? (i := 24) rfl))) (Or.inl (hw _ (List.mem_of_getElem? (i := 40) rfl))) (by decide) (t := .long) (t' := .int) (by decide) (by decide)))
  have f20 := f7.other W16 (Or.inr (slot_ne (Or.inl (hw _ (List.mem_of_getElem? (i := 31) rfl))) (Or.inl (hw _ (List.mem_of_getElem? (i := 40) rfl))) (by decide) (t := .boolean) (t' := .int) (by decide) (by decide)))
  have f21 := f9.other W16 (Or.inr (slot_ne (Or.inl (hw _ (List.mem_of_getElem? (i := 42) rfl))) (Or.inl (hw _ (List.mem_of_getElem? (i := 40) rfl))) (by decide) (t := .long) (t' := .int) (by decide) (by decide)))
  have f22 := f10.wr W16
  have f23 := f11.wr W16
  have f24 := f12.other W16 (Or.inl ne_to)
  have f25 := f13.other W16 (Or.inl ne_to)
  have f26 := V3.other W16 (Ne.symm ne_oa)
  have Z27 : n0 ≤ h16.size := Nat.le_trans Z14 (Keep.of_wr W16).1
  have K27 := K14.wr W16 (Or.inl (List.mem_of_getElem? (i := 0) rfl))
  have N16 := Fr.snoc X16 N3 gn_o
  refine own_via (U' := T16.setTop (mkF m 25 #[.val (.ref o), .val (.long x1), .second, .val (.long x2), .second, .val (.long x3), .second] [])) (fun t k => st16 t k) ?_
  refine own_via (U' := T16.setTop (mkF m 26 #[.val (.ref o), .val (.long x1), .second, .val (.long x2), .second, .val (.long x3), .second] [(.ref o)])) (fun t k => XS.aloadN X16.here hx rfl (hb hby d_prog_9_method_5_25) rfl rfl k) ?_
  refine own_via (U' := T16.setTop (mkF m 27 #[.val (.ref o), .val (.long x1), .second, .val (.long x2), .second, .val (.long x3), .second] [(.int (1 : Int32)), (.ref o)])) (fun t k => XS.iconst X16.here hx rfl (hb hby d_prog_9_method_5_26) k) ?_
  obtain ⟨T28, h28, X28, e28, W28, st28⟩ := putF (host := "") X16 hx hZ hown (Or.inl (hw _ (List.mem_of_getElem? (i := 30) rfl))) Via.refl e16 f20 f17 (Or.inl (hw _ (List.mem_of_getElem? (i := 31) rfl))) (hw _ (List.mem_of_getElem? (i := 1) rfl)) (ty := .boolean) (by decide) rfl rfl (g := (mkF m 27 #[.val (.ref o), .val (.long x1), .second, .val (.long x2), .second, .val (.long x3), .second] [(.int (1 : Int32)), (.ref o)])) rfl rfl (hb hby d_prog_9_method_5_27)
  have f28w := f20.same W28
  have f29 := f17.wr W28
  have f30 := f18.other W28 (Or.inr (slot_ne (Or.inr (hw _ (List.mem_of_getElem? (i := 11) rfl))) (Or.inl (hw _ (List.mem_of_getElem? (i := 31) rfl))) (by decide) (t := (.array .long)) (t' := .boolean) (by decide) (by decide)))
  have f31 := f19.other W28 (Or.inr (slot_ne (Or.inl (hw _ (List.mem_of_getElem? (i := 24) rfl))) (Or.inl (hw _ (List.mem_of_getElem? (i := 31) rfl))) (by decide) (t := .long) (t' := .boolean) (by decide) (by decide)))
  have f32 := f21.other W28 (Or.inr (slot_ne (Or.inl (hw _ (List.mem_of_getElem? (i := 42) rfl))) (Or.inl (hw _ (List.mem_of_getElem? (i := 31) rfl))) (by decide) (t := .long) (t' := .boolean) (by decide) (by decide)))
  have f33 := f22.wr W28
  have f34 := f23.wr W28
  have f35 := f24.other W28 (Or.inl ne_to)
  have f36 := f25.other W28 (Or.inl ne_to)
  have f37 := f26.other W28 (Ne.symm ne_oa)
  have f38 := f16w.other W28 (Or.inr (slot_ne (Or.inl (hw _ (List.mem_of_getElem? (i := 40) rfl))) (Or.inl (hw _ (List.mem_of_getElem? (i := 31) rfl))) (by decide) (t := .int) (t' := .boolean) (by decide) (by decide)))
  have Z39 : n0 ≤ h28.size := Nat.le_trans Z27 (Keep.of_wr W28).1
  have K39 := K27.wr W28 (Or.inl (List.mem_of_getElem? (i := 0) rfl))
  have N28 := Fr.snoc X28 N16 gn_o
  refine own_via (U' := T28.setTop (mkF m 30 #[.val (.ref o), .val (.long x1), .second, .val (.long x2), .second, .val (.long x3), .second] [])) (fun t k => st28 t k) ?_
  refine own_via (U' := T28.setTop (mkF m 31 #[.val (.ref o), .val (.long x1), .second, .val (.long x2), .second, .val (.long x3), .second] [(.ref o)])) (fun t k => XS.aloadN X28.here hx rfl (hb hby d_prog_9_method_5_30) rfl rfl k) ?_
  obtain ⟨T40, X40, e40, st40⟩ := getS2 (host := "") X28 hx hZ hown (Or.inl (hw _ (List.mem_of_getElem? (i := 12) rfl))) Via.refl e28 f33 (g := (mkF m 31 #[.val (.ref o), .val (.long x1), .second, .val (.long x2), .second, .val (.long x3), .second] [(.ref o)])) rfl (hb hby d_prog_9_method_5_31)
  refine own_via (U' := T40.setTop (mkF m 34 #[.val (.ref o), .val (.long x1), .second, .val (.long x2), .second, .val (.long x3), .second] [(.ref tu), (.ref o)])) (fun t k => st40 t k) ?_
  refine own_via (U' := T40.setTop (mkF m 36 #[.val (.ref o), .val (.long x1), .second, .val (.long x2), .second, .val (.long x3), .second] [(.long x3), (.ref tu), (.ref o)])) (fun t k => XS.lload X40.here hx rfl (hb hby d_prog_9_method_5_34) rfl k) ?_
  obtain ⟨_, T41, L41, X41, hQ41, st41⟩ := own_callV X40 hx hZ (y := (⟨"java/util/concurrent/TimeUnit", "toNanos", "(J)J"⟩ : MethodName)) (W := 1) (C := "java/util/concurrent/TimeUnit") hown (hw _ (List.mem_of_getElem? (i := 14) rfl)) (hw _ (List.mem_of_getElem? (i := 15) rfl)) (hw _ (List.mem_of_getElem? (i := 17) rfl)) (hw _ (List.mem_of_getElem? (i := 16) rfl)) (hw _ (List.mem_of_getElem? (i := 13) rfl)) (hw _ (List.mem_of_getElem? (i := 18) rfl)) (by decide) (rm_Qtn l Z a0 hw [] tu x3 h28 n0 Z39 f35 f36) (by decide) (by decide) e40 f34 (g := (mkF m 36 #[.val (.ref o), .val (.long x1), .second, .val (.long x2), .second, .val (.long x3), .second] [(.long x3), (.ref tu), (.ref o)])) rfl (by rw [hml]; rfl) (argsL := [(.long x3)]) (rest := [(.ref o)]) rfl (lenOf pd_J__J rfl) rfl (by show 2 * 0 + _ ≤ _; exact Nat.le_of_eq rfl) (hb hby d_prog_9_method_5_36) (by decide) (by decide)
  obtain ⟨rfl, N41q, e41⟩ := hQ41
  have N41 := Fr.app N28 N41q
  refine own_via (U' := T41.setTop (mkF m 39 #[.val (.ref o), .val (.long x1), .second, .val (.long x2), .second, .val (.long x3), .second] [(.long (if (9223372036854 : Int64) < x3 then (9223372036854775807 : Int64) else (if x3 < (-(9223372036854 : Int64)) then (-9223372036854775808 : Int64) else (x3 * (1000000 : Int64))))), (.ref o)])) (fun t k => st41 t k) ?_
  obtain ⟨T42, h42, X42, e42, W42, st42⟩ := putF (host := "") X41 hx hZ hown (Or.inl (hw _ (List.mem_of_getElem? (i := 23) rfl))) Via.refl e41 f31 f29 (Or.inl (hw _ (List.mem_of_getElem? (i := 24) rfl))) (hw _ (List.mem_of_getElem? (i := 1) rfl)) (ty := .long) (by decide) rfl rfl (g := (mkF m 39 #[.val (.ref o), .val (.long x1), .second, .val (.long x2), .second, .val (.long x3), .second] [(.long (if (9223372036854 : Int64) < x3 then (9223372036854775807 : Int64) else (if x3 < (-(9223372036854 : Int64)) then (-9223372036854775808 : Int64) else (x3 * (1000000 : Int64))))), (.ref o)])) rfl rfl (hb hby d_prog_9_method_5_39)
  have f42w := f31.same W42
  have f43 := f29.wr W42
  have f44 := f30.other W42 (Or.inr (slot_ne (Or.inr (hw _ (List.mem_of_getElem? (i := 11) rfl))) (Or.inl (hw _ (List.mem_of_getElem? (i := 24) rfl))) (by decide) (t := (.array .long)) (t' := .long) (by decide) (by decide)))
  have f45 := f32.other W42 (Or.inr (slot_ne (Or.inl (hw _ (List.mem_of_getElem? (i := 42) rfl))) (Or.inl (hw _ (List.mem_of_getElem? (i := 24) rfl))) (by decide) (t := .long) (t' := .long) (by decide) (by decide)))
  have f46 := f33.wr W42
  have f47 := f34.wr W42
  have f48 := f35.other W42 (Or.inl ne_to)
  have f49 := f36.other W42 (Or.inl ne_to)
  have f50 := f37.other W42 (Ne.symm ne_oa)
  have f51 := f38.other W42 (Or.inr (slot_ne (Or.inl (hw _ (List.mem_of_getElem? (i := 40) rfl))) (Or.inl (hw _ (List.mem_of_getElem? (i := 24) rfl))) (by decide) (t := .int) (t' := .long) (by decide) (by decide)))
  have f52 := f28w.other W42 (Or.inr (slot_ne (Or.inl (hw _ (List.mem_of_getElem? (i := 31) rfl))) (Or.inl (hw _ (List.mem_of_getElem? (i := 24) rfl))) (by decide) (t := .boolean) (t' := .long) (by decide) (by decide)))
  have Z53 : n0 ≤ h42.size := Nat.le_trans Z39 (Keep.of_wr W42).1
  have K53 := K39.wr W42 (Or.inl (List.mem_of_getElem? (i := 0) rfl))
  have N42 := Fr.snoc X42 N41 gn_o
  refine own_via (U' := T42.setTop (mkF m 42 #[.val (.ref o), .val (.long x1), .second, .val (.long x2), .second, .val (.long x3), .second] [])) (fun t k => st42 t k) ?_
  refine own_via (U' := T42.setTop (mkF m 43 #[.val (.ref o), .val (.long x1), .second, .val (.long x2), .second, .val (.long x3), .second] [(.ref o)])) (fun t k => XS.aloadN X42.here hx rfl (hb hby d_prog_9_method_5_42) rfl rfl k) ?_
  refine own_via (U' := T42.setTop (mkF m 44 #[.val (.ref o), .val (.long x1), .second, .val (.long x2), .second, .val (.long x3), .second] [(.long x1), (.ref o)])) (fun t k => XS.lloadN X42.here hx rfl (hb hby d_prog_9_method_5_43) rfl k) ?_
  refine own_via (U' := T42.setTop (mkF m 45 #[.val (.ref o), .val (.long x1), .second, .val (.long x2), .second, .val (.long x3), .second] [(.ref o), (.long x1), (.ref o)])) (fun t k => XS.aloadN X42.here hx rfl (hb hby d_prog_9_method_5_44) rfl rfl k) ?_
  obtain ⟨T54, X54, e54, st54⟩ := getF (host := "") X42 hx hZ hown (Or.inl (hw _ (List.mem_of_getElem? (i := 23) rfl))) Via.refl e42 f42w (g := (mkF m 45 #[.val (.ref o), .val (.long x1), .second, .val (.long x2), .second, .val (.long x3), .second] [(.ref o), (.long x1), (.ref o)])) rfl rfl (hb hby d_prog_9_method_5_45)
  refine own_via (U' := T54.setTop (mkF m 48 #[.val (.ref o), .val (.long x1), .second, .val (.long x2), .second, .val (.long x3), .second] [(.long (if (9223372036854 : Int64) < x3 then (9223372036854775807 : Int64) else (if x3 < (-(9223372036854 : Int64)) then (-9223372036854775808 : Int64) else (x3 * (1000000 : Int64))))), (.long x1), (.ref o)])) (fun t k => st54 t k) ?_
  refine own_via (U' := T54.setTop (mkF m 49 #[.val (.ref o), .val (.long x1), .second, .val (.long x2), .second, .val (.long x3), .second] [(.long (x1 + (if (9223372036854 : Int64) < x3 then (9223372036854775807 : Int64) else (if x3 < (-(9223372036854 : Int64)) then (-9223372036854775808 : Int64) else (x3 * (1000000 : Int64)))))), (.ref o)])) (fun t k => XS.ladd X54.here hx rfl (hb hby d_prog_9_method_5_48) rfl k) ?_
  obtain ⟨T55, h55, X55, e55, W55, st55⟩ := putF (host := "") X54 hx hZ hown (Or.inl (hw _ (List.mem_of_getElem? (i := 41) rfl))) Via.refl e54 f45 f43 (Or.inl (hw _ (List.mem_of_getElem? (i := 42) rfl))) (hw _ (List.mem_of_getElem? (i := 1) rfl)) (ty := .long) (by decide) rfl rfl (g := (mkF m 49 #[.val (.ref o), .val (.long x1), .second, .val (.long x2), .second, .val (.long x3), .second] [(.long (x1 + (if (9223372036854 : Int64) < x3 then (9223372036854775807 : Int64) else (if x3 < (-(9223372036854 : Int64)) then (-9223372036854775808 : Int64) else (x3 * (1000000 : Int64)))))), (.ref o)])) rfl rfl (hb hby d_prog_9_method_5_49)
  have f55w := f45.same W55
  have f56 := f43.wr W55
  have f57 := f44.other W55 (Or.inr (slot_ne (Or.inr (hw _ (List.mem_of_getElem? (i := 11) rfl))) (Or.inl (hw _ (List.mem_of_getElem? (i := 42) rfl))) (by decide) (t := (.array .long)) (t' := .long) (by decide) (by decide)))
  have f58 := f46.wr W55
  have f59 := f47.wr W55
  have f60 := f48.other W55 (Or.inl ne_to)
  have f61 := f49.other W55 (Or.inl ne_to)
  have f62 := f50.other W55 (Ne.symm ne_oa)
  have f63 := f51.other W55 (Or.inr (slot_ne (Or.inl (hw _ (List.mem_of_getElem? (i := 40) rfl))) (Or.inl (hw _ (List.mem_of_getElem? (i := 42) rfl))) (by decide) (t := .int) (t' := .long) (by decide) (by decide)))
  have f64 := f52.other W55 (Or.inr (slot_ne (Or.inl (hw _ (List.mem_of_getElem? (i := 31) rfl))) (Or.inl (hw _ (List.mem_of_getElem? (i := 42) rfl))) (by decide) (t := .boolean) (t' := .long) (by decide) (by decide)))
  have f65 := f42w.other W55 (Or.inr (slot_ne (Or.inl (hw _ (List.mem_of_getElem? (i := 24) rfl))) (Or.inl (hw _ (List.mem_of_getElem? (i := 42) rfl))) (by decide) (t := .long) (t' := .long) (by decide) (by decide)))
  have Z66 : n0 ≤ h55.size := Nat.le_trans Z53 (Keep.of_wr W55).1
  have K66 := K53.wr W55 (Or.inl (List.mem_of_getElem? (i := 0) rfl))
  have N55 := Fr.snoc X55 N42 gn_o
  refine own_via (U' := T55.setTop (mkF m 52 #[.val (.ref o), .val (.long x1), .second, .val (.long x2), .second, .val (.long x3), .second] [])) (fun t k => st55 t k) ?_
  exact own_ret X55 (v := none) (fun _ => rfl) hlk (fun fs hr => X55.returnOut hx Bd.returns (hb hby d_prog_9_method_5_52) hr) (by rw [e55]; exact ⟨rfl, N55, K66, f56, f57, f65, f64, f63, f55w, f62⟩) (by decide) (by decide)
def Qlr0 (Z : State) (o : Addr) (end_ x1 : Int64) (h0 : Heap) (n0 : Nat) (v : Option Value) (h : Heap) (L : List Loc) : Prop := v = some (.int (0 : Int32)) ∧ Fr n0 L ∧ h = h0
theorem d_prog_9_method_4_0 : decode prog_9_method_4_code 0 = .ok (.aload_n 0, 1) := by decide +kernel
theorem d_prog_9_method_4_1 : decode prog_9_method_4_code 1 = .ok (.getfield 31, 3) := by decide +kernel
theorem d_prog_9_method_4_4 : decode prog_9_method_4_code 4 = .ok (.ifCond .eq 18, 3) := by decide +kernel
theorem d_prog_9_method_4_22 : decode prog_9_method_4_code 22 = .ok (.iconst 0, 1) := by decide +kernel
theorem d_prog_9_method_4_23 : decode prog_9_method_4_code 23 = .ok (.ireturn, 1) := by decide +kernel
theorem ef_rm_Qlr0 (m : MethodId) (x0 : Addr) (x1 : Int64) : entryFrame m #[(.ref x0), (.long x1)] 3 = mkF m 0 #[.val (.ref x0), .val (.long x1), .second] [] := by first | (simp [entryFrame, mkF, argsToLocals, Value.category]; done) | rfl
set_option maxRecDepth 65536 in
set_option maxHeartbeats 40000000 in
theorem rm_Qlr0 (l : Launch) (Z : State) (a0 : Array Value) (hw : ∀ d ∈ tables_1, d.before a0 Z = true) (ws : List Jvm.Cond) (o : Addr) (end_ x1 : Int64) (h0 : Heap) (n0 : Nat) (Z0 : n0 ≤ h0.size) (Fa : Fld Z h0 o "com/example/assignor/assignor/client/RequestTimeouts" "answered" "Z" (.int (0 : Int32))) (Fe : Fld Z h0 o "com/example/assignor/assignor/client/RequestTimeouts" "leaseEndNanos" "J" (.long end_)) :
    MetFree l (⟨"com/example/assignor/assignor/client/RequestTimeouts", "leaseRanOut", "(J)Z"⟩ : MethodName) (head1 (Jvm.Cond.code (⟨"com/example/assignor/assignor/client/RequestTimeouts", "leaseRanOut", "(J)Z"⟩ : MethodName) prog_9_method_4_code 3 (some .boolean) :: ws) ({ frames := 0, cells := 0, slots := 0, locals := 0 } : Room)) (fun aa_ UU_ => aa_ = #[(.ref o), (.long x1)] ∧ Z.Warmed39 UU_.vm ∧ UU_.heap = h0) (fun _ _ _ _ _ => True) (fun _ UU_ oo_ VV_ => ∃ vv_ LL_, oo_ = .returned vv_ ∧ Qlr0 Z o end_ x1 h0 n0 vv_ VV_.heap LL_ ∧ FrameEnd UU_ oo_ VV_ LL_ ({ frames := 0, cells := 0, slots := 0, locals := 0 } : Room).cells ({ frames := 0, cells := 0, slots := 0, locals := 0 } : Room).slots) := by
  refine MetFree.of_bodySF (plainFor_of_name pn_com_example_assignor_assignor_client_RequestTimeouts) hisR ?_
  intro p e s m args below meth c s₁ Bd hml0 hP hK
  obtain ⟨rfl, hZ, hh⟩ := hP
  have hx := Bd.exec
  have hby := Bd.bytes
  have hml : c.maxLocals = 3 := hml0
  have hown : s.vm.findClass "com/example/assignor/assignor/client/RequestTimeouts" = some m.cls := findClass_of_methodNamed Bd.named
  have hnm := (name_of_methodNamed Bd.named Bd.method).1
  have hlk : meth.locks = false := Bd.notSynchronized
  have X0 : Stand p l e ({ frames := 0, cells := 0, slots := 0, locals := 0 } : Room) s m #[(.ref o), (.long x1)] below meth c s₁ [] 0 0 := Stand.of_body Bd
  have e0 : s₁.heap = h0 := by rw [← hh, Bd.state]; rfl
  have N0 := Fr.nil n0
  have K0 := Keep.refl h0 []
  show own_G p e below s (Qlr0 Z o end_ x1 h0 n0) _ _ (s₁.setTop (entryFrame m #[(.ref o), (.long x1)] 3))
  rw [ef_rm_Qlr0 m o x1]
  refine own_via (U' := s₁.setTop (mkF m 1 #[.val (.ref o), .val (.long x1), .second] [(.ref o)])) (fun t k => XS.aloadN X0.here hx rfl (hb hby d_prog_9_method_4_0) rfl rfl k) ?_
  obtain ⟨T1, X1, e1, st1⟩ := getF (host := "") X0 hx hZ hown (Or.inl (hw _ (List.mem_of_getElem? (i := 30) rfl))) Via.refl e0 Fa (g := (mkF m 1 #[.val (.ref o), .val (.long x1), .second] [(.ref o)])) rfl rfl (hb hby d_prog_9_method_4_1)
  refine own_via (U' := T1.setTop (mkF m 4 #[.val (.ref o), .val (.long x1), .second] [(.int (0 : Int32))])) (fun t k => st1 t k) ?_
  refine own_via (U' := T1.setTop (mkF m 22 #[.val (.ref o), .val (.long x1), .second] [])) (fun t k => XS.ifYes X1.here hx rfl (pc0 := 4) (pc' := 22) rfl (hb hby d_prog_9_method_4_4) rfl ((if0 _ _).trans (teq (by decide : ((0 : Int32) = (0 : Int32)))).1) (by decide) (by decide) k) ?_
  refine own_via (U' := T1.setTop (mkF m 23 #[.val (.ref o), .val (.long x1), .second] [(.int (0 : Int32))])) (fun t k => XS.iconst X1.here hx rfl (hb hby d_prog_9_method_4_22) k) ?_
  exact own_ret X1 (v := some (.int (0 : Int32))) (fun h => by rw [Bd.returns] at h; cases h) hlk (fun fs hr => retN X1 hx (t := .boolean) Bd.returns (by simp) (hb hby d_prog_9_method_4_23) hr) (by rw [e1]; exact ⟨rfl, N0, rfl⟩) (by decide) (by decide)
def Qlr1 (Z : State) (o : Addr) (end_ x1 : Int64) (h0 : Heap) (n0 : Nat) (v : Option Value) (h : Heap) (L : List Loc) : Prop := v = some (.int (if (x1 - end_) < (0 : Int64) then (0 : Int32) else (1 : Int32))) ∧ Fr n0 L ∧ h = h0
theorem d_prog_9_method_4_7 : decode prog_9_method_4_code 7 = .ok (.lload_n 1, 1) := by decide +kernel
theorem d_prog_9_method_4_8 : decode prog_9_method_4_code 8 = .ok (.aload_n 0, 1) := by decide +kernel
theorem d_prog_9_method_4_9 : decode prog_9_method_4_code 9 = .ok (.getfield 34, 3) := by decide +kernel
theorem d_prog_9_method_4_12 : decode prog_9_method_4_code 12 = .ok (.lsub, 1) := by decide +kernel
theorem d_prog_9_method_4_13 : decode prog_9_method_4_code 13 = .ok (.lconst 0, 1) := by decide +kernel
theorem d_prog_9_method_4_14 : decode prog_9_method_4_code 14 = .ok (.lcmp, 1) := by decide +kernel
theorem d_prog_9_method_4_15 : decode prog_9_method_4_code 15 = .ok (.ifCond .lt 7, 3) := by decide +kernel
theorem d_prog_9_method_4_18 : decode prog_9_method_4_code 18 = .ok (.iconst 1, 1) := by decide +kernel
theorem d_prog_9_method_4_19 : decode prog_9_method_4_code 19 = .ok (.goto 4, 3) := by decide +kernel
theorem ef_rm_Qlr1 (m : MethodId) (x0 : Addr) (x1 : Int64) : entryFrame m #[(.ref x0), (.long x1)] 3 = mkF m 0 #[.val (.ref x0), .val (.long x1), .second] [] := by first | (simp [entryFrame, mkF, argsToLocals, Value.category]; done) | rfl
set_option maxRecDepth 65536 in
set_option maxHeartbeats 40000000 in
theorem rm_Qlr1 (l : Launch) (Z : State) (a0 : Array Value) (hw : ∀ d ∈ tables_1, d.before a0 Z = true) (ws : List Jvm.Cond) (o : Addr) (end_ x1 : Int64) (h0 : Heap) (n0 : Nat) (Z0 : n0 ≤ h0.size) (Fa : Fld Z h0 o "com/example/assignor/assignor/client/RequestTimeouts" "answered" "Z" (.int (1 : Int32))) (Fe : Fld Z h0 o "com/example/assignor/assignor/client/RequestTimeouts" "leaseEndNanos" "J" (.long end_)) :
    MetFree l (⟨"com/example/assignor/assignor/client/RequestTimeouts", "leaseRanOut", "(J)Z"⟩ : MethodName) (head1 (Jvm.Cond.code (⟨"com/example/assignor/assignor/client/RequestTimeouts", "leaseRanOut", "(J)Z"⟩ : MethodName) prog_9_method_4_code 3 (some .boolean) :: ws) ({ frames := 0, cells := 0, slots := 0, locals := 0 } : Room)) (fun aa_ UU_ => aa_ = #[(.ref o), (.long x1)] ∧ Z.Warmed39 UU_.vm ∧ UU_.heap = h0) (fun _ _ _ _ _ => True) (fun _ UU_ oo_ VV_ => ∃ vv_ LL_, oo_ = .returned vv_ ∧ Qlr1 Z o end_ x1 h0 n0 vv_ VV_.heap LL_ ∧ FrameEnd UU_ oo_ VV_ LL_ ({ frames := 0, cells := 0, slots := 0, locals := 0 } : Room).cells ({ frames := 0, cells := 0, slots := 0, locals := 0 } : Room).slots) := by
  refine MetFree.of_bodySF (plainFor_of_name pn_com_example_assignor_assignor_client_RequestTimeouts) hisR ?_
  intro p e s m args below meth c s₁ Bd hml0 hP hK
  obtain ⟨rfl, hZ, hh⟩ := hP
  have hx := Bd.exec
  have hby := Bd.bytes
  have hml : c.maxLocals = 3 := hml0
  have hown : s.vm.findClass "com/example/assignor/assignor/client/RequestTimeouts" = some m.cls := findClass_of_methodNamed Bd.named
  have hnm := (name_of_methodNamed Bd.named Bd.method).1
  have hlk : meth.locks = false := Bd.notSynchronized
  have X0 : Stand p l e ({ frames := 0, cells := 0, slots := 0, locals := 0 } : Room) s m #[(.ref o), (.long x1)] below meth c s₁ [] 0 0 := Stand.of_body Bd
  have e0 : s₁.heap = h0 := by rw [← hh, Bd.state]; rfl
  have N0 := Fr.nil n0
  have K0 := Keep.refl h0 []
  show own_G p e below s (Qlr1 Z o end_ x1 h0 n0) _ _ (s₁.setTop (entryFrame m #[(.ref o), (.long x1)] 3))
  rw [ef_rm_Qlr1 m o x1]
  refine own_via (U' := s₁.setTop (mkF m 1 #[.val (.ref o), .val (.long x1), .second] [(.ref o)])) (fun t k => XS.aloadN X0.here hx rfl (hb hby d_prog_9_method_4_0) rfl rfl k) ?_
  obtain ⟨T1, X1, e1, st1⟩ := getF (host := "") X0 hx hZ hown (Or.inl (hw _ (List.mem_of_getElem? (i := 30) rfl))) Via.refl e0 Fa (g := (mkF m 1 #[.val (.ref o), .val (.long x1), .second] [(.ref o)])) rfl rfl (hb hby d_prog_9_method_4_1)
  refine own_via (U' := T1.setTop (mkF m 4 #[.val (.ref o), .val (.long x1), .second] [(.int (1 : Int32))])) (fun t k => st1 t k) ?_
  refine own_via (U' := T1.setTop (mkF m 7 #[.val (.ref o), .val (.long x1), .second] [])) (fun t k => XS.ifNo X1.here hx rfl (hb hby d_prog_9_method_4_4) rfl ((if0 _ _).trans (feq (by decide : ¬ ((1 : Int32) = (0 : Int32)))).1) k) ?_
  refine own_via (U' := T1.setTop (mkF m 8 #[.val (.ref o), .val (.long x1), .second] [(.long x1)])) (fun t k => XS.lloadN X1.here hx rfl (hb hby d_prog_9_method_4_7) rfl k) ?_
  refine own_via (U' := T1.setTop (mkF m 9 #[.val (.ref o), .val (.long x1), .second] [(.ref o), (.long x1)])) (fun t k => XS.aloadN X1.here hx rfl (hb hby d_prog_9_method_4_8) rfl rfl k) ?_
  obtain ⟨T2, X2, e2, st2⟩ := getF (host := "") X1 hx hZ hown (Or.inl (hw _ (List.mem_of_getElem? (i := 41) rfl))) Via.refl e1 Fe (g := (mkF m 9 #[.val (.ref o), .val (.long x1), .second] [(.ref o), (.long x1)])) rfl rfl (hb hby d_prog_9_method_4_9)
  refine own_via (U' := T2.setTop (mkF m 12 #[.val (.ref o), .val (.long x1), .second] [(.long end_), (.long x1)])) (fun t k => st2 t k) ?_
  refine own_via (U' := T2.setTop (mkF m 13 #[.val (.ref o), .val (.long x1), .second] [(.long (x1 - end_))])) (fun t k => XS.lsub X2.here hx rfl (hb hby d_prog_9_method_4_12) rfl k) ?_
  refine own_via (U' := T2.setTop (mkF m 14 #[.val (.ref o), .val (.long x1), .second] [(.long (0 : Int64)), (.long (x1 - end_))])) (fun t k => XS.lconst X2.here hx rfl (hb hby d_prog_9_method_4_13) k) ?_
  refine own_via (U' := T2.setTop (mkF m 15 #[.val (.ref o), .val (.long x1), .second] [(.int (lcmpW (x1 - end_) (0 : Int64)))])) (fun t k => XS.lcmp X2.here hx rfl (hb hby d_prog_9_method_4_14) rfl k) ?_
  by_cases hc3 : (x1 - end_) < (0 : Int64)
  case pos =>
    refine own_via (U' := T2.setTop (mkF m 22 #[.val (.ref o), .val (.long x1), .second] [])) (fun t k => XS.ifYes X2.here hx rfl (pc0 := 15) (pc' := 22) rfl (hb hby d_prog_9_method_4_15) rfl (own_jlt hc3).1 (by decide) (by decide) k) ?_
    refine own_via (U' := T2.setTop (mkF m 23 #[.val (.ref o), .val (.long x1), .second] [(.int (0 : Int32))])) (fun t k => XS.iconst X2.here hx rfl (hb hby d_prog_9_method_4_22) k) ?_
    exact own_ret X2 (v := some (.int (0 : Int32))) (fun h => by rw [Bd.returns] at h; cases h) hlk (fun fs hr => retN X2 hx (t := .boolean) Bd.returns (by simp) (hb hby d_prog_9_method_4_23) hr) (by rw [e2]; exact ⟨by first | rfl | (simp only [if_pos hc3]), N0, rfl⟩) (by decide) (by decide)
  case neg =>
    refine own_via (U' := T2.setTop (mkF m 18 #[.val (.ref o), .val (.long x1), .second] [])) (fun t k => XS.ifNo X2.here hx rfl (hb hby d_prog_9_method_4_15) rfl (own_jnlt hc3).1 k) ?_
    refine own_via (U' := T2.setTop (mkF m 19 #[.val (.ref o), .val (.long x1), .second] [(.int (1 : Int32))])) (fun t k => XS.iconst X2.here hx rfl (hb hby d_prog_9_method_4_18) k) ?_
    refine own_via (U' := T2.setTop (mkF m 23 #[.val (.ref o), .val (.long x1), .second] [(.int (1 : Int32))])) (fun t k => XS.goto X2.here hx rfl (pc0 := 19) (pc' := 23) rfl (hb hby d_prog_9_method_4_19) (by decide) (by decide) k) ?_
    exact own_ret X2 (v := some (.int (1 : Int32))) (fun h => by rw [Bd.returns] at h; cases h) hlk (fun fs hr => retN X2 hx (t := .boolean) Bd.returns (by simp) (hb hby d_prog_9_method_4_23) hr) (by rw [e2]; exact ⟨by first | rfl | (simp only [if_neg hc3]), N0, rfl⟩) (by decide) (by decide)
def Q0 (Z : State) (x1 x2 x3 x4 x5 : Int64) (x6 : Int32) (tu : Addr) (h0 : Heap) (n0 : Nat) (v : Option Value) (h : Heap) (L : List Loc) : Prop := v = some (.int 1) ∧ Fr n0 L
theorem pd_J__V : parseMethodDescriptor "(J)V" = some ⟨[.long], none⟩ := by decide +kernel
theorem pd_J__Z : parseMethodDescriptor "(J)Z" = some ⟨[.long], some .boolean⟩ := by decide +kernel
theorem pd_JJJ__V : parseMethodDescriptor "(JJJ)V" = some ⟨[.long, .long, .long], none⟩ := by decide +kernel
theorem ef_rm_Q0 (m : MethodId) (x0 : Int64) (x1 : Int64) (x2 : Int64) (x3 : Int64) (x4 : Int64) (x5 : Int32) : entryFrame m #[(.long x0), (.long x1), (.long x2), (.long x3), (.long x4), (.int x5)] maxLocals = mkF m 0 #[.val (.long x0), .second, .val (.long x1), .second, .val (.long x2), .second, .val (.long x3), .second, .val (.long x4), .second, .val (.int x5), .unset, .unset, .unset, .unset, .unset, .unset, .unset] [] := by first | (simp [entryFrame, mkF, argsToLocals, Value.category, maxLocals]; done) | rfl
theorem pn_com_example_assignor_assignor_client_RequestTimeoutsLeaseRanOutPinLaw : plainName "com/example/assignor/assignor/client/RequestTimeoutsLeaseRanOutPinLaw" = true := by first | (simp [plainName, overriddenIn]; done) | decide +kernel
set_option maxRecDepth 65536 in
set_option maxHeartbeats 40000000 in
theorem rm_Q0 (l : Launch) (Z : State) (a0 : Array Value) (hw : ∀ d ∈ tables_1, d.before a0 Z = true) (ws : List Jvm.Cond) (x1 x2 x3 x4 x5 : Int64) (x6 : Int32) (tu : Addr) (h0 : Heap) (n0 : Nat) (Z0 : n0 ≤ h0.size) (Sm : Sta Z h0 "java/util/concurrent/TimeUnit" "MILLISECONDS" "Ljava/util/concurrent/TimeUnit;" (.ref tu)) (Et : Exa Z h0 tu "java/util/concurrent/TimeUnit") (Fs : Fld Z h0 tu "java/util/concurrent/TimeUnit" "scale" "J" (.long (1000000 : Int64))) (Fm : Fld Z h0 tu "java/util/concurrent/TimeUnit" "maxNanos" "J" (.long (9223372036854 : Int64))) :
    MetFree l x (head1 (Jvm.Cond.code x code maxLocals ret :: ws) room_1) (fun aa_ UU_ => aa_ = #[(.long x1), (.long x2), (.long x3), (.long x4), (.long x5), (.int x6)] ∧ Z.Warmed39 UU_.vm ∧ UU_.heap = h0) (fun _ _ _ _ _ => True) (fun _ UU_ oo_ VV_ => ∃ vv_ LL_, oo_ = .returned vv_ ∧ Q0 Z x1 x2 x3 x4 x5 x6 tu h0 n0 vv_ VV_.heap LL_ ∧ FrameEnd UU_ oo_ VV_ LL_ room_1.cells room_1.slots) := by
  refine MetFree.of_bodySF (plainFor_of_name pn_com_example_assignor_assignor_client_RequestTimeoutsLeaseRanOutPinLaw) hisR ?_
  intro p e s m args below meth c s₁ Bd hml0 hP hK
  obtain ⟨rfl, hZ, hh⟩ := hP
  have hx := Bd.exec
  have hby := Bd.bytes
  have hml : c.maxLocals = 18 := hml0
  have hown : s.vm.findClass "com/example/assignor/assignor/client/RequestTimeoutsLeaseRanOutPinLaw" = some m.cls := findClass_of_methodNamed Bd.named
  have hnm := (name_of_methodNamed Bd.named Bd.method).1
  have hlk : meth.locks = false := Bd.notSynchronized
  have X0 : Stand p l e room_1 s m #[(.long x1), (.long x2), (.long x3), (.long x4), (.long x5), (.int x6)] below meth c s₁ [] 0 0 := Stand.of_body Bd
  have e0 : s₁.heap = h0 := by rw [← hh, Bd.state]; rfl
  have N0 := Fr.nil n0
  have K0 := Keep.refl h0 []
  show own_G p e below s (Q0 Z x1 x2 x3 x4 x5 x6 tu h0 n0) _ _ (s₁.setTop (entryFrame m #[(.long x1), (.long x2), (.long x3), (.long x4), (.long x5), (.int x6)] maxLocals))
  rw [ef_rm_Q0 m x1 x2 x3 x4 x5 x6]
  obtain ⟨T1, h1, X1, e1, E1, A1, D1, -, st1⟩ := newO X0 hx hZ hown (hw _ (List.mem_of_getElem? (i := 0) rfl)) (hw _ (List.mem_of_getElem? (i := 1) rfl)) (hw _ (List.mem_of_getElem? (i := 2) rfl)) e0 (g := (mkF m 0 #[.val (.long x1), .second, .val (.long x2), .second, .val (.long x3), .second, .val (.long x4), .second, .val (.long x5), .second, .val (.int x6), .unset, .unset, .unset, .unset, .unset, .unset, .unset] [])) rfl (hb hby at_0) (by decide) (by decide)
  obtain ⟨b1, g1⟩ : ∃ z, z = h0.size := ⟨_, rfl⟩
  rw [← g1] at A1 D1 st1
  have ne2 : tu ≠ b1 := Nat.ne_of_lt (Nat.lt_of_lt_of_le Et.lt (Nat.le_of_eq g1.symm))
  have gn_b1 : n0 ≤ b1 := Nat.le_trans Z0 (Nat.le_of_eq g1.symm)
  have sz_b1 : h0.size ≤ b1 := Nat.le_trans K0.1 (Nat.le_of_eq g1.symm)
  have f3 := Sm.ext E1
  have f4 := Et.ext E1
  have f5 := Fs.ext E1
  have f6 := Fm.ext E1
  have f7 : Fld Z h1 b1 "com/example/assignor/assignor/client/RequestTimeouts" "roundTrips" "[J" .null := D1 (Or.inr (hw _ (List.mem_of_getElem? (i := 11) rfl))) (ty := (.array .long)) (by decide)
  have f8 : Fld Z h1 b1 "com/example/assignor/assignor/client/RequestTimeouts" "leaseNanos" "J" (.long (0 : Int64)) := D1 (Or.inl (hw _ (List.mem_of_getElem? (i := 24) rfl))) (ty := .long) (by decide)
  have f9 : Fld Z h1 b1 "com/example/assignor/assignor/client/RequestTimeouts" "answered" "Z" (.int (0 : Int32)) := D1 (Or.inl (hw _ (List.mem_of_getElem? (i := 31) rfl))) (ty := .boolean) (by decide)
  have f10 : Fld Z h1 b1 "com/example/assignor/assignor/client/RequestTimeouts" "nextRoundTrip" "I" (.int (0 : Int32)) := D1 (Or.inl (hw _ (List.mem_of_getElem? (i := 40) rfl))) (ty := .int) (by decide)
  have f11 : Fld Z h1 b1 "com/example/assignor/assignor/client/RequestTimeouts" "leaseEndNanos" "J" (.long (0 : Int64)) := D1 (Or.inl (hw _ (List.mem_of_getElem? (i := 42) rfl))) (ty := .long) (by decide)
  have Z12 : n0 ≤ h1.size := Nat.le_trans Z0 E1.1
  have K12 := K0.ext E1
  refine own_via (U' := T1.setTop (mkF m 3 #[.val (.long x1), .second, .val (.long x2), .second, .val (.long x3), .second, .val (.long x4), .second, .val (.long x5), .second, .val (.int x6), .unset, .unset, .unset, .unset, .unset, .unset, .unset] [(.ref b1)])) (fun t k => st1 t k) ?_
  refine own_via (U' := T1.setTop (mkF m 4 #[.val (.long x1), .second, .val (.long x2), .second, .val (.long x3), .second, .val (.long x4), .second, .val (.long x5), .second, .val (.int x6), .unset, .unset, .unset, .unset, .unset, .unset, .unset] [(.ref b1), (.ref b1)])) (fun t k => XS.dup X1.here hx rfl (hb hby at_3) rfl rfl k) ?_
  refine own_via (U' := T1.setTop (mkF m 5 #[.val (.long x1), .second, .val (.long x2), .second, .val (.long x3), .second, .val (.long x4), .second, .val (.long x5), .second, .val (.int x6), .unset, .unset, .unset, .unset, .unset, .unset, .unset] [(.long x1), (.ref b1), (.ref b1)])) (fun t k => XS.lloadN X1.here hx rfl (hb hby at_4) rfl k) ?_
  obtain ⟨_, T13, L13, X13, hQ13, st13⟩ := own_callI X1 hx hZ (y := (⟨"com/example/assignor/assignor/client/RequestTimeouts", "<init>", "(J)V"⟩ : MethodName)) rfl (W := 1) hown (hw _ (List.mem_of_getElem? (i := 3) rfl)) (hw _ (List.mem_of_getElem? (i := 4) rfl)) (hw _ (List.mem_of_getElem? (i := 2) rfl)) (hw _ (List.mem_of_getElem? (i := 5) rfl)) (by decide) (rm_Qrt l Z a0 hw [] b1 x1 tu h1 n0 Z12 A1 f7 f8 f9 f10 f11 gn_b1 f3 f4 f5 f6 ne2) (by decide) (by decide) e1 (a := b1) (g := (mkF m 5 #[.val (.long x1), .second, .val (.long x2), .second, .val (.long x3), .second, .val (.long x4), .second, .val (.long x5), .second, .val (.int x6), .unset, .unset, .unset, .unset, .unset, .unset, .unset] [(.long x1), (.ref b1), (.ref b1)])) rfl (by rw [hml]; rfl) (argsL := [(.long x1)]) (rest := [(.ref b1)]) rfl (lenOf pd_J__V rfl) rfl (by show 2 * 0 + _ ≤ _; exact Nat.le_of_eq rfl) (hb hby at_5) (by decide) (by decide)
  obtain ⟨ar13, kk13, rfl, N13q, K13q, gn_ar13, sq_ar13, E13q, F13q0, F13q1, F13q2, F13q3, F13q4, V13q⟩ := hQ13
  have N13 := Fr.app N0 N13q
  have ne14 : b1 ≠ ar13 := Nat.ne_of_lt (Nat.lt_of_lt_of_le A1.lt sq_ar13)
  have ne15 : tu ≠ ar13 := Nat.ne_of_lt (Nat.lt_of_lt_of_le f4.lt sq_ar13)
  have sz_ar13 : h0.size ≤ ar13 := Nat.le_trans K12.1 sq_ar13
  have f16 := own_sta_keep f3 K13q (allS (own_exa_ns A1) all0)
  have f17 := f4.keep K13q
  have f18 := f5.keep K13q (ninS ne2 nin0)
  have f19 := f6.keep K13q (ninS ne2 nin0)
  have f20 := A1.keep K13q
  have Z21 : n0 ≤ T13.heap.size := Nat.le_trans Z12 K13q.1
  have K21 := K12.trans K13q (allS (Or.inr sz_b1) all0)
  refine own_via (U' := T13.setTop (mkF m 8 #[.val (.long x1), .second, .val (.long x2), .second, .val (.long x3), .second, .val (.long x4), .second, .val (.long x5), .second, .val (.int x6), .unset, .unset, .unset, .unset, .unset, .unset, .unset] [(.ref b1)])) (fun t k => st13 t k) ?_
  refine own_via (U' := T13.setTop (mkF m 10 #[.val (.long x1), .second, .val (.long x2), .second, .val (.long x3), .second, .val (.long x4), .second, .val (.long x5), .second, .val (.int x6), .val (.ref b1), .unset, .unset, .unset, .unset, .unset, .unset] [])) (fun t k => XS.astore X13.here hx rfl (hb hby at_8) rfl rfl (l' := #[.val (.long x1), .second, .val (.long x2), .second, .val (.long x3), .second, .val (.long x4), .second, .val (.long x5), .second, .val (.int x6), .val (.ref b1), .unset, .unset, .unset, .unset, .unset, .unset]) rfl k) ?_
  refine own_via (U' := T13.setTop (mkF m 12 #[.val (.long x1), .second, .val (.long x2), .second, .val (.long x3), .second, .val (.long x4), .second, .val (.long x5), .second, .val (.int x6), .val (.ref b1), .unset, .unset, .unset, .unset, .unset, .unset] [(.int x6)])) (fun t k => XS.iload X13.here hx rfl (hb hby at_10) rfl k) ?_
  refine own_via (U' := T13.setTop (mkF m 13 #[.val (.long x1), .second, .val (.long x2), .second, .val (.long x3), .second, .val (.long x4), .second, .val (.long x5), .second, .val (.int x6), .val (.ref b1), .unset, .unset, .unset, .unset, .unset, .unset] [(.int (1 : Int32)), (.int x6)])) (fun t k => XS.iconst X13.here hx rfl (hb hby at_12) k) ?_
  refine own_via (U' := T13.setTop (mkF m 14 #[.val (.long x1), .second, .val (.long x2), .second, .val (.long x3), .second, .val (.long x4), .second, .val (.long x5), .second, .val (.int x6), .val (.ref b1), .unset, .unset, .unset, .unset, .unset, .unset] [(.int (x6 &&& (1 : Int32)))])) (fun t k => XS.iand X13.here hx rfl (hb hby at_13) rfl k) ?_
  by_cases hc22 : (x6 &&& (1 : Int32)) = (0 : Int32)
  case pos =>
    refine own_via (U' := T13.setTop (mkF m 17 #[.val (.long x1), .second, .val (.long x2), .second, .val (.long x3), .second, .val (.long x4), .second, .val (.long x5), .second, .val (.int x6), .val (.ref b1), .unset, .unset, .unset, .unset, .unset, .unset] [])) (fun t k => XS.ifNo X13.here hx rfl (hb hby at_14) rfl ((if0 _ _).trans (teq hc22).2) k) ?_
    refine own_via (U' := T13.setTop (mkF m 19 #[.val (.long x1), .second, .val (.long x2), .second, .val (.long x3), .second, .val (.long x4), .second, .val (.long x5), .second, .val (.int x6), .val (.ref b1), .unset, .unset, .unset, .unset, .unset, .unset] [(.ref b1)])) (fun t k => XS.aload X13.here hx rfl (hb hby at_17) rfl rfl k) ?_
    refine own_via (U' := T13.setTop (mkF m 21 #[.val (.long x1), .second, .val (.long x2), .second, .val (.long x3), .second, .val (.long x4), .second, .val (.long x5), .second, .val (.int x6), .val (.ref b1), .unset, .unset, .unset, .unset, .unset, .unset] [(.long x5), (.ref b1)])) (fun t k => XS.lload X13.here hx rfl (hb hby at_19) rfl k) ?_
    obtain ⟨_, T23, L23, X23, hQ23, st23⟩ := own_callV X13 hx hZ (y := (⟨"com/example/assignor/assignor/client/RequestTimeouts", "leaseRanOut", "(J)Z"⟩ : MethodName)) (W := 0) (C := "com/example/assignor/assignor/client/RequestTimeouts") hown (hw _ (List.mem_of_getElem? (i := 25) rfl)) (hw _ (List.mem_of_getElem? (i := 26) rfl)) (hw _ (List.mem_of_getElem? (i := 28) rfl)) (hw _ (List.mem_of_getElem? (i := 27) rfl)) (hw _ (List.mem_of_getElem? (i := 2) rfl)) (hw _ (List.mem_of_getElem? (i := 29) rfl)) (by decide) (rm_Qlr0 l Z a0 hw [] b1 (0 : Int64) x5 T13.heap n0 Z21 F13q2 F13q4) (by decide) (by decide) rfl E13q (g := (mkF m 21 #[.val (.long x1), .second, .val (.long x2), .second, .val (.long x3), .second, .val (.long x4), .second, .val (.long x5), .second, .val (.int x6), .val (.ref b1), .unset, .unset, .unset, .unset, .unset, .unset] [(.long x5), (.ref b1)])) rfl (by rw [hml]; rfl) (argsL := [(.long x5)]) (rest := []) rfl (lenOf pd_J__Z rfl) rfl (by show 2 * 0 + _ ≤ _; exact Nat.le_of_eq rfl) (hb hby at_21) (by decide) (by decide)
    obtain ⟨rfl, N23q, e23⟩ := hQ23
    have N23 := Fr.app N13 N23q
    refine own_via (U' := T23.setTop (mkF m 24 #[.val (.long x1), .second, .val (.long x2), .second, .val (.long x3), .second, .val (.long x4), .second, .val (.long x5), .second, .val (.int x6), .val (.ref b1), .unset, .unset, .unset, .unset, .unset, .unset] [(.int (0 : Int32))])) (fun t k => st23 t k) ?_
    refine own_via (U' := T23.setTop (mkF m 27 #[.val (.long x1), .second, .val (.long x2), .second, .val (.long x3), .second, .val (.long x4), .second, .val (.long x5), .second, .val (.int x6), .val (.ref b1), .unset, .unset, .unset, .unset, .unset, .unset] [])) (fun t k => XS.ifNo X23.here hx rfl (hb hby at_24) rfl ((if0 _ _).trans (teq (by decide : ((0 : Int32) = (0 : Int32)))).2) k) ?_
    refine own_via (U' := T23.setTop (mkF m 28 #[.val (.long x1), .second, .val (.long x2), .second, .val (.long x3), .second, .val (.long x4), .second, .val (.long x5), .second, .val (.int x6), .val (.ref b1), .unset, .unset, .unset, .unset, .unset, .unset] [(.int (1 : Int32))])) (fun t k => XS.iconst X23.here hx rfl (hb hby at_27) k) ?_
    refine own_via (U' := T23.setTop (mkF m 32 #[.val (.long x1), .second, .val (.long x2), .second, .val (.long x3), .second, .val (.long x4), .second, .val (.long x5), .second, .val (.int x6), .val (.ref b1), .unset, .unset, .unset, .unset, .unset, .unset] [(.int (1 : Int32))])) (fun t k => XS.goto X23.here hx rfl (pc0 := 28) (pc' := 32) rfl (hb hby at_28) (by decide) (by decide) k) ?_
    exact own_ret X23 (v := some (.int (1 : Int32))) (fun h => by rw [Bd.returns] at h; cases h) hlk (fun fs hr => retN X23 hx (t := .boolean) Bd.returns (by simp) (hb hby at_32) hr) (by rw [e23]; exact ⟨rfl, N23⟩) (by decide) (by decide)
  case neg =>
    refine own_via (U' := T13.setTop (mkF m 33 #[.val (.long x1), .second, .val (.long x2), .second, .val (.long x3), .second, .val (.long x4), .second, .val (.long x5), .second, .val (.int x6), .val (.ref b1), .unset, .unset, .unset, .unset, .unset, .unset] [])) (fun t k => XS.ifYes X13.here hx rfl (pc0 := 14) (pc' := 33) rfl (hb hby at_14) rfl ((if0 _ _).trans (feq hc22).2) (by decide) (by decide) k) ?_
    refine own_via (U' := T13.setTop (mkF m 35 #[.val (.long x1), .second, .val (.long x2), .second, .val (.long x3), .second, .val (.long x4), .second, .val (.long x5), .second, .val (.int x6), .val (.ref b1), .unset, .unset, .unset, .unset, .unset, .unset] [(.int x6)])) (fun t k => XS.iload X13.here hx rfl (hb hby at_33) rfl k) ?_
    refine own_via (U' := T13.setTop (mkF m 36 #[.val (.long x1), .second, .val (.long x2), .second, .val (.long x3), .second, .val (.long x4), .second, .val (.long x5), .second, .val (.int x6), .val (.ref b1), .unset, .unset, .unset, .unset, .unset, .unset] [(.int (2 : Int32)), (.int x6)])) (fun t k => XS.iconst X13.here hx rfl (hb hby at_35) k) ?_
    refine own_via (U' := T13.setTop (mkF m 37 #[.val (.long x1), .second, .val (.long x2), .second, .val (.long x3), .second, .val (.long x4), .second, .val (.long x5), .second, .val (.int x6), .val (.ref b1), .unset, .unset, .unset, .unset, .unset, .unset] [(.int (x6 &&& (2 : Int32)))])) (fun t k => XS.iand X13.here hx rfl (hb hby at_36) rfl k) ?_
    by_cases hc24 : (x6 &&& (2 : Int32)) = (0 : Int32)
    case pos =>
      refine own_via (U' := T13.setTop (mkF m 54 #[.val (.long x1), .second, .val (.long x2), .second, .val (.long x3), .second, .val (.long x4), .second, .val (.long x5), .second, .val (.int x6), .val (.ref b1), .unset, .unset, .unset, .unset, .unset, .unset] [])) (fun t k => XS.ifYes X13.here hx rfl (pc0 := 37) (pc' := 54) rfl (hb hby at_37) rfl ((if0 _ _).trans (teq hc24).1) (by decide) (by decide) k) ?_
      refine own_via (U' := T13.setTop (mkF m 56 #[.val (.long x1), .second, .val (.long x2), .second, .val (.long x3), .second, .val (.long x4), .second, .val (.long x5), .second, .val (.int x6), .val (.ref b1), .unset, .unset, .unset, .unset, .unset, .unset] [(.long x3)])) (fun t k => XS.lload X13.here hx rfl (hb hby at_54) rfl k) ?_
      refine own_via (U' := T13.setTop (mkF m 59 #[.val (.long x1), .second, .val (.long x2), .second, .val (.long x3), .second, .val (.long x4), .second, .val (.long x5), .second, .val (.int x6), .val (.ref b1), .unset, .unset, .unset, .unset, .unset, .unset] [(.long (1099511627775 : Int64)), (.long x3)])) (fun t k => X13.ldc2Long hx hown (mvT hZ (hw _ (List.mem_of_getElem? (i := 33) rfl))) (g := (mkF m 56 #[.val (.long x1), .second, .val (.long x2), .second, .val (.long x3), .second, .val (.long x4), .second, .val (.long x5), .second, .val (.int x6), .val (.ref b1), .unset, .unset, .unset, .unset, .unset, .unset] [(.long x3)])) rfl (hb hby at_56) _ k) ?_
      refine own_via (U' := T13.setTop (mkF m 60 #[.val (.long x1), .second, .val (.long x2), .second, .val (.long x3), .second, .val (.long x4), .second, .val (.long x5), .second, .val (.int x6), .val (.ref b1), .unset, .unset, .unset, .unset, .unset, .unset] [(.long (x3 &&& (1099511627775 : Int64)))])) (fun t k => XS.land X13.here hx rfl (hb hby at_59) rfl k) ?_
      refine own_via (U' := T13.setTop (mkF m 62 #[.val (.long x1), .second, .val (.long x2), .second, .val (.long x3), .second, .val (.long x4), .second, .val (.long x5), .second, .val (.int x6), .val (.ref b1), .val (.long (x3 &&& (1099511627775 : Int64))), .second, .unset, .unset, .unset, .unset] [])) (fun t k => XS.lstore X13.here hx rfl (hb hby at_60) rfl (l' := #[.val (.long x1), .second, .val (.long x2), .second, .val (.long x3), .second, .val (.long x4), .second, .val (.long x5), .second, .val (.int x6), .val (.ref b1), .val (.long (x3 &&& (1099511627775 : Int64))), .second, .unset, .unset, .unset, .unset]) rfl k) ?_
      have hmm : 0 ≤ (x3 &&& (1099511627775 : Int64)).toInt ∧ (x3 &&& (1099511627775 : Int64)).toInt < 1099511627776 := own_m40 _
      generalize (x3 &&& (1099511627775 : Int64)) = mm at hmm ⊢
      refine own_via (U' := T13.setTop (mkF m 64 #[.val (.long x1), .second, .val (.long x2), .second, .val (.long x3), .second, .val (.long x4), .second, .val (.long x5), .second, .val (.int x6), .val (.ref b1), .val (.long mm), .second, .unset, .unset, .unset, .unset] [(.ref b1)])) (fun t k => XS.aload X13.here hx rfl (hb hby at_62) rfl rfl k) ?_
      refine own_via (U' := T13.setTop (mkF m 65 #[.val (.long x1), .second, .val (.long x2), .second, .val (.long x3), .second, .val (.long x4), .second, .val (.long x5), .second, .val (.int x6), .val (.ref b1), .val (.long mm), .second, .unset, .unset, .unset, .unset] [(.long x2), (.ref b1)])) (fun t k => XS.lloadN X13.here hx rfl (hb hby at_64) rfl k) ?_
      refine own_via (U' := T13.setTop (mkF m 67 #[.val (.long x1), .second, .val (.long x2), .second, .val (.long x3), .second, .val (.long x4), .second, .val (.long x5), .second, .val (.int x6), .val (.ref b1), .val (.long mm), .second, .unset, .unset, .unset, .unset] [(.long x5), (.long x2), (.ref b1)])) (fun t k => XS.lload X13.here hx rfl (hb hby at_65) rfl k) ?_
      refine own_via (U' := T13.setTop (mkF m 69 #[.val (.long x1), .second, .val (.long x2), .second, .val (.long x3), .second, .val (.long x4), .second, .val (.long x5), .second, .val (.int x6), .val (.ref b1), .val (.long mm), .second, .unset, .unset, .unset, .unset] [(.long mm), (.long x5), (.long x2), (.ref b1)])) (fun t k => XS.lload X13.here hx rfl (hb hby at_67) rfl k) ?_
      obtain ⟨_, T25, L25, X25, hQ25, st25⟩ := own_callV X13 hx hZ (y := (⟨"com/example/assignor/assignor/client/RequestTimeouts", "answered", "(JJJ)V"⟩ : MethodName)) (W := 0) (C := "com/example/assignor/assignor/client/RequestTimeouts") hown (hw _ (List.mem_of_getElem? (i := 34) rfl)) (hw _ (List.mem_of_getElem? (i := 35) rfl)) (hw _ (List.mem_of_getElem? (i := 37) rfl)) (hw _ (List.mem_of_getElem? (i := 36) rfl)) (hw _ (List.mem_of_getElem? (i := 2) rfl)) (hw _ (List.mem_of_getElem? (i := 38) rfl)) (by decide) (rm_Qan0 l Z a0 hw [] b1 ar13 kk13 (0 : Int64) (0 : Int64) (0 : Int64) (0 : Int64) (0 : Int64) (0 : Int64) (0 : Int64) (0 : Int64) (0 : Int64) (0 : Int64) (if (9223372036854 : Int64) < x1 then (9223372036854775807 : Int64) else (if x1 < (-(9223372036854 : Int64)) then (-9223372036854775808 : Int64) else (x1 * (1000000 : Int64)))) (0 : Int64) (0 : Int32) x2 x5 mm tu T13.heap n0 Z21 E13q F13q0 F13q1 F13q2 F13q3 F13q4 gn_b1 gn_ar13 V13q f16 f17 f18 f19 ne2 ne15 ne14) (by decide) (by decide) rfl E13q (g := (mkF m 69 #[.val (.long x1), .second, .val (.long x2), .second, .val (.long x3), .second, .val (.long x4), .second, .val (.long x5), .second, .val (.int x6), .val (.ref b1), .val (.long mm), .second, .unset, .unset, .unset, .unset] [(.long mm), (.long x5), (.long x2), (.ref b1)])) rfl (by rw [hml]; rfl) (argsL := [(.long x2), (.long x5), (.long mm)]) (rest := []) rfl (lenOf pd_JJJ__V rfl) rfl (by show 2 * 0 + _ ≤ _; exact Nat.le_of_eq rfl) (hb hby at_69) (by decide) (by decide)
      obtain ⟨rfl, N25q, K25q, E25q, F25q0, F25q1, F25q2, F25q3, F25q4, V25q⟩ := hQ25
      have N25 := Fr.app N13 N25q
      have f26 := own_sta_keep f16 K25q (allS (own_exa_ns E13q) (allS (own_arv_ns V13q) all0))
      have f27 := f17.keep K25q
      have f28 := f18.keep K25q (ninS ne2 (ninS ne15 nin0))
      have f29 := f19.keep K25q (ninS ne2 (ninS ne15 nin0))
      have f30 := E13q.keep K25q
      have Z31 : n0 ≤ T25.heap.size := Nat.le_trans Z21 K25q.1
      have K31 := K21.trans K25q (allS (Or.inr sz_b1) (allS (Or.inr sz_ar13) all0))
      rw [own_tn mm hmm] at F25q4
      refine own_via (U' := T25.setTop (mkF m 72 #[.val (.long x1), .second, .val (.long x2), .second, .val (.long x3), .second, .val (.long x4), .second, .val (.long x5), .second, .val (.int x6), .val (.ref b1), .val (.long mm), .second, .unset, .unset, .unset, .unset] [])) (fun t k => st25 t k) ?_
      refine own_via (U' := T25.setTop (mkF m 73 #[.val (.long x1), .second, .val (.long x2), .second, .val (.long x3), .second, .val (.long x4), .second, .val (.long x5), .second, .val (.int x6), .val (.ref b1), .val (.long mm), .second, .unset, .unset, .unset, .unset] [(.long x2)])) (fun t k => XS.lloadN X25.here hx rfl (hb hby at_72) rfl k) ?_
      refine own_via (U' := T25.setTop (mkF m 75 #[.val (.long x1), .second, .val (.long x2), .second, .val (.long x3), .second, .val (.long x4), .second, .val (.long x5), .second, .val (.int x6), .val (.ref b1), .val (.long mm), .second, .unset, .unset, .unset, .unset] [(.long mm), (.long x2)])) (fun t k => XS.lload X25.here hx rfl (hb hby at_73) rfl k) ?_
      refine own_via (U' := T25.setTop (mkF m 78 #[.val (.long x1), .second, .val (.long x2), .second, .val (.long x3), .second, .val (.long x4), .second, .val (.long x5), .second, .val (.int x6), .val (.ref b1), .val (.long mm), .second, .unset, .unset, .unset, .unset] [(.long (1000000 : Int64)), (.long mm), (.long x2)])) (fun t k => X25.ldc2Long hx hown (mvT hZ (hw _ (List.mem_of_getElem? (i := 43) rfl))) (g := (mkF m 75 #[.val (.long x1), .second, .val (.long x2), .second, .val (.long x3), .second, .val (.long x4), .second, .val (.long x5), .second, .val (.int x6), .val (.ref b1), .val (.long mm), .second, .unset, .unset, .unset, .unset] [(.long mm), (.long x2)])) rfl (hb hby at_75) _ k) ?_
      refine own_via (U' := T25.setTop (mkF m 79 #[.val (.long x1), .second, .val (.long x2), .second, .val (.long x3), .second, .val (.long x4), .second, .val (.long x5), .second, .val (.int x6), .val (.ref b1), .val (.long mm), .second, .unset, .unset, .unset, .unset] [(.long (mm * (1000000 : Int64))), (.long x2)])) (fun t k => XS.lmul X25.here hx rfl (hb hby at_78) rfl k) ?_
      refine own_via (U' := T25.setTop (mkF m 80 #[.val (.long x1), .second, .val (.long x2), .second, .val (.long x3), .second, .val (.long x4), .second, .val (.long x5), .second, .val (.int x6), .val (.ref b1), .val (.long mm), .second, .unset, .unset, .unset, .unset] [(.long (x2 + (mm * (1000000 : Int64))))])) (fun t k => XS.ladd X25.here hx rfl (hb hby at_79) rfl k) ?_
      refine own_via (U' := T25.setTop (mkF m 82 #[.val (.long x1), .second, .val (.long x2), .second, .val (.long x3), .second, .val (.long x4), .second, .val (.long x5), .second, .val (.int x6), .val (.ref b1), .val (.long mm), .second, .val (.long (x2 + (mm * (1000000 : Int64)))), .second, .unset, .unset] [])) (fun t k => XS.lstore X25.here hx rfl (hb hby at_80) rfl (l' := #[.val (.long x1), .second, .val (.long x2), .second, .val (.long x3), .second, .val (.long x4), .second, .val (.long x5), .second, .val (.int x6), .val (.ref b1), .val (.long mm), .second, .val (.long (x2 + (mm * (1000000 : Int64)))), .second, .unset, .unset]) rfl k) ?_
      refine own_via (U' := T25.setTop (mkF m 84 #[.val (.long x1), .second, .val (.long x2), .second, .val (.long x3), .second, .val (.long x4), .second, .val (.long x5), .second, .val (.int x6), .val (.ref b1), .val (.long mm), .second, .val (.long (x2 + (mm * (1000000 : Int64)))), .second, .unset, .unset] [(.long (x2 + (mm * (1000000 : Int64))))])) (fun t k => XS.lload X25.here hx rfl (hb hby at_82) rfl k) ?_
      refine own_via (U' := T25.setTop (mkF m 86 #[.val (.long x1), .second, .val (.long x2), .second, .val (.long x3), .second, .val (.long x4), .second, .val (.long x5), .second, .val (.int x6), .val (.ref b1), .val (.long mm), .second, .val (.long (x2 + (mm * (1000000 : Int64)))), .second, .unset, .unset] [(.long x4), (.long (x2 + (mm * (1000000 : Int64))))])) (fun t k => XS.lload X25.here hx rfl (hb hby at_84) rfl k) ?_
      refine own_via (U' := T25.setTop (mkF m 87 #[.val (.long x1), .second, .val (.long x2), .second, .val (.long x3), .second, .val (.long x4), .second, .val (.long x5), .second, .val (.int x6), .val (.ref b1), .val (.long mm), .second, .val (.long (x2 + (mm * (1000000 : Int64)))), .second, .unset, .unset] [(.long ((x2 + (mm * (1000000 : Int64))) + x4))])) (fun t k => XS.ladd X25.here hx rfl (hb hby at_86) rfl k) ?_
      refine own_via (U' := T25.setTop (mkF m 89 #[.val (.long x1), .second, .val (.long x2), .second, .val (.long x3), .second, .val (.long x4), .second, .val (.long x5), .second, .val (.int x6), .val (.ref b1), .val (.long mm), .second, .val (.long (x2 + (mm * (1000000 : Int64)))), .second, .val (.long ((x2 + (mm * (1000000 : Int64))) + x4)), .second] [])) (fun t k => XS.lstore X25.here hx rfl (hb hby at_87) rfl (l' := #[.val (.long x1), .second, .val (.long x2), .second, .val (.long x3), .second, .val (.long x4), .second, .val (.long x5), .second, .val (.int x6), .val (.ref b1), .val (.long mm), .second, .val (.long (x2 + (mm * (1000000 : Int64)))), .second, .val (.long ((x2 + (mm * (1000000 : Int64))) + x4)), .second]) rfl k) ?_
      refine own_via (U' := T25.setTop (mkF m 91 #[.val (.long x1), .second, .val (.long x2), .second, .val (.long x3), .second, .val (.long x4), .second, .val (.long x5), .second, .val (.int x6), .val (.ref b1), .val (.long mm), .second, .val (.long (x2 + (mm * (1000000 : Int64)))), .second, .val (.long ((x2 + (mm * (1000000 : Int64))) + x4)), .second] [(.ref b1)])) (fun t k => XS.aload X25.here hx rfl (hb hby at_89) rfl rfl k) ?_
      refine own_via (U' := T25.setTop (mkF m 93 #[.val (.long x1), .second, .val (.long x2), .second, .val (.long x3), .second, .val (.long x4), .second, .val (.long x5), .second, .val (.int x6), .val (.ref b1), .val (.long mm), .second, .val (.long (x2 + (mm * (1000000 : Int64)))), .second, .val (.long ((x2 + (mm * (1000000 : Int64))) + x4)), .second] [(.long ((x2 + (mm * (1000000 : Int64))) + x4)), (.ref b1)])) (fun t k => XS.lload X25.here hx rfl (hb hby at_91) rfl k) ?_
      obtain ⟨_, T32, L32, X32, hQ32, st32⟩ := own_callV X25 hx hZ (y := (⟨"com/example/assignor/assignor/client/RequestTimeouts", "leaseRanOut", "(J)Z"⟩ : MethodName)) (W := 0) (C := "com/example/assignor/assignor/client/RequestTimeouts") hown (hw _ (List.mem_of_getElem? (i := 25) rfl)) (hw _ (List.mem_of_getElem? (i := 26) rfl)) (hw _ (List.mem_of_getElem? (i := 28) rfl)) (hw _ (List.mem_of_getElem? (i := 27) rfl)) (hw _ (List.mem_of_getElem? (i := 2) rfl)) (hw _ (List.mem_of_getElem? (i := 29) rfl)) (by decide) (rm_Qlr1 l Z a0 hw [] b1 (x2 + (mm * (1000000 : Int64))) ((x2 + (mm * (1000000 : Int64))) + x4) T25.heap n0 Z31 F25q2 F25q4) (by decide) (by decide) rfl E25q (g := (mkF m 93 #[.val (.long x1), .second, .val (.long x2), .second, .val (.long x3), .second, .val (.long x4), .second, .val (.long x5), .second, .val (.int x6), .val (.ref b1), .val (.long mm), .second, .val (.long (x2 + (mm * (1000000 : Int64)))), .second, .val (.long ((x2 + (mm * (1000000 : Int64))) + x4)), .second] [(.long ((x2 + (mm * (1000000 : Int64))) + x4)), (.ref b1)])) rfl (by rw [hml]; rfl) (argsL := [(.long ((x2 + (mm * (1000000 : Int64))) + x4))]) (rest := []) rfl (lenOf pd_J__Z rfl) rfl (by show 2 * 0 + _ ≤ _; exact Nat.le_of_eq rfl) (hb hby at_93) (by decide) (by decide)
      obtain ⟨rfl, N32q, e32⟩ := hQ32
      have N32 := Fr.app N25 N32q
      refine own_via (U' := T32.setTop (mkF m 96 #[.val (.long x1), .second, .val (.long x2), .second, .val (.long x3), .second, .val (.long x4), .second, .val (.long x5), .second, .val (.int x6), .val (.ref b1), .val (.long mm), .second, .val (.long (x2 + (mm * (1000000 : Int64)))), .second, .val (.long ((x2 + (mm * (1000000 : Int64))) + x4)), .second] [(.int (if (((x2 + (mm * (1000000 : Int64))) + x4) - (x2 + (mm * (1000000 : Int64)))) < (0 : Int64) then (0 : Int32) else (1 : Int32)))])) (fun t k => st32 t k) ?_
      refine own_via (U' := T32.setTop (mkF m 98 #[.val (.long x1), .second, .val (.long x2), .second, .val (.long x3), .second, .val (.long x4), .second, .val (.long x5), .second, .val (.int x6), .val (.ref b1), .val (.long mm), .second, .val (.long (x2 + (mm * (1000000 : Int64)))), .second, .val (.long ((x2 + (mm * (1000000 : Int64))) + x4)), .second] [(.long x4), (.int (if (((x2 + (mm * (1000000 : Int64))) + x4) - (x2 + (mm * (1000000 : Int64)))) < (0 : Int64) then (0 : Int32) else (1 : Int32)))])) (fun t k => XS.lload X32.here hx rfl (hb hby at_96) rfl k) ?_
      refine own_via (U' := T32.setTop (mkF m 99 #[.val (.long x1), .second, .val (.long x2), .second, .val (.long x3), .second, .val (.long x4), .second, .val (.long x5), .second, .val (.int x6), .val (.ref b1), .val (.long mm), .second, .val (.long (x2 + (mm * (1000000 : Int64)))), .second, .val (.long ((x2 + (mm * (1000000 : Int64))) + x4)), .second] [(.long (0 : Int64)), (.long x4), (.int (if (((x2 + (mm * (1000000 : Int64))) + x4) - (x2 + (mm * (1000000 : Int64)))) < (0 : Int64) then (0 : Int32) else (1 : Int32)))])) (fun t k => XS.lconst X32.here hx rfl (hb hby at_98) k) ?_
      refine own_via (U' := T32.setTop (mkF m 100 #[.val (.long x1), .second, .val (.long x2), .second, .val (.long x3), .second, .val (.long x4), .second, .val (.long x5), .second, .val (.int x6), .val (.ref b1), .val (.long mm), .second, .val (.long (x2 + (mm * (1000000 : Int64)))), .second, .val (.long ((x2 + (mm * (1000000 : Int64))) + x4)), .second] [(.int (lcmpW x4 (0 : Int64))), (.int (if (((x2 + (mm * (1000000 : Int64))) + x4) - (x2 + (mm * (1000000 : Int64)))) < (0 : Int64) then (0 : Int32) else (1 : Int32)))])) (fun t k => XS.lcmp X32.here hx rfl (hb hby at_99) rfl k) ?_
      by_cases hc33 : x4 < (0 : Int64)
      case pos =>
        refine own_via (U' := T32.setTop (mkF m 107 #[.val (.long x1), .second, .val (.long x2), .second, .val (.long x3), .second, .val (.long x4), .second, .val (.long x5), .second, .val (.int x6), .val (.ref b1), .val (.long mm), .second, .val (.long (x2 + (mm * (1000000 : Int64)))), .second, .val (.long ((x2 + (mm * (1000000 : Int64))) + x4)), .second] [(.int (if (((x2 + (mm * (1000000 : Int64))) + x4) - (x2 + (mm * (1000000 : Int64)))) < (0 : Int64) then (0 : Int32) else (1 : Int32)))])) (fun t k => XS.ifYes X32.here hx rfl (pc0 := 100) (pc' := 107) rfl (hb hby at_100) rfl (own_jlt hc33).1 (by decide) (by decide) k) ?_
        refine own_via (U' := T32.setTop (mkF m 108 #[.val (.long x1), .second, .val (.long x2), .second, .val (.long x3), .second, .val (.long x4), .second, .val (.long x5), .second, .val (.int x6), .val (.ref b1), .val (.long mm), .second, .val (.long (x2 + (mm * (1000000 : Int64)))), .second, .val (.long ((x2 + (mm * (1000000 : Int64))) + x4)), .second] [(.int (0 : Int32)), (.int (if (((x2 + (mm * (1000000 : Int64))) + x4) - (x2 + (mm * (1000000 : Int64)))) < (0 : Int64) then (0 : Int32) else (1 : Int32)))])) (fun t k => XS.iconst X32.here hx rfl (hb hby at_107) k) ?_
        refine own_via (U' := T32.setTop (mkF m 111 #[.val (.long x1), .second, .val (.long x2), .second, .val (.long x3), .second, .val (.long x4), .second, .val (.long x5), .second, .val (.int x6), .val (.ref b1), .val (.long mm), .second, .val (.long (x2 + (mm * (1000000 : Int64)))), .second, .val (.long ((x2 + (mm * (1000000 : Int64))) + x4)), .second] [])) (fun t k => XS.icmpNo X32.here hx rfl (hb hby at_108) rfl (teq (by rw [own_lr]; exact if_pos hc33)).2 k) ?_
        refine own_via (U' := T32.setTop (mkF m 112 #[.val (.long x1), .second, .val (.long x2), .second, .val (.long x3), .second, .val (.long x4), .second, .val (.long x5), .second, .val (.int x6), .val (.ref b1), .val (.long mm), .second, .val (.long (x2 + (mm * (1000000 : Int64)))), .second, .val (.long ((x2 + (mm * (1000000 : Int64))) + x4)), .second] [(.int (1 : Int32))])) (fun t k => XS.iconst X32.here hx rfl (hb hby at_111) k) ?_
        refine own_via (U' := T32.setTop (mkF m 116 #[.val (.long x1), .second, .val (.long x2), .second, .val (.long x3), .second, .val (.long x4), .second, .val (.long x5), .second, .val (.int x6), .val (.ref b1), .val (.long mm), .second, .val (.long (x2 + (mm * (1000000 : Int64)))), .second, .val (.long ((x2 + (mm * (1000000 : Int64))) + x4)), .second] [(.int (1 : Int32))])) (fun t k => XS.goto X32.here hx rfl (pc0 := 112) (pc' := 116) rfl (hb hby at_112) (by decide) (by decide) k) ?_
        exact own_ret X32 (v := some (.int (1 : Int32))) (fun h => by rw [Bd.returns] at h; cases h) hlk (fun fs hr => retN X32 hx (t := .boolean) Bd.returns (by simp) (hb hby at_116) hr) (by rw [e32]; exact ⟨rfl, N32⟩) (by decide) (by decide)
      case neg =>
        refine own_via (U' := T32.setTop (mkF m 103 #[.val (.long x1), .second, .val (.long x2), .second, .val (.long x3), .second, .val (.long x4), .second, .val (.long x5), .second, .val (.int x6), .val (.ref b1), .val (.long mm), .second, .val (.long (x2 + (mm * (1000000 : Int64)))), .second, .val (.long ((x2 + (mm * (1000000 : Int64))) + x4)), .second] [(.int (if (((x2 + (mm * (1000000 : Int64))) + x4) - (x2 + (mm * (1000000 : Int64)))) < (0 : Int64) then (0 : Int32) else (1 : Int32)))])) (fun t k => XS.ifNo X32.here hx rfl (hb hby at_100) rfl (own_jnlt hc33).1 k) ?_
        refine own_via (U' := T32.setTop (mkF m 104 #[.val (.long x1), .second, .val (.long x2), .second, .val (.long x3), .second, .val (.long x4), .second, .val (.long x5), .second, .val (.int x6), .val (.ref b1), .val (.long mm), .second, .val (.long (x2 + (mm * (1000000 : Int64)))), .second, .val (.long ((x2 + (mm * (1000000 : Int64))) + x4)), .second] [(.int (1 : Int32)), (.int (if (((x2 + (mm * (1000000 : Int64))) + x4) - (x2 + (mm * (1000000 : Int64)))) < (0 : Int64) then (0 : Int32) else (1 : Int32)))])) (fun t k => XS.iconst X32.here hx rfl (hb hby at_103) k) ?_
        refine own_via (U' := T32.setTop (mkF m 108 #[.val (.long x1), .second, .val (.long x2), .second, .val (.long x3), .second, .val (.long x4), .second, .val (.long x5), .second, .val (.int x6), .val (.ref b1), .val (.long mm), .second, .val (.long (x2 + (mm * (1000000 : Int64)))), .second, .val (.long ((x2 + (mm * (1000000 : Int64))) + x4)), .second] [(.int (1 : Int32)), (.int (if (((x2 + (mm * (1000000 : Int64))) + x4) - (x2 + (mm * (1000000 : Int64)))) < (0 : Int64) then (0 : Int32) else (1 : Int32)))])) (fun t k => XS.goto X32.here hx rfl (pc0 := 104) (pc' := 108) rfl (hb hby at_104) (by decide) (by decide) k) ?_
        refine own_via (U' := T32.setTop (mkF m 111 #[.val (.long x1), .second, .val (.long x2), .second, .val (.long x3), .second, .val (.long x4), .second, .val (.long x5), .second, .val (.int x6), .val (.ref b1), .val (.long mm), .second, .val (.long (x2 + (mm * (1000000 : Int64)))), .second, .val (.long ((x2 + (mm * (1000000 : Int64))) + x4)), .second] [])) (fun t k => XS.icmpNo X32.here hx rfl (hb hby at_108) rfl (teq (by rw [own_lr]; exact if_neg hc33)).2 k) ?_
        refine own_via (U' := T32.setTop (mkF m 112 #[.val (.long x1), .second, .val (.long x2), .second, .val (.long x3), .second, .val (.long x4), .second, .val (.long x5), .second, .val (.int x6), .val (.ref b1), .val (.long mm), .second, .val (.long (x2 + (mm * (1000000 : Int64)))), .second, .val (.long ((x2 + (mm * (1000000 : Int64))) + x4)), .second] [(.int (1 : Int32))])) (fun t k => XS.iconst X32.here hx rfl (hb hby at_111) k) ?_
        refine own_via (U' := T32.setTop (mkF m 116 #[.val (.long x1), .second, .val (.long x2), .second, .val (.long x3), .second, .val (.long x4), .second, .val (.long x5), .second, .val (.int x6), .val (.ref b1), .val (.long mm), .second, .val (.long (x2 + (mm * (1000000 : Int64)))), .second, .val (.long ((x2 + (mm * (1000000 : Int64))) + x4)), .second] [(.int (1 : Int32))])) (fun t k => XS.goto X32.here hx rfl (pc0 := 112) (pc' := 116) rfl (hb hby at_112) (by decide) (by decide) k) ?_
        exact own_ret X32 (v := some (.int (1 : Int32))) (fun h => by rw [Bd.returns] at h; cases h) hlk (fun fs hr => retN X32 hx (t := .boolean) Bd.returns (by simp) (hb hby at_116) hr) (by rw [e32]; exact ⟨rfl, N32⟩) (by decide) (by decide)
    case neg =>
      refine own_via (U' := T13.setTop (mkF m 40 #[.val (.long x1), .second, .val (.long x2), .second, .val (.long x3), .second, .val (.long x4), .second, .val (.long x5), .second, .val (.int x6), .val (.ref b1), .unset, .unset, .unset, .unset, .unset, .unset] [])) (fun t k => XS.ifNo X13.here hx rfl (hb hby at_37) rfl ((if0 _ _).trans (feq hc24).1) k) ?_
      refine own_via (U' := T13.setTop (mkF m 42 #[.val (.long x1), .second, .val (.long x2), .second, .val (.long x3), .second, .val (.long x4), .second, .val (.long x5), .second, .val (.int x6), .val (.ref b1), .unset, .unset, .unset, .unset, .unset, .unset] [(.ref b1)])) (fun t k => XS.aload X13.here hx rfl (hb hby at_40) rfl rfl k) ?_
      refine own_via (U' := T13.setTop (mkF m 44 #[.val (.long x1), .second, .val (.long x2), .second, .val (.long x3), .second, .val (.long x4), .second, .val (.long x5), .second, .val (.int x6), .val (.ref b1), .unset, .unset, .unset, .unset, .unset, .unset] [(.long x5), (.ref b1)])) (fun t k => XS.lload X13.here hx rfl (hb hby at_42) rfl k) ?_
      refine own_via (U' := T13.setTop (mkF m 46 #[.val (.long x1), .second, .val (.long x2), .second, .val (.long x3), .second, .val (.long x4), .second, .val (.long x5), .second, .val (.int x6), .val (.ref b1), .unset, .unset, .unset, .unset, .unset, .unset] [(.long x4), (.long x5), (.ref b1)])) (fun t k => XS.lload X13.here hx rfl (hb hby at_44) rfl k) ?_
      refine own_via (U' := T13.setTop (mkF m 47 #[.val (.long x1), .second, .val (.long x2), .second, .val (.long x3), .second, .val (.long x4), .second, .val (.long x5), .second, .val (.int x6), .val (.ref b1), .unset, .unset, .unset, .unset, .unset, .unset] [(.long x1), (.long x4), (.long x5), (.ref b1)])) (fun t k => XS.lloadN X13.here hx rfl (hb hby at_46) rfl k) ?_
      refine own_via (U' := T13.setTop (mkF m 50 #[.val (.long x1), .second, .val (.long x2), .second, .val (.long x3), .second, .val (.long x4), .second, .val (.long x5), .second, .val (.int x6), .val (.ref b1), .unset, .unset, .unset, .unset, .unset, .unset] [(.long (1099511627775 : Int64)), (.long x1), (.long x4), (.long x5), (.ref b1)])) (fun t k => X13.ldc2Long hx hown (mvT hZ (hw _ (List.mem_of_getElem? (i := 33) rfl))) (g := (mkF m 47 #[.val (.long x1), .second, .val (.long x2), .second, .val (.long x3), .second, .val (.long x4), .second, .val (.long x5), .second, .val (.int x6), .val (.ref b1), .unset, .unset, .unset, .unset, .unset, .unset] [(.long x1), (.long x4), (.long x5), (.ref b1)])) rfl (hb hby at_47) _ k) ?_
      refine own_via (U' := T13.setTop (mkF m 51 #[.val (.long x1), .second, .val (.long x2), .second, .val (.long x3), .second, .val (.long x4), .second, .val (.long x5), .second, .val (.int x6), .val (.ref b1), .unset, .unset, .unset, .unset, .unset, .unset] [(.long (x1 &&& (1099511627775 : Int64))), (.long x4), (.long x5), (.ref b1)])) (fun t k => XS.land X13.here hx rfl (hb hby at_50) rfl k) ?_
      obtain ⟨_, T34, L34, X34, hQ34, st34⟩ := own_callV X13 hx hZ (y := (⟨"com/example/assignor/assignor/client/RequestTimeouts", "answered", "(JJJ)V"⟩ : MethodName)) (W := 0) (C := "com/example/assignor/assignor/client/RequestTimeouts") hown (hw _ (List.mem_of_getElem? (i := 34) rfl)) (hw _ (List.mem_of_getElem? (i := 35) rfl)) (hw _ (List.mem_of_getElem? (i := 37) rfl)) (hw _ (List.mem_of_getElem? (i := 36) rfl)) (hw _ (List.mem_of_getElem? (i := 2) rfl)) (hw _ (List.mem_of_getElem? (i := 38) rfl)) (by decide) (rm_Qan0 l Z a0 hw [] b1 ar13 kk13 (0 : Int64) (0 : Int64) (0 : Int64) (0 : Int64) (0 : Int64) (0 : Int64) (0 : Int64) (0 : Int64) (0 : Int64) (0 : Int64) (if (9223372036854 : Int64) < x1 then (9223372036854775807 : Int64) else (if x1 < (-(9223372036854 : Int64)) then (-9223372036854775808 : Int64) else (x1 * (1000000 : Int64)))) (0 : Int64) (0 : Int32) x5 x4 (x1 &&& (1099511627775 : Int64)) tu T13.heap n0 Z21 E13q F13q0 F13q1 F13q2 F13q3 F13q4 gn_b1 gn_ar13 V13q f16 f17 f18 f19 ne2 ne15 ne14) (by decide) (by decide) rfl E13q (g := (mkF m 51 #[.val (.long x1), .second, .val (.long x2), .second, .val (.long x3), .second, .val (.long x4), .second, .val (.long x5), .second, .val (.int x6), .val (.ref b1), .unset, .unset, .unset, .unset, .unset, .unset] [(.long (x1 &&& (1099511627775 : Int64))), (.long x4), (.long x5), (.ref b1)])) rfl (by rw [hml]; rfl) (argsL := [(.long x5), (.long x4), (.long (x1 &&& (1099511627775 : Int64)))]) (rest := []) rfl (lenOf pd_JJJ__V rfl) rfl (by show 2 * 0 + _ ≤ _; exact Nat.le_of_eq rfl) (hb hby at_51) (by decide) (by decide)
      obtain ⟨rfl, N34q, K34q, E34q, F34q0, F34q1, F34q2, F34q3, F34q4, V34q⟩ := hQ34
      have N34 := Fr.app N13 N34q
      have f35 := own_sta_keep f16 K34q (allS (own_exa_ns E13q) (allS (own_arv_ns V13q) all0))
      have f36 := f17.keep K34q
      have f37 := f18.keep K34q (ninS ne2 (ninS ne15 nin0))
      have f38 := f19.keep K34q (ninS ne2 (ninS ne15 nin0))
      have f39 := E13q.keep K34q
      have Z40 : n0 ≤ T34.heap.size := Nat.le_trans Z21 K34q.1
      have K40 := K21.trans K34q (allS (Or.inr sz_b1) (allS (Or.inr sz_ar13) all0))
      refine own_via (U' := T34.setTop (mkF m 54 #[.val (.long x1), .second, .val (.long x2), .second, .val (.long x3), .second, .val (.long x4), .second, .val (.long x5), .second, .val (.int x6), .val (.ref b1), .unset, .unset, .unset, .unset, .unset, .unset] [])) (fun t k => st34 t k) ?_
      refine own_via (U' := T34.setTop (mkF m 56 #[.val (.long x1), .second, .val (.long x2), .second, .val (.long x3), .second, .val (.long x4), .second, .val (.long x5), .second, .val (.int x6), .val (.ref b1), .unset, .unset, .unset, .unset, .unset, .unset] [(.long x3)])) (fun t k => XS.lload X34.here hx rfl (hb hby at_54) rfl k) ?_
      refine own_via (U' := T34.setTop (mkF m 59 #[.val (.long x1), .second, .val (.long x2), .second, .val (.long x3), .second, .val (.long x4), .second, .val (.long x5), .second, .val (.int x6), .val (.ref b1), .unset, .unset, .unset, .unset, .unset, .unset] [(.long (1099511627775 : Int64)), (.long x3)])) (fun t k => X34.ldc2Long hx hown (mvT hZ (hw _ (List.mem_of_getElem? (i := 33) rfl))) (g := (mkF m 56 #[.val (.long x1), .second, .val (.long x2), .second, .val (.long x3), .second, .val (.long x4), .second, .val (.long x5), .second, .val (.int x6), .val (.ref b1), .unset, .unset, .unset, .unset, .unset, .unset] [(.long x3)])) rfl (hb hby at_56) _ k) ?_
      refine own_via (U' := T34.setTop (mkF m 60 #[.val (.long x1), .second, .val (.long x2), .second, .val (.long x3), .second, .val (.long x4), .second, .val (.long x5), .second, .val (.int x6), .val (.ref b1), .unset, .unset, .unset, .unset, .unset, .unset] [(.long (x3 &&& (1099511627775 : Int64)))])) (fun t k => XS.land X34.here hx rfl (hb hby at_59) rfl k) ?_
      refine own_via (U' := T34.setTop (mkF m 62 #[.val (.long x1), .second, .val (.long x2), .second, .val (.long x3), .second, .val (.long x4), .second, .val (.long x5), .second, .val (.int x6), .val (.ref b1), .val (.long (x3 &&& (1099511627775 : Int64))), .second, .unset, .unset, .unset, .unset] [])) (fun t k => XS.lstore X34.here hx rfl (hb hby at_60) rfl (l' := #[.val (.long x1), .second, .val (.long x2), .second, .val (.long x3), .second, .val (.long x4), .second, .val (.long x5), .second, .val (.int x6), .val (.ref b1), .val (.long (x3 &&& (1099511627775 : Int64))), .second, .unset, .unset, .unset, .unset]) rfl k) ?_
      have hmm : 0 ≤ (x3 &&& (1099511627775 : Int64)).toInt ∧ (x3 &&& (1099511627775 : Int64)).toInt < 1099511627776 := own_m40 _
      generalize (x3 &&& (1099511627775 : Int64)) = mm at hmm ⊢
      refine own_via (U' := T34.setTop (mkF m 64 #[.val (.long x1), .second, .val (.long x2), .second, .val (.long x3), .second, .val (.long x4), .second, .val (.long x5), .second, .val (.int x6), .val (.ref b1), .val (.long mm), .second, .unset, .unset, .unset, .unset] [(.ref b1)])) (fun t k => XS.aload X34.here hx rfl (hb hby at_62) rfl rfl k) ?_
      refine own_via (U' := T34.setTop (mkF m 65 #[.val (.long x1), .second, .val (.long x2), .second, .val (.long x3), .second, .val (.long x4), .second, .val (.long x5), .second, .val (.int x6), .val (.ref b1), .val (.long mm), .second, .unset, .unset, .unset, .unset] [(.long x2), (.ref b1)])) (fun t k => XS.lloadN X34.here hx rfl (hb hby at_64) rfl k) ?_
      refine own_via (U' := T34.setTop (mkF m 67 #[.val (.long x1), .second, .val (.long x2), .second, .val (.long x3), .second, .val (.long x4), .second, .val (.long x5), .second, .val (.int x6), .val (.ref b1), .val (.long mm), .second, .unset, .unset, .unset, .unset] [(.long x5), (.long x2), (.ref b1)])) (fun t k => XS.lload X34.here hx rfl (hb hby at_65) rfl k) ?_
      refine own_via (U' := T34.setTop (mkF m 69 #[.val (.long x1), .second, .val (.long x2), .second, .val (.long x3), .second, .val (.long x4), .second, .val (.long x5), .second, .val (.int x6), .val (.ref b1), .val (.long mm), .second, .unset, .unset, .unset, .unset] [(.long mm), (.long x5), (.long x2), (.ref b1)])) (fun t k => XS.lload X34.here hx rfl (hb hby at_67) rfl k) ?_
      obtain ⟨_, T41, L41, X41, hQ41, st41⟩ := own_callV X34 hx hZ (y := (⟨"com/example/assignor/assignor/client/RequestTimeouts", "answered", "(JJJ)V"⟩ : MethodName)) (W := 0) (C := "com/example/assignor/assignor/client/RequestTimeouts") hown (hw _ (List.mem_of_getElem? (i := 34) rfl)) (hw _ (List.mem_of_getElem? (i := 35) rfl)) (hw _ (List.mem_of_getElem? (i := 37) rfl)) (hw _ (List.mem_of_getElem? (i := 36) rfl)) (hw _ (List.mem_of_getElem? (i := 2) rfl)) (hw _ (List.mem_of_getElem? (i := 38) rfl)) (by decide) (rm_Qan1 l Z a0 hw [] b1 ar13 kk13 (x4 - x5) (0 : Int64) (0 : Int64) (0 : Int64) (0 : Int64) (0 : Int64) (0 : Int64) (0 : Int64) (0 : Int64) (0 : Int64) (if (9223372036854 : Int64) < (x1 &&& (1099511627775 : Int64)) then (9223372036854775807 : Int64) else (if (x1 &&& (1099511627775 : Int64)) < (-(9223372036854 : Int64)) then (-9223372036854775808 : Int64) else ((x1 &&& (1099511627775 : Int64)) * (1000000 : Int64)))) (x5 + (if (9223372036854 : Int64) < (x1 &&& (1099511627775 : Int64)) then (9223372036854775807 : Int64) else (if (x1 &&& (1099511627775 : Int64)) < (-(9223372036854 : Int64)) then (-9223372036854775808 : Int64) else ((x1 &&& (1099511627775 : Int64)) * (1000000 : Int64))))) (1 : Int32) x2 x5 mm tu T34.heap n0 Z40 E34q F34q0 F34q1 F34q2 F34q3 F34q4 gn_b1 gn_ar13 V34q f35 f36 f37 f38 ne2 ne15 ne14) (by decide) (by decide) rfl E34q (g := (mkF m 69 #[.val (.long x1), .second, .val (.long x2), .second, .val (.long x3), .second, .val (.long x4), .second, .val (.long x5), .second, .val (.int x6), .val (.ref b1), .val (.long mm), .second, .unset, .unset, .unset, .unset] [(.long mm), (.long x5), (.long x2), (.ref b1)])) rfl (by rw [hml]; rfl) (argsL := [(.long x2), (.long x5), (.long mm)]) (rest := []) rfl (lenOf pd_JJJ__V rfl) rfl (by show 2 * 0 + _ ≤ _; exact Nat.le_of_eq rfl) (hb hby at_69) (by decide) (by decide)
      obtain ⟨rfl, N41q, K41q, E41q, F41q0, F41q1, F41q2, F41q3, F41q4, V41q⟩ := hQ41
      have N41 := Fr.app N34 N41q
      have f42 := own_sta_keep f35 K41q (allS (own_exa_ns E34q) (allS (own_arv_ns V34q) all0))
      have f43 := f36.keep K41q
      have f44 := f37.keep K41q (ninS ne2 (ninS ne15 nin0))
      have f45 := f38.keep K41q (ninS ne2 (ninS ne15 nin0))
      have f46 := E34q.keep K41q
      have Z47 : n0 ≤ T41.heap.size := Nat.le_trans Z40 K41q.1
      have K47 := K40.trans K41q (allS (Or.inr sz_b1) (allS (Or.inr sz_ar13) all0))
      rw [own_tn mm hmm] at F41q4
      refine own_via (U' := T41.setTop (mkF m 72 #[.val (.long x1), .second, .val (.long x2), .second, .val (.long x3), .second, .val (.long x4), .second, .val (.long x5), .second, .val (.int x6), .val (.ref b1), .val (.long mm), .second, .unset, .unset, .unset, .unset] [])) (fun t k => st41 t k) ?_
      refine own_via (U' := T41.setTop (mkF m 73 #[.val (.long x1), .second, .val (.long x2), .second, .val (.long x3), .second, .val (.long x4), .second, .val (.long x5), .second, .val (.int x6), .val (.ref b1), .val (.long mm), .second, .unset, .unset, .unset, .unset] [(.long x2)])) (fun t k => XS.lloadN X41.here hx rfl (hb hby at_72) rfl k) ?_
      refine own_via (U' := T41.setTop (mkF m 75 #[.val (.long x1), .second, .val (.long x2), .second, .val (.long x3), .second, .val (.long x4), .second, .val (.long x5), .second, .val (.int x6), .val (.ref b1), .val (.long mm), .second, .unset, .unset, .unset, .unset] [(.long mm), (.long x2)])) (fun t k => XS.lload X41.here hx rfl (hb hby at_73) rfl k) ?_
      refine own_via (U' := T41.setTop (mkF m 78 #[.val (.long x1), .second, .val (.long x2), .second, .val (.long x3), .second, .val (.long x4), .second, .val (.long x5), .second, .val (.int x6), .val (.ref b1), .val (.long mm), .second, .unset, .unset, .unset, .unset] [(.long (1000000 : Int64)), (.long mm), (.long x2)])) (fun t k => X41.ldc2Long hx hown (mvT hZ (hw _ (List.mem_of_getElem? (i := 43) rfl))) (g := (mkF m 75 #[.val (.long x1), .second, .val (.long x2), .second, .val (.long x3), .second, .val (.long x4), .second, .val (.long x5), .second, .val (.int x6), .val (.ref b1), .val (.long mm), .second, .unset, .unset, .unset, .unset] [(.long mm), (.long x2)])) rfl (hb hby at_75) _ k) ?_
      refine own_via (U' := T41.setTop (mkF m 79 #[.val (.long x1), .second, .val (.long x2), .second, .val (.long x3), .second, .val (.long x4), .second, .val (.long x5), .second, .val (.int x6), .val (.ref b1), .val (.long mm), .second, .unset, .unset, .unset, .unset] [(.long (mm * (1000000 : Int64))), (.long x2)])) (fun t k => XS.lmul X41.here hx rfl (hb hby at_78) rfl k) ?_
      refine own_via (U' := T41.setTop (mkF m 80 #[.val (.long x1), .second, .val (.long x2), .second, .val (.long x3), .second, .val (.long x4), .second, .val (.long x5), .second, .val (.int x6), .val (.ref b1), .val (.long mm), .second, .unset, .unset, .unset, .unset] [(.long (x2 + (mm * (1000000 : Int64))))])) (fun t k => XS.ladd X41.here hx rfl (hb hby at_79) rfl k) ?_
      refine own_via (U' := T41.setTop (mkF m 82 #[.val (.long x1), .second, .val (.long x2), .second, .val (.long x3), .second, .val (.long x4), .second, .val (.long x5), .second, .val (.int x6), .val (.ref b1), .val (.long mm), .second, .val (.long (x2 + (mm * (1000000 : Int64)))), .second, .unset, .unset] [])) (fun t k => XS.lstore X41.here hx rfl (hb hby at_80) rfl (l' := #[.val (.long x1), .second, .val (.long x2), .second, .val (.long x3), .second, .val (.long x4), .second, .val (.long x5), .second, .val (.int x6), .val (.ref b1), .val (.long mm), .second, .val (.long (x2 + (mm * (1000000 : Int64)))), .second, .unset, .unset]) rfl k) ?_
      refine own_via (U' := T41.setTop (mkF m 84 #[.val (.long x1), .second, .val (.long x2), .second, .val (.long x3), .second, .val (.long x4), .second, .val (.long x5), .second, .val (.int x6), .val (.ref b1), .val (.long mm), .second, .val (.long (x2 + (mm * (1000000 : Int64)))), .second, .unset, .unset] [(.long (x2 + (mm * (1000000 : Int64))))])) (fun t k => XS.lload X41.here hx rfl (hb hby at_82) rfl k) ?_
      refine own_via (U' := T41.setTop (mkF m 86 #[.val (.long x1), .second, .val (.long x2), .second, .val (.long x3), .second, .val (.long x4), .second, .val (.long x5), .second, .val (.int x6), .val (.ref b1), .val (.long mm), .second, .val (.long (x2 + (mm * (1000000 : Int64)))), .second, .unset, .unset] [(.long x4), (.long (x2 + (mm * (1000000 : Int64))))])) (fun t k => XS.lload X41.here hx rfl (hb hby at_84) rfl k) ?_
      refine own_via (U' := T41.setTop (mkF m 87 #[.val (.long x1), .second, .val (.long x2), .second, .val (.long x3), .second, .val (.long x4), .second, .val (.long x5), .second, .val (.int x6), .val (.ref b1), .val (.long mm), .second, .val (.long (x2 + (mm * (1000000 : Int64)))), .second, .unset, .unset] [(.long ((x2 + (mm * (1000000 : Int64))) + x4))])) (fun t k => XS.ladd X41.here hx rfl (hb hby at_86) rfl k) ?_
      refine own_via (U' := T41.setTop (mkF m 89 #[.val (.long x1), .second, .val (.long x2), .second, .val (.long x3), .second, .val (.long x4), .second, .val (.long x5), .second, .val (.int x6), .val (.ref b1), .val (.long mm), .second, .val (.long (x2 + (mm * (1000000 : Int64)))), .second, .val (.long ((x2 + (mm * (1000000 : Int64))) + x4)), .second] [])) (fun t k => XS.lstore X41.here hx rfl (hb hby at_87) rfl (l' := #[.val (.long x1), .second, .val (.long x2), .second, .val (.long x3), .second, .val (.long x4), .second, .val (.long x5), .second, .val (.int x6), .val (.ref b1), .val (.long mm), .second, .val (.long (x2 + (mm * (1000000 : Int64)))), .second, .val (.long ((x2 + (mm * (1000000 : Int64))) + x4)), .second]) rfl k) ?_
      refine own_via (U' := T41.setTop (mkF m 91 #[.val (.long x1), .second, .val (.long x2), .second, .val (.long x3), .second, .val (.long x4), .second, .val (.long x5), .second, .val (.int x6), .val (.ref b1), .val (.long mm), .second, .val (.long (x2 + (mm * (1000000 : Int64)))), .second, .val (.long ((x2 + (mm * (1000000 : Int64))) + x4)), .second] [(.ref b1)])) (fun t k => XS.aload X41.here hx rfl (hb hby at_89) rfl rfl k) ?_
      refine own_via (U' := T41.setTop (mkF m 93 #[.val (.long x1), .second, .val (.long x2), .second, .val (.long x3), .second, .val (.long x4), .second, .val (.long x5), .second, .val (.int x6), .val (.ref b1), .val (.long mm), .second, .val (.long (x2 + (mm * (1000000 : Int64)))), .second, .val (.long ((x2 + (mm * (1000000 : Int64))) + x4)), .second] [(.long ((x2 + (mm * (1000000 : Int64))) + x4)), (.ref b1)])) (fun t k => XS.lload X41.here hx rfl (hb hby at_91) rfl k) ?_
      obtain ⟨_, T48, L48, X48, hQ48, st48⟩ := own_callV X41 hx hZ (y := (⟨"com/example/assignor/assignor/client/RequestTimeouts", "leaseRanOut", "(J)Z"⟩ : MethodName)) (W := 0) (C := "com/example/assignor/assignor/client/RequestTimeouts") hown (hw _ (List.mem_of_getElem? (i := 25) rfl)) (hw _ (List.mem_of_getElem? (i := 26) rfl)) (hw _ (List.mem_of_getElem? (i := 28) rfl)) (hw _ (List.mem_of_getElem? (i := 27) rfl)) (hw _ (List.mem_of_getElem? (i := 2) rfl)) (hw _ (List.mem_of_getElem? (i := 29) rfl)) (by decide) (rm_Qlr1 l Z a0 hw [] b1 (x2 + (mm * (1000000 : Int64))) ((x2 + (mm * (1000000 : Int64))) + x4) T41.heap n0 Z47 F41q2 F41q4) (by decide) (by decide) rfl E41q (g := (mkF m 93 #[.val (.long x1), .second, .val (.long x2), .second, .val (.long x3), .second, .val (.long x4), .second, .val (.long x5), .second, .val (.int x6), .val (.ref b1), .val (.long mm), .second, .val (.long (x2 + (mm * (1000000 : Int64)))), .second, .val (.long ((x2 + (mm * (1000000 : Int64))) + x4)), .second] [(.long ((x2 + (mm * (1000000 : Int64))) + x4)), (.ref b1)])) rfl (by rw [hml]; rfl) (argsL := [(.long ((x2 + (mm * (1000000 : Int64))) + x4))]) (rest := []) rfl (lenOf pd_J__Z rfl) rfl (by show 2 * 0 + _ ≤ _; exact Nat.le_of_eq rfl) (hb hby at_93) (by decide) (by decide)
      obtain ⟨rfl, N48q, e48⟩ := hQ48
      have N48 := Fr.app N41 N48q
      refine own_via (U' := T48.setTop (mkF m 96 #[.val (.long x1), .second, .val (.long x2), .second, .val (.long x3), .second, .val (.long x4), .second, .val (.long x5), .second, .val (.int x6), .val (.ref b1), .val (.long mm), .second, .val (.long (x2 + (mm * (1000000 : Int64)))), .second, .val (.long ((x2 + (mm * (1000000 : Int64))) + x4)), .second] [(.int (if (((x2 + (mm * (1000000 : Int64))) + x4) - (x2 + (mm * (1000000 : Int64)))) < (0 : Int64) then (0 : Int32) else (1 : Int32)))])) (fun t k => st48 t k) ?_
      refine own_via (U' := T48.setTop (mkF m 98 #[.val (.long x1), .second, .val (.long x2), .second, .val (.long x3), .second, .val (.long x4), .second, .val (.long x5), .second, .val (.int x6), .val (.ref b1), .val (.long mm), .second, .val (.long (x2 + (mm * (1000000 : Int64)))), .second, .val (.long ((x2 + (mm * (1000000 : Int64))) + x4)), .second] [(.long x4), (.int (if (((x2 + (mm * (1000000 : Int64))) + x4) - (x2 + (mm * (1000000 : Int64)))) < (0 : Int64) then (0 : Int32) else (1 : Int32)))])) (fun t k => XS.lload X48.here hx rfl (hb hby at_96) rfl k) ?_
      refine own_via (U' := T48.setTop (mkF m 99 #[.val (.long x1), .second, .val (.long x2), .second, .val (.long x3), .second, .val (.long x4), .second, .val (.long x5), .second, .val (.int x6), .val (.ref b1), .val (.long mm), .second, .val (.long (x2 + (mm * (1000000 : Int64)))), .second, .val (.long ((x2 + (mm * (1000000 : Int64))) + x4)), .second] [(.long (0 : Int64)), (.long x4), (.int (if (((x2 + (mm * (1000000 : Int64))) + x4) - (x2 + (mm * (1000000 : Int64)))) < (0 : Int64) then (0 : Int32) else (1 : Int32)))])) (fun t k => XS.lconst X48.here hx rfl (hb hby at_98) k) ?_
      refine own_via (U' := T48.setTop (mkF m 100 #[.val (.long x1), .second, .val (.long x2), .second, .val (.long x3), .second, .val (.long x4), .second, .val (.long x5), .second, .val (.int x6), .val (.ref b1), .val (.long mm), .second, .val (.long (x2 + (mm * (1000000 : Int64)))), .second, .val (.long ((x2 + (mm * (1000000 : Int64))) + x4)), .second] [(.int (lcmpW x4 (0 : Int64))), (.int (if (((x2 + (mm * (1000000 : Int64))) + x4) - (x2 + (mm * (1000000 : Int64)))) < (0 : Int64) then (0 : Int32) else (1 : Int32)))])) (fun t k => XS.lcmp X48.here hx rfl (hb hby at_99) rfl k) ?_
      by_cases hc49 : x4 < (0 : Int64)
      case pos =>
        refine own_via (U' := T48.setTop (mkF m 107 #[.val (.long x1), .second, .val (.long x2), .second, .val (.long x3), .second, .val (.long x4), .second, .val (.long x5), .second, .val (.int x6), .val (.ref b1), .val (.long mm), .second, .val (.long (x2 + (mm * (1000000 : Int64)))), .second, .val (.long ((x2 + (mm * (1000000 : Int64))) + x4)), .second] [(.int (if (((x2 + (mm * (1000000 : Int64))) + x4) - (x2 + (mm * (1000000 : Int64)))) < (0 : Int64) then (0 : Int32) else (1 : Int32)))])) (fun t k => XS.ifYes X48.here hx rfl (pc0 := 100) (pc' := 107) rfl (hb hby at_100) rfl (own_jlt hc49).1 (by decide) (by decide) k) ?_
        refine own_via (U' := T48.setTop (mkF m 108 #[.val (.long x1), .second, .val (.long x2), .second, .val (.long x3), .second, .val (.long x4), .second, .val (.long x5), .second, .val (.int x6), .val (.ref b1), .val (.long mm), .second, .val (.long (x2 + (mm * (1000000 : Int64)))), .second, .val (.long ((x2 + (mm * (1000000 : Int64))) + x4)), .second] [(.int (0 : Int32)), (.int (if (((x2 + (mm * (1000000 : Int64))) + x4) - (x2 + (mm * (1000000 : Int64)))) < (0 : Int64) then (0 : Int32) else (1 : Int32)))])) (fun t k => XS.iconst X48.here hx rfl (hb hby at_107) k) ?_
        refine own_via (U' := T48.setTop (mkF m 111 #[.val (.long x1), .second, .val (.long x2), .second, .val (.long x3), .second, .val (.long x4), .second, .val (.long x5), .second, .val (.int x6), .val (.ref b1), .val (.long mm), .second, .val (.long (x2 + (mm * (1000000 : Int64)))), .second, .val (.long ((x2 + (mm * (1000000 : Int64))) + x4)), .second] [])) (fun t k => XS.icmpNo X48.here hx rfl (hb hby at_108) rfl (teq (by rw [own_lr]; exact if_pos hc49)).2 k) ?_
        refine own_via (U' := T48.setTop (mkF m 112 #[.val (.long x1), .second, .val (.long x2), .second, .val (.long x3), .second, .val (.long x4), .second, .val (.long x5), .second, .val (.int x6), .val (.ref b1), .val (.long mm), .second, .val (.long (x2 + (mm * (1000000 : Int64)))), .second, .val (.long ((x2 + (mm * (1000000 : Int64))) + x4)), .second] [(.int (1 : Int32))])) (fun t k => XS.iconst X48.here hx rfl (hb hby at_111) k) ?_
        refine own_via (U' := T48.setTop (mkF m 116 #[.val (.long x1), .second, .val (.long x2), .second, .val (.long x3), .second, .val (.long x4), .second, .val (.long x5), .second, .val (.int x6), .val (.ref b1), .val (.long mm), .second, .val (.long (x2 + (mm * (1000000 : Int64)))), .second, .val (.long ((x2 + (mm * (1000000 : Int64))) + x4)), .second] [(.int (1 : Int32))])) (fun t k => XS.goto X48.here hx rfl (pc0 := 112) (pc' := 116) rfl (hb hby at_112) (by decide) (by decide) k) ?_
        exact own_ret X48 (v := some (.int (1 : Int32))) (fun h => by rw [Bd.returns] at h; cases h) hlk (fun fs hr => retN X48 hx (t := .boolean) Bd.returns (by simp) (hb hby at_116) hr) (by rw [e48]; exact ⟨rfl, N48⟩) (by decide) (by decide)
      case neg =>
        refine own_via (U' := T48.setTop (mkF m 103 #[.val (.long x1), .second, .val (.long x2), .second, .val (.long x3), .second, .val (.long x4), .second, .val (.long x5), .second, .val (.int x6), .val (.ref b1), .val (.long mm), .second, .val (.long (x2 + (mm * (1000000 : Int64)))), .second, .val (.long ((x2 + (mm * (1000000 : Int64))) + x4)), .second] [(.int (if (((x2 + (mm * (1000000 : Int64))) + x4) - (x2 + (mm * (1000000 : Int64)))) < (0 : Int64) then (0 : Int32) else (1 : Int32)))])) (fun t k => XS.ifNo X48.here hx rfl (hb hby at_100) rfl (own_jnlt hc49).1 k) ?_
        refine own_via (U' := T48.setTop (mkF m 104 #[.val (.long x1), .second, .val (.long x2), .second, .val (.long x3), .second, .val (.long x4), .second, .val (.long x5), .second, .val (.int x6), .val (.ref b1), .val (.long mm), .second, .val (.long (x2 + (mm * (1000000 : Int64)))), .second, .val (.long ((x2 + (mm * (1000000 : Int64))) + x4)), .second] [(.int (1 : Int32)), (.int (if (((x2 + (mm * (1000000 : Int64))) + x4) - (x2 + (mm * (1000000 : Int64)))) < (0 : Int64) then (0 : Int32) else (1 : Int32)))])) (fun t k => XS.iconst X48.here hx rfl (hb hby at_103) k) ?_
        refine own_via (U' := T48.setTop (mkF m 108 #[.val (.long x1), .second, .val (.long x2), .second, .val (.long x3), .second, .val (.long x4), .second, .val (.long x5), .second, .val (.int x6), .val (.ref b1), .val (.long mm), .second, .val (.long (x2 + (mm * (1000000 : Int64)))), .second, .val (.long ((x2 + (mm * (1000000 : Int64))) + x4)), .second] [(.int (1 : Int32)), (.int (if (((x2 + (mm * (1000000 : Int64))) + x4) - (x2 + (mm * (1000000 : Int64)))) < (0 : Int64) then (0 : Int32) else (1 : Int32)))])) (fun t k => XS.goto X48.here hx rfl (pc0 := 104) (pc' := 108) rfl (hb hby at_104) (by decide) (by decide) k) ?_
        refine own_via (U' := T48.setTop (mkF m 111 #[.val (.long x1), .second, .val (.long x2), .second, .val (.long x3), .second, .val (.long x4), .second, .val (.long x5), .second, .val (.int x6), .val (.ref b1), .val (.long mm), .second, .val (.long (x2 + (mm * (1000000 : Int64)))), .second, .val (.long ((x2 + (mm * (1000000 : Int64))) + x4)), .second] [])) (fun t k => XS.icmpNo X48.here hx rfl (hb hby at_108) rfl (teq (by rw [own_lr]; exact if_neg hc49)).2 k) ?_
        refine own_via (U' := T48.setTop (mkF m 112 #[.val (.long x1), .second, .val (.long x2), .second, .val (.long x3), .second, .val (.long x4), .second, .val (.long x5), .second, .val (.int x6), .val (.ref b1), .val (.long mm), .second, .val (.long (x2 + (mm * (1000000 : Int64)))), .second, .val (.long ((x2 + (mm * (1000000 : Int64))) + x4)), .second] [(.int (1 : Int32))])) (fun t k => XS.iconst X48.here hx rfl (hb hby at_111) k) ?_
        refine own_via (U' := T48.setTop (mkF m 116 #[.val (.long x1), .second, .val (.long x2), .second, .val (.long x3), .second, .val (.long x4), .second, .val (.long x5), .second, .val (.int x6), .val (.ref b1), .val (.long mm), .second, .val (.long (x2 + (mm * (1000000 : Int64)))), .second, .val (.long ((x2 + (mm * (1000000 : Int64))) + x4)), .second] [(.int (1 : Int32))])) (fun t k => XS.goto X48.here hx rfl (pc0 := 112) (pc' := 116) rfl (hb hby at_112) (by decide) (by decide) k) ?_
        exact own_ret X48 (v := some (.int (1 : Int32))) (fun h => by rw [Bd.returns] at h; cases h) hlk (fun fs hr => retN X48 hx (t := .boolean) Bd.returns (by simp) (hb hby at_116) hr) (by rw [e48]; exact ⟨rfl, N48⟩) (by decide) (by decide)
set_option maxRecDepth 65536 in
set_option maxHeartbeats 40000000 in
theorem comes_1 {Post : Tables → Env → Array Value → State → Outcome → State → Prop} (hpost : ∀ tb e args s v u, (limb_1_1.after args s (.returned v) u = true ∧ limb_1_2.after args s (.returned v) u = true ∧ True) → FrameEnd s (.returned v) u (Jvm.fieldLocs frame_1_writes args s ++ Jvm.arrayLocs frame_1_arrays args s ++ Jvm.staticLocs frame_1_statics s) 16 128 → Post tb e args s (.returned v) u) :
    ArmFor flags0 classFile x code maxLocals ret World_1 tables_1 room_1 Calls_1 rest_1 Pre_1 Post := by
  intro l hfl _ _ p e ha hc hk s m args below hf hA hF happ hP
  obtain ⟨hcalls, hrest, hpre⟩ := hP
  obtain ⟨-, -, -, hnamed, -, -, -, hat⟩ := (Spec.applies_iff hf).mp happ
  obtain ⟨hg, hn⟩ := and_e (Cond.before_iff.mp (show (Jvm.Cond.and given_1 narrow_1).before args s = true from hpre))
  obtain ⟨hcount, r0⟩ := and_e hg
  obtain ⟨k0, r1⟩ := and_e r0
  obtain ⟨k1, r2⟩ := and_e r1
  obtain ⟨k2, r3⟩ := and_e r2
  obtain ⟨k3, r4⟩ := and_e r3
  obtain ⟨k4, r5⟩ := and_e r4
  obtain ⟨w0, w1, w2, w3, w4, w5, rfl⟩ : ∃ w0 w1 w2 w3 w4 w5 : Value, args = #[w0, w1, w2, w3, w4, w5] := by
    have hs : args.size = 6 := by simpa [Cond.value, given_1] using hcount
    obtain ⟨L⟩ := args
    match L, hs with
    | [w0, w1, w2, w3, w4, w5], _ => exact ⟨w0, w1, w2, w3, w4, w5, rfl⟩
  have hw := fun d (hd : d ∈ tables_1) => atoms_spec (ws := Jvm.Cond.code x code maxLocals ret :: tables_1) hat d (List.mem_cons_of_mem _ hd)
  have hfit : Fit s := fun {y c} hc i hi => by
    obtain ⟨ha, rfl⟩ := Array.getElem?_eq_some_iff.mp hc
    have q := List.all_eq_true.mp ((Array.all_eq_true_iff_forall_mem.mp hF) _ (Array.getElem_mem ha)) i (List.mem_range.mpr hi)
    simpa [Array.getElem?_eq_getElem hi] using q
  obtain ⟨hsets, hown0⟩ := atoms_of _ (rest_1_c_eq ▸ (show rest_1_c.before _ s = true from hrest))
  have hr0 := Cond.before_iff.mp hown0
  obtain ⟨i0, ei0⟩ := isL_v k0
  obtain rfl : w0 = (.long i0) := Option.some.inj ei0
  obtain ⟨i1, ei1⟩ := isL_v k1
  obtain rfl : w1 = (.long i1) := Option.some.inj ei1
  obtain ⟨i2, ei2⟩ := isL_v k2
  obtain rfl : w2 = (.long i2) := Option.some.inj ei2
  obtain ⟨i3, ei3⟩ := isL_v k3
  obtain rfl : w3 = (.long i3) := Option.some.inj ei3
  obtain ⟨i4, ei4⟩ := isL_v k4
  obtain rfl : w4 = (.long i4) := Option.some.inj ei4
  obtain ⟨i5, ei5⟩ := is_v r5
  obtain rfl : w5 = (.int i5) := Option.some.inj ei5
  have na := Cond.before_iff.mp (hsets _ (List.mem_of_getElem? (i := 2) rfl))
  obtain ⟨y0, v0⟩ := exa_v na
  have Sm := Sta.start v0 (Or.inl (hsets _ (List.mem_of_getElem? (i := 1) rfl)))
  have Et := Exa.start v0 na
  have Fs := own_eqJ v0 (Cond.before_iff.mp (hsets _ (List.mem_of_getElem? (i := 5) rfl)))
  have Fm := own_eqJ v0 (Cond.before_iff.mp (hsets _ (List.mem_of_getElem? (i := 6) rfl)))
  obtain ⟨n, o, h1, h2, h3, _, L, rfl, ⟨rfl, N⟩, hq⟩ := rm_Q0 l s _ hw tables_1 i0 i1 i2 i3 i4 i5 y0 s.heap s.heap.size (Nat.le_refl _) Sm Et Fs Fm p e ha hc hk s m _ below hf ((Spec.applies_iff_loose hf).mp happ).1 ⟨rfl, State.Warmed39.refl s, rfl⟩ trivial
  refine ⟨n, _, h1, h2, h3, hpost _ _ _ _ _ _ ⟨Cond.after_iff.mpr rfl, Cond.after_iff.mpr (eq_i res_at (Term.int_eval (1)) rfl), trivial⟩ ⟨hq.1, hq.2.1, (hq.2.2.sift fun y hy => Or.inr (N y hy)).mono (by decide) (by decide)⟩⟩
theorem main_1_1 : Claimed_1_1 := comes_1 fun _ _ _ _ _ _ h hF => ⟨h.1, hF⟩
theorem main_1_2 : Claimed_1_2 := comes_1 fun _ _ _ _ _ _ h hF => ⟨h.2.1, hF⟩
end Jvm.Pilot.@@N@@
namespace Jvm.Pilot.@@N@@
open Jvm Jvm.ClassFile Sem Op Lib Jvm.Free Jvm.Stand Jvm.Pilot.@@N@@.Jvm.D
/-! MADE BY PROGRAM (witnessworld.py) out of the Statement's table words and the real class files: 18 classes; the members and pool entries that the words name. The judged class is class 1, her method 1. -/
namespace start1
open Jvm.ClassFile
def u (s : String) : CpInfo := .utf8 (stringToUtf16 s)
/-- a pool by its gaps: so many unusable entries, then the entry; so many at the end -/
def gap : Nat → List CpInfo → List CpInfo
  | 0, r => r
  | n + 1, r => .unusable :: gap n r
def poolList (es : List (Nat × CpInfo)) (last : Nat) : List CpInfo := es.foldr (fun e r => gap e.1 (e.2 :: r)) (gap last [])
def pool (es : List (Nat × CpInfo)) (last : Nat) : Array CpInfo := ⟨poolList es last⟩
def fileOf (pool : Array CpInfo) (this : Nat) (attrs : Array Attribute := #[]) (ms : Array MethodInfo := #[]) (fl : Nat := 33) (sup : Nat := 0) (ifs : Array Nat := #[]) (fds : Array FieldInfo := #[]) : ClassFile where
  minorVersion := 0
  majorVersion := 65
  constantPool := pool
  accessFlags := fl
  thisClass := this
  superClass := sup
  interfaces := ifs
  fields := fds
  methods := ms
  attributes := attrs
def plain (name : String) (sup : Option ClassId) : Class where
  name := name
  kind := .ordinary
  loader := none
  accessFlags := 33
  super := sup
  interfaces := #[]
  cf := none
  fields := #[]
  methods := #[]
  instanceTypes := #[]
  staticTypes := #[]
  resolved := #[]
  callSites := []
  init := .initialized
  statics := none
  mirror := none

def pool0 : Array CpInfo := pool [(5, u "<init>"), (0, u "()V"), (1, .class_ 10), (1, u "java/lang/Object")] 113

def k0c0 : Code := { maxStack := 0, maxLocals := 1, code := object_method_1_code, exceptionTable := #[], attributes := #[] }
def k0m0 : Method := { name := "<init>", desc := "()V", sig := { parameters := [], returnType := none }, accessFlags := 1, code := some k0c0 }
/-- java/lang/Object -/
def k0 : Class := { plain "java/lang/Object" none with
  accessFlags := 33
  interfaces := #[]
  cf := some (fileOf pool0 8 #[] #[{ accessFlags := 1, nameIndex := 5, descriptorIndex := 6, attributes := #[] }] 33 0 #[] #[])
  fields := #[]
  methods := #[k0m0]
  instanceTypes := #[]
  staticTypes := #[]
  resolved := Array.replicate 124 none
  statics := none }

def pool1 : Array CpInfo := pool [(2, .class_ 4), (1, u "java/lang/Object"), (0, u "<init>"), (0, u "()V"), (0, .class_ 8), (0, u "com/example/assignor/assignor/client/RequestTimeouts"), (0, .methodref 7 10), (0, .nameAndType 5 11), (0, u "(J)V"), (0, .methodref 7 13), (0, .nameAndType 14 15), (0, u "leaseRanOut"), (0, u "(J)Z"), (0, .long 1099511627775), (1, .methodref 7 19), (0, .nameAndType 20 21), (0, u "answered"), (0, u "(JJJ)V"), (0, .long 1000000), (1, .class_ 25), (0, u "com/example/assignor/assignor/client/RequestTimeoutsLeaseRanOutPinLaw"), (2, u "law"), (0, u "(JJJJJI)Z")] 3

def k1m0 : Method := { name := "<init>", desc := "()V", sig := { parameters := [], returnType := none }, accessFlags := 1, code := none }
def k1c1 : Code := { maxStack := 9, maxLocals := 18, code := code, exceptionTable := #[], attributes := #[] }
def k1m1 : Method := { name := "law", desc := "(JJJJJI)Z", sig := { parameters := [.long, .long, .long, .long, .long, .int], returnType := some .boolean }, accessFlags := 9, code := some k1c1 }
/-- com/example/assignor/assignor/client/RequestTimeoutsLeaseRanOutPinLaw -/
def k1 : Class := { plain "com/example/assignor/assignor/client/RequestTimeoutsLeaseRanOutPinLaw" (some 0) with
  accessFlags := 49
  interfaces := #[]
  cf := some (fileOf pool1 24 #[] #[{ accessFlags := 1, nameIndex := 5, descriptorIndex := 6, attributes := #[] }, { accessFlags := 9, nameIndex := 28, descriptorIndex := 29, attributes := #[] }] 49 2 #[] #[])
  fields := #[]
  methods := #[k1m0, k1m1]
  instanceTypes := #[]
  staticTypes := #[]
  resolved := Array.replicate 33 none
  statics := none }

def pool2 : Array CpInfo := pool [(1, .methodref 2 3), (0, .class_ 4), (0, .nameAndType 5 6), (0, u "java/lang/Object"), (0, u "<init>"), (0, u "()V"), (0, .class_ 8), (0, u "com/example/assignor/assignor/client/RequestTimeouts"), (0, .fieldref 7 10), (0, .nameAndType 11 12), (0, u "roundTrips"), (0, u "[J"), (0, .fieldref 14 15), (0, .class_ 16), (0, .nameAndType 17 18), (0, u "java/util/concurrent/TimeUnit"), (0, u "MILLISECONDS"), (0, u "Ljava/util/concurrent/TimeUnit;"), (0, .methodref 14 20), (0, .nameAndType 21 22), (0, u "toNanos"), (0, u "(J)J"), (0, .fieldref 7 24), (0, .nameAndType 25 26), (0, u "leaseNanos"), (0, u "J"), (2, u "lastGivenUp"), (0, u "Z"), (0, .fieldref 7 32), (0, .nameAndType 33 30), (0, u "answered"), (0, .fieldref 7 35), (0, .nameAndType 36 26), (0, u "leaseEndNanos"), (18, .fieldref 7 56), (0, .nameAndType 57 58), (0, u "nextRoundTrip"), (0, u "I"), (0, u "RECENT"), (2, u "(J)V"), (6, u "leaseRanOut"), (0, u "(J)Z"), (0, u "(JJJ)V")] 3

def k2c0 : Code := { maxStack := 4, maxLocals := 3, code := prog_9_method_1_code, exceptionTable := #[], attributes := #[] }
def k2m0 : Method := { name := "<init>", desc := "(J)V", sig := { parameters := [.long], returnType := none }, accessFlags := 0, code := some k2c0 }
def k2c1 : Code := { maxStack := 4, maxLocals := 3, code := prog_9_method_4_code, exceptionTable := #[], attributes := #[] }
def k2m1 : Method := { name := "leaseRanOut", desc := "(J)Z", sig := { parameters := [.long], returnType := some .boolean }, accessFlags := 0, code := some k2c1 }
def k2c2 : Code := { maxStack := 6, maxLocals := 7, code := prog_9_method_5_code, exceptionTable := #[], attributes := #[] }
def k2m2 : Method := { name := "answered", desc := "(JJJ)V", sig := { parameters := [.long, .long, .long], returnType := none }, accessFlags := 0, code := some k2c2 }
/-- com/example/assignor/assignor/client/RequestTimeouts -/
def k2 : Class := { plain "com/example/assignor/assignor/client/RequestTimeouts" (some 0) with
  accessFlags := 32
  interfaces := #[]
  cf := some (fileOf pool2 7 #[] #[{ accessFlags := 0, nameIndex := 5, descriptorIndex := 62, attributes := #[] }, { accessFlags := 0, nameIndex := 69, descriptorIndex := 70, attributes := #[] }, { accessFlags := 0, nameIndex := 33, descriptorIndex := 71, attributes := #[] }] 32 2 #[] #[{ accessFlags := 24, nameIndex := 59, descriptorIndex := 58, attributes := #[] }, { accessFlags := 18, nameIndex := 11, descriptorIndex := 12, attributes := #[] }, { accessFlags := 2, nameIndex := 57, descriptorIndex := 58, attributes := #[] }, { accessFlags := 2, nameIndex := 33, descriptorIndex := 30, attributes := #[] }, { accessFlags := 2, nameIndex := 25, descriptorIndex := 26, attributes := #[] }, { accessFlags := 2, nameIndex := 36, descriptorIndex := 26, attributes := #[] }, { accessFlags := 2, nameIndex := 29, descriptorIndex := 30, attributes := #[] }])
  fields := #[{ name := "RECENT", type := .int, accessFlags := 24, slot := 0, constantValue := 0 }, { name := "roundTrips", type := (.array .long), accessFlags := 18, slot := 0, constantValue := 0 }, { name := "nextRoundTrip", type := .int, accessFlags := 2, slot := 1, constantValue := 0 }, { name := "answered", type := .boolean, accessFlags := 2, slot := 2, constantValue := 0 }, { name := "leaseNanos", type := .long, accessFlags := 2, slot := 3, constantValue := 0 }, { name := "leaseEndNanos", type := .long, accessFlags := 2, slot := 4, constantValue := 0 }, { name := "lastGivenUp", type := .boolean, accessFlags := 2, slot := 5, constantValue := 0 }]
  methods := #[k2m0, k2m1, k2m2]
  instanceTypes := #[(.array .long), .int, .boolean, .long, .long, .boolean]
  staticTypes := #[.int]
  resolved := Array.replicate 75 none
  statics := none }

def pool3 : Array CpInfo := pool [(1, .class_ 2), (0, u "java/lang/constant/Constable"), (0, .class_ 4), (0, u "java/lang/Object")] 6

/-- java/lang/constant/Constable -/
def k3 : Class := { plain "java/lang/constant/Constable" (some 0) with
  accessFlags := 1537
  interfaces := #[]
  cf := some (fileOf pool3 1 #[] #[] 1537 3 #[] #[])
  fields := #[]
  methods := #[]
  instanceTypes := #[]
  staticTypes := #[]
  resolved := Array.replicate 11 none
  statics := none }

def pool4 : Array CpInfo := pool [(1, .class_ 2), (0, u "java/lang/Comparable"), (0, .class_ 4), (0, u "java/lang/Object")] 7

/-- java/lang/Comparable -/
def k4 : Class := { plain "java/lang/Comparable" (some 0) with
  accessFlags := 1537
  interfaces := #[]
  cf := some (fileOf pool4 1 #[] #[] 1537 3 #[] #[])
  fields := #[]
  methods := #[]
  instanceTypes := #[]
  staticTypes := #[]
  resolved := Array.replicate 12 none
  statics := none }

def pool5 : Array CpInfo := pool [(1, .class_ 2), (0, u "java/io/Serializable"), (0, .class_ 4), (0, u "java/lang/Object")] 2

/-- java/io/Serializable -/
def k5 : Class := { plain "java/io/Serializable" (some 0) with
  accessFlags := 1537
  interfaces := #[]
  cf := some (fileOf pool5 1 #[] #[] 1537 3 #[] #[])
  fields := #[]
  methods := #[]
  instanceTypes := #[]
  staticTypes := #[]
  resolved := Array.replicate 7 none
  statics := none }

def pool6 : Array CpInfo := pool [(2, .class_ 4), (1, u "java/lang/Enum"), (0, u "name"), (0, u "Ljava/lang/String;"), (2, u "ordinal"), (0, u "I"), (1, .class_ 14), (1, u "java/lang/Object"), (4, u "hash"), (86, .class_ 108), (1, u "java/lang/Enum$EnumDesc"), (2, .class_ 112), (0, u "java/lang/constant/Constable"), (0, .class_ 114), (0, u "java/lang/Comparable"), (0, .class_ 116), (0, u "java/io/Serializable")] 87

/-- java/lang/Enum -/
def k6 : Class := { plain "java/lang/Enum" (some 0) with
  accessFlags := 1057
  interfaces := #[3, 4, 5]
  cf := some (fileOf pool6 2 #[.nestMembers #[106]] #[] 1057 12 #[111, 113, 115] #[{ accessFlags := 18, nameIndex := 5, descriptorIndex := 6, attributes := #[] }, { accessFlags := 18, nameIndex := 9, descriptorIndex := 10, attributes := #[] }, { accessFlags := 2, nameIndex := 19, descriptorIndex := 10, attributes := #[] }])
  fields := #[{ name := "name", type := (.object "java/lang/String"), accessFlags := 18, slot := 0, constantValue := 0 }, { name := "ordinal", type := .int, accessFlags := 18, slot := 1, constantValue := 0 }, { name := "hash", type := .int, accessFlags := 2, slot := 2, constantValue := 0 }]
  methods := #[]
  instanceTypes := #[(.object "java/lang/String"), .int, .int]
  staticTypes := #[]
  resolved := Array.replicate 204 none
  statics := none }

def pool7 : Array CpInfo := pool [(1, .class_ 2), (0, u "java/util/concurrent/TimeUnit"), (2, u "NANOSECONDS"), (0, u "Ljava/util/concurrent/TimeUnit;"), (2, u "MICROSECONDS"), (2, u "MILLISECONDS"), (2, u "SECONDS"), (2, u "MINUTES"), (2, u "HOURS"), (2, u "DAYS"), (2, u "$VALUES"), (0, u "[Ljava/util/concurrent/TimeUnit;"), (6, .class_ 37), (1, u "java/lang/Enum"), (6, .fieldref 1 45), (0, .nameAndType 46 47), (0, u "scale"), (0, u "J"), (2, .long 9223372036854775807), (1, .fieldref 1 53), (0, .nameAndType 54 47), (0, u "maxNanos"), (4, u "microRatio"), (2, u "maxMicros"), (4, u "milliRatio"), (0, u "I"), (2, u "maxMillis"), (4, u "secRatio"), (2, u "maxSecs"), (0, .long 9223372036854775808), (7, u "toNanos"), (0, u "(J)J"), (73, .class_ 165), (1, u "java/util/concurrent/TimeUnit$1"), (46, u "NANO_SCALE"), (3, u "MICRO_SCALE"), (0, u "MILLI_SCALE"), (0, u "SECOND_SCALE"), (0, u "MINUTE_SCALE"), (0, u "HOUR_SCALE"), (0, u "DAY_SCALE")] 61

def k7c0 : Code := { maxStack := 6, maxLocals := 7, code := jdk_2799_method_7_code, exceptionTable := #[], attributes := #[] }
def k7m0 : Method := { name := "toNanos", desc := "(J)J", sig := { parameters := [.long], returnType := some .long }, accessFlags := 1, code := some k7c0 }
/-- java/util/concurrent/TimeUnit -/
def k7 : Class := { plain "java/util/concurrent/TimeUnit" (some 6) with
  accessFlags := 16433
  interfaces := #[]
  cf := some (fileOf pool7 1 #[.nestMembers #[163]] #[{ accessFlags := 1, nameIndex := 88, descriptorIndex := 89, attributes := #[] }] 16433 35 #[] #[{ accessFlags := 16409, nameIndex := 5, descriptorIndex := 6, attributes := #[] }, { accessFlags := 16409, nameIndex := 9, descriptorIndex := 6, attributes := #[] }, { accessFlags := 16409, nameIndex := 12, descriptorIndex := 6, attributes := #[] }, { accessFlags := 16409, nameIndex := 15, descriptorIndex := 6, attributes := #[] }, { accessFlags := 16409, nameIndex := 18, descriptorIndex := 6, attributes := #[] }, { accessFlags := 16409, nameIndex := 21, descriptorIndex := 6, attributes := #[] }, { accessFlags := 16409, nameIndex := 24, descriptorIndex := 6, attributes := #[] }, { accessFlags := 26, nameIndex := 212, descriptorIndex := 47, attributes := #[] }, { accessFlags := 26, nameIndex := 216, descriptorIndex := 47, attributes := #[] }, { accessFlags := 26, nameIndex := 217, descriptorIndex := 47, attributes := #[] }, { accessFlags := 26, nameIndex := 218, descriptorIndex := 47, attributes := #[] }, { accessFlags := 26, nameIndex := 219, descriptorIndex := 47, attributes := #[] }, { accessFlags := 26, nameIndex := 220, descriptorIndex := 47, attributes := #[] }, { accessFlags := 26, nameIndex := 221, descriptorIndex := 47, attributes := #[] }, { accessFlags := 18, nameIndex := 46, descriptorIndex := 47, attributes := #[] }, { accessFlags := 18, nameIndex := 54, descriptorIndex := 47, attributes := #[] }, { accessFlags := 18, nameIndex := 62, descriptorIndex := 47, attributes := #[] }, { accessFlags := 18, nameIndex := 71, descriptorIndex := 47, attributes := #[] }, { accessFlags := 18, nameIndex := 79, descriptorIndex := 47, attributes := #[] }, { accessFlags := 18, nameIndex := 59, descriptorIndex := 47, attributes := #[] }, { accessFlags := 18, nameIndex := 67, descriptorIndex := 68, attributes := #[] }, { accessFlags := 18, nameIndex := 76, descriptorIndex := 68, attributes := #[] }, { accessFlags := 4122, nameIndex := 27, descriptorIndex := 28, attributes := #[] }])
  fields := #[{ name := "NANOSECONDS", type := (.object "java/util/concurrent/TimeUnit"), accessFlags := 16409, slot := 0, constantValue := 0 }, { name := "MICROSECONDS", type := (.object "java/util/concurrent/TimeUnit"), accessFlags := 16409, slot := 1, constantValue := 0 }, { name := "MILLISECONDS", type := (.object "java/util/concurrent/TimeUnit"), accessFlags := 16409, slot := 2, constantValue := 0 }, { name := "SECONDS", type := (.object "java/util/concurrent/TimeUnit"), accessFlags := 16409, slot := 3, constantValue := 0 }, { name := "MINUTES", type := (.object "java/util/concurrent/TimeUnit"), accessFlags := 16409, slot := 4, constantValue := 0 }, { name := "HOURS", type := (.object "java/util/concurrent/TimeUnit"), accessFlags := 16409, slot := 5, constantValue := 0 }, { name := "DAYS", type := (.object "java/util/concurrent/TimeUnit"), accessFlags := 16409, slot := 6, constantValue := 0 }, { name := "NANO_SCALE", type := .long, accessFlags := 26, slot := 7, constantValue := 0 }, { name := "MICRO_SCALE", type := .long, accessFlags := 26, slot := 8, constantValue := 0 }, { name := "MILLI_SCALE", type := .long, accessFlags := 26, slot := 9, constantValue := 0 }, { name := "SECOND_SCALE", type := .long, accessFlags := 26, slot := 10, constantValue := 0 }, { name := "MINUTE_SCALE", type := .long, accessFlags := 26, slot := 11, constantValue := 0 }, { name := "HOUR_SCALE", type := .long, accessFlags := 26, slot := 12, constantValue := 0 }, { name := "DAY_SCALE", type := .long, accessFlags := 26, slot := 13, constantValue := 0 }, { name := "scale", type := .long, accessFlags := 18, slot := 3, constantValue := 0 }, { name := "maxNanos", type := .long, accessFlags := 18, slot := 4, constantValue := 0 }, { name := "maxMicros", type := .long, accessFlags := 18, slot := 5, constantValue := 0 }, { name := "maxMillis", type := .long, accessFlags := 18, slot := 6, constantValue := 0 }, { name := "maxSecs", type := .long, accessFlags := 18, slot := 7, constantValue := 0 }, { name := "microRatio", type := .long, accessFlags := 18, slot := 8, constantValue := 0 }, { name := "milliRatio", type := .int, accessFlags := 18, slot := 9, constantValue := 0 }, { name := "secRatio", type := .int, accessFlags := 18, slot := 10, constantValue := 0 }, { name := "$VALUES", type := (.array (.object "java/util/concurrent/TimeUnit")), accessFlags := 4122, slot := 14, constantValue := 0 }]
  methods := #[k7m0]
  instanceTypes := #[(.object "java/lang/String"), .int, .int, .long, .long, .long, .long, .long, .long, .int, .int]
  staticTypes := #[(.object "java/util/concurrent/TimeUnit"), (.object "java/util/concurrent/TimeUnit"), (.object "java/util/concurrent/TimeUnit"), (.object "java/util/concurrent/TimeUnit"), (.object "java/util/concurrent/TimeUnit"), (.object "java/util/concurrent/TimeUnit"), (.object "java/util/concurrent/TimeUnit"), .long, .long, .long, .long, .long, .long, .long, (.array (.object "java/util/concurrent/TimeUnit"))]
  resolved := Array.replicate 283 none
  statics := some 0 }

def pool8 : Array CpInfo := pool [(2, .class_ 4), (1, u "java/lang/CharSequence"), (42, .class_ 48), (0, u "java/lang/CharSequence$1CodePointIterator"), (10, .class_ 60), (0, u "java/lang/CharSequence$1CharIterator"), (5, .class_ 67), (0, u "java/lang/Object")] 63

/-- java/lang/CharSequence -/
def k8 : Class := { plain "java/lang/CharSequence" (some 0) with
  accessFlags := 1537
  interfaces := #[]
  cf := some (fileOf pool8 2 #[.nestMembers #[47, 59]] #[] 1537 66 #[] #[])
  fields := #[]
  methods := #[]
  instanceTypes := #[]
  staticTypes := #[]
  resolved := Array.replicate 131 none
  statics := none }

def pool9 : Array CpInfo := pool [(1, .class_ 2), (0, u "java/lang/constant/ConstantDesc"), (0, .class_ 4), (0, u "java/lang/Object")] 32

/-- java/lang/constant/ConstantDesc -/
def k9 : Class := { plain "java/lang/constant/ConstantDesc" (some 0) with
  accessFlags := 1537
  interfaces := #[]
  cf := some (fileOf pool9 1 #[] #[] 1537 3 #[] #[])
  fields := #[]
  methods := #[]
  instanceTypes := #[]
  staticTypes := #[]
  resolved := Array.replicate 37 none
  statics := none }

def pool10 : Array CpInfo := pool [(2, .class_ 4), (1, u "java/lang/Object"), (0, u "<init>"), (0, u "()V"), (3, .class_ 12), (1, u "java/lang/String"), (0, u "value"), (0, u "[B"), (2, u "coder"), (0, u "B"), (2, u "hash"), (0, u "I"), (2, u "hashIsZero"), (0, u "Z"), (13, u "COMPACT_STRINGS"), (534, .class_ 576), (0, u "java/lang/CharSequence"), (22, u "CASE_INSENSITIVE_ORDER"), (0, u "Ljava/util/Comparator;"), (500, u "serialPersistentFields"), (0, u "[Ljava/io/ObjectStreamField;"), (0, .class_ 1104), (0, u "java/lang/String$CaseInsensitiveComparator"), (1, .class_ 1107), (0, u "java/io/Serializable"), (0, .class_ 1109), (0, u "java/lang/Comparable"), (0, .class_ 1111), (0, u "java/lang/constant/Constable"), (0, .class_ 1113), (0, u "java/lang/constant/ConstantDesc"), (2, u "serialVersionUID"), (0, u "J"), (3, u "REPL"), (0, u "C"), (2, u "LATIN1"), (1, u "UTF16")] 323

def k10m0 : Method := { name := "<init>", desc := "()V", sig := { parameters := [], returnType := none }, accessFlags := 1, code := none }
/-- java/lang/String -/
def k10 : Class := { plain "java/lang/String" (some 0) with
  accessFlags := 49
  interfaces := #[5, 4, 8, 3, 9]
  cf := some (fileOf pool10 10 #[.nestMembers #[1103]] #[{ accessFlags := 1, nameIndex := 5, descriptorIndex := 6, attributes := #[] }] 49 2 #[1106, 1108, 575, 1110, 1112] #[{ accessFlags := 18, nameIndex := 13, descriptorIndex := 14, attributes := #[] }, { accessFlags := 18, nameIndex := 17, descriptorIndex := 18, attributes := #[] }, { accessFlags := 2, nameIndex := 21, descriptorIndex := 22, attributes := #[] }, { accessFlags := 2, nameIndex := 25, descriptorIndex := 26, attributes := #[] }, { accessFlags := 26, nameIndex := 1116, descriptorIndex := 1117, attributes := #[] }, { accessFlags := 24, nameIndex := 40, descriptorIndex := 26, attributes := #[] }, { accessFlags := 26, nameIndex := 1101, descriptorIndex := 1102, attributes := #[] }, { accessFlags := 26, nameIndex := 1121, descriptorIndex := 1122, attributes := #[] }, { accessFlags := 25, nameIndex := 599, descriptorIndex := 600, attributes := #[] }, { accessFlags := 24, nameIndex := 1125, descriptorIndex := 18, attributes := #[] }, { accessFlags := 24, nameIndex := 1127, descriptorIndex := 18, attributes := #[] }])
  fields := #[{ name := "value", type := (.array .byte), accessFlags := 18, slot := 0, constantValue := 0 }, { name := "coder", type := .byte, accessFlags := 18, slot := 1, constantValue := 0 }, { name := "hash", type := .int, accessFlags := 2, slot := 2, constantValue := 0 }, { name := "hashIsZero", type := .boolean, accessFlags := 2, slot := 3, constantValue := 0 }, { name := "serialVersionUID", type := .long, accessFlags := 26, slot := 0, constantValue := 0 }, { name := "COMPACT_STRINGS", type := .boolean, accessFlags := 24, slot := 1, constantValue := 0 }, { name := "serialPersistentFields", type := (.array (.object "java/io/ObjectStreamField")), accessFlags := 26, slot := 2, constantValue := 0 }, { name := "REPL", type := .char, accessFlags := 26, slot := 3, constantValue := 0 }, { name := "CASE_INSENSITIVE_ORDER", type := (.object "java/util/Comparator"), accessFlags := 25, slot := 4, constantValue := 0 }, { name := "LATIN1", type := .byte, accessFlags := 24, slot := 5, constantValue := 0 }, { name := "UTF16", type := .byte, accessFlags := 24, slot := 6, constantValue := 0 }]
  methods := #[k10m0]
  instanceTypes := #[(.array .byte), .byte, .int, .boolean]
  staticTypes := #[.long, .boolean, (.array (.object "java/io/ObjectStreamField")), .char, (.object "java/util/Comparator"), .byte, .byte]
  resolved := Array.replicate 1451 none
  statics := none }

def pool11 : Array CpInfo := pool [(1, u "java/lang/Cloneable"), (0, .class_ 1), (0, u "java/lang/Object"), (0, .class_ 3)] 3

/-- java/lang/Cloneable -/
def k11 : Class := { plain "java/lang/Cloneable" (some 0) with
  accessFlags := 1537
  interfaces := #[]
  cf := some (fileOf pool11 2 #[] #[] 1537 4 #[] #[])
  fields := #[]
  methods := #[]
  instanceTypes := #[]
  staticTypes := #[]
  resolved := Array.replicate 8 none
  statics := none }

/-- the primitive byte -/
def k12 : Class := { plain "byte" none with kind := .primitive 'B', accessFlags := 0x411 }
/-- [B -/
def k13 : Class := { plain "[B" (some 0) with kind := .array 12 .byte, interfaces := #[11, 5], accessFlags := 1041 }

/-- the primitive int -/
def k14 : Class := { plain "int" none with kind := .primitive 'I', accessFlags := 0x411 }
/-- [I -/
def k15 : Class := { plain "[I" (some 0) with kind := .array 14 .int, interfaces := #[11, 5], accessFlags := 1041 }

/-- the primitive long -/
def k16 : Class := { plain "long" none with kind := .primitive 'J', accessFlags := 0x411 }
/-- [J -/
def k17 : Class := { plain "[J" (some 0) with kind := .array 16 .long, interfaces := #[11, 5], accessFlags := 1041 }

def heap : Heap := #[{ cls := 7, slots := #[.null, .null, .ref 2, .null, .null, .null, .null, .long 0, .long 0, .long 0, .long 0, .long 0, .long 0, .long 0, .null], vm := .statics 7 },
  { cls := 10, slots := #[.null, .int 0, .int 0, .int 0], vm := .none },
  { cls := 7, slots := #[.ref 1, .int 2, .int 0, .long 1000000, .long 9223372036854, .long 9223372036854775, .long 9223372036854775807, .long 9223372036854775, .long 1000, .int 1, .int 1000], vm := .none }]
def classes : Array Class := #[k0, k1, k2, k3, k4, k5, k6, k7, k8, k9, k10, k11, k12, k13, k14, k15, k16, k17]
def interned : List (Array UInt16 × Addr) := []
def slotsUsed : Nat := 30
def theMethod : MethodId := ⟨1, 1⟩
def args0 : Array Value := #[.long 5, .long 7, .long 8, .long 9, .long 1, .int 3]
def aboutOver (below : List Frame) : State where
  vm := { classes := classes, interned := interned.toArray }
  heap := heap
  slotsUsed := slotsUsed
  threads := #[{ frames := .invoking theMethod args0 :: below }]
def below0 : List Frame := [.native { method := ⟨0, 0⟩, args := #[] }]
def about1 : State := aboutOver below0
def p0 : Program := .bare "" "" ""
def e0 : Env := launch0.env 0 0 0
theorem w_frames : about1.frames = Frame.invoking theMethod args0 :: below0 := rfl
set_option maxRecDepth 65536 in
theorem w_args : argsFit about1.vm theMethod args0 = true := by decide +kernel
set_option maxRecDepth 65536 in
theorem w_heap : heapFits about1 = true := by decide +kernel
set_option maxRecDepth 65536 in
theorem w_runnable : about1.curStatus? = some .runnable := by decide +kernel
set_option maxRecDepth 65536 in
theorem w_alone : about1.alone = true := by decide +kernel
set_option maxRecDepth 65536 in
theorem w_named : about1.methodNamed? x = some theMethod := by decide +kernel
set_option maxRecDepth 65536 in
theorem w_hears : about1.hears theMethod below0 = true := by decide +kernel
set_option maxRecDepth 65536 in
theorem w_ripe : about1.ripe theMethod args0 below0 = true := by decide +kernel
theorem w_running : about1.status = .running := rfl
set_option maxRecDepth 65536 in
theorem w_room : about1.hasRoom e0.platform room_1 = true :=
  launch0.hasRoom_least _ room_1 (by decide +kernel) (by decide +kernel) (by decide +kernel) (by decide +kernel) (by decide +kernel) (by decide +kernel)
theorem allAtoms_all (ts : List Jvm.Cond) (a : Array Jvm.Value) (st : Jvm.State) : (allAtoms ts).before a st = ts.all (fun c => c.before a st) := by
  induction ts with
  | nil => rfl
  | cons c t ih =>
    show (Jvm.Cond.and c (allAtoms t)).before a st = _
    rw [Jvm.Cond.before_and, ih, List.all_cons]
def words1 : List Jvm.Cond := Jvm.Cond.code x code maxLocals ret :: tables_1
/-- a 'code' word, met by the world's own term for the bytes: nothing is compared byte by byte -/
theorem code_word {y : MethodName} {bytes : ByteArray} {mx : Nat} {rt : Option FieldType} {a : Array Value} {s : State} {m : MethodId} {meth : Method} {c : Code} (h1 : s.methodNamed? y = some m) (h2 : s.vm.method? m = some meth) (h3 : meth.code = some c) (h4 : c.code = bytes)
    (h5 : (c.maxLocals == mx && c.exceptionTable.isEmpty && decide (c.maxStack ≤ mostOperands) && decide (meth.sig.returnType = rt) && !meth.locks && decide (parseMethodDescriptor y.desc = some meth.sig)) = true) : (Jvm.Cond.code y bytes mx rt).before a s = true := by
  simp only [Bool.and_eq_true, beq_iff_eq, Bool.not_eq_true', decide_eq_true_eq] at h5
  obtain ⟨⟨⟨⟨⟨g1, g2⟩, g3⟩, g4⟩, g5⟩, g6⟩ := h5
  simp [Cond.before, Cond.holds, Cond.value, h1, h2, h3, h4, g1, g2, g3, g4, g5, g6]
def isCode : Jvm.Cond → Bool
  | .code _ _ _ _ => true
  | _ => false
theorem all_split {L : List Jvm.Cond} {P : Jvm.Cond → Bool} (h1 : L.all (fun c => isCode c || P c) = true) (h2 : ∀ c ∈ L.filter isCode, P c = true) : L.all P = true := by
  refine List.all_eq_true.mpr fun c hc => ?_
  have h := List.all_eq_true.mp h1 c hc
  rcases Bool.eq_false_or_eq_true (isCode c) with hi | hi
  · exact h2 c (List.mem_filter.mpr ⟨hc, hi⟩)
  · simpa [hi] using h
set_option maxRecDepth 65536 in
theorem w_c0 : (Jvm.Cond.code x code maxLocals ret).before args0 about1 = true := code_word (m := ⟨1, 1⟩) (meth := k1m1) (c := k1c1) (by decide +kernel) rfl rfl rfl (by decide +kernel)
set_option maxRecDepth 65536 in
theorem w_c1 : (Jvm.Cond.code ({ cls := "com/example/assignor/assignor/client/RequestTimeouts", name := "<init>", desc := "(J)V" } : Jvm.MethodName) prog_9_method_1_code (3 : Nat) (Option.none : Option Jvm.ClassFile.FieldType)).before args0 about1 = true := code_word (m := ⟨2, 0⟩) (meth := k2m0) (c := k2c0) (by decide +kernel) rfl rfl rfl (by decide +kernel)
set_option maxRecDepth 65536 in
theorem w_c2 : (Jvm.Cond.code ({ cls := "java/lang/Object", name := "<init>", desc := "()V" } : Jvm.MethodName) object_method_1_code (1 : Nat) (Option.none : Option Jvm.ClassFile.FieldType)).before args0 about1 = true := code_word (m := ⟨0, 0⟩) (meth := k0m0) (c := k0c0) (by decide +kernel) rfl rfl rfl (by decide +kernel)
set_option maxRecDepth 65536 in
theorem w_c3 : (Jvm.Cond.code ({ cls := "java/util/concurrent/TimeUnit", name := "toNanos", desc := "(J)J" } : Jvm.MethodName) jdk_2799_method_7_code (7 : Nat) (Option.some Jvm.ClassFile.FieldType.long)).before args0 about1 = true := code_word (m := ⟨7, 0⟩) (meth := k7m0) (c := k7c0) (by decide +kernel) rfl rfl rfl (by decide +kernel)
set_option maxRecDepth 65536 in
theorem w_c4 : (Jvm.Cond.code ({ cls := "com/example/assignor/assignor/client/RequestTimeouts", name := "leaseRanOut", desc := "(J)Z" } : Jvm.MethodName) prog_9_method_4_code (3 : Nat) (Option.some Jvm.ClassFile.FieldType.boolean)).before args0 about1 = true := code_word (m := ⟨2, 1⟩) (meth := k2m1) (c := k2c1) (by decide +kernel) rfl rfl rfl (by decide +kernel)
set_option maxRecDepth 65536 in
theorem w_c5 : (Jvm.Cond.code ({ cls := "com/example/assignor/assignor/client/RequestTimeouts", name := "answered", desc := "(JJJ)V" } : Jvm.MethodName) prog_9_method_5_code (7 : Nat) (Option.none : Option Jvm.ClassFile.FieldType)).before args0 about1 = true := code_word (m := ⟨2, 2⟩) (meth := k2m2) (c := k2c2) (by decide +kernel) rfl rfl rfl (by decide +kernel)
def codes1 : List Jvm.Cond := [Jvm.Cond.code x code maxLocals ret, Jvm.Cond.code ({ cls := "com/example/assignor/assignor/client/RequestTimeouts", name := "<init>", desc := "(J)V" } : Jvm.MethodName) prog_9_method_1_code (3 : Nat) (Option.none : Option Jvm.ClassFile.FieldType), Jvm.Cond.code ({ cls := "java/lang/Object", name := "<init>", desc := "()V" } : Jvm.MethodName) object_method_1_code (1 : Nat) (Option.none : Option Jvm.ClassFile.FieldType), Jvm.Cond.code ({ cls := "java/util/concurrent/TimeUnit", name := "toNanos", desc := "(J)J" } : Jvm.MethodName) jdk_2799_method_7_code (7 : Nat) (Option.some Jvm.ClassFile.FieldType.long), Jvm.Cond.code ({ cls := "com/example/assignor/assignor/client/RequestTimeouts", name := "leaseRanOut", desc := "(J)Z" } : Jvm.MethodName) prog_9_method_4_code (3 : Nat) (Option.some Jvm.ClassFile.FieldType.boolean), Jvm.Cond.code ({ cls := "com/example/assignor/assignor/client/RequestTimeouts", name := "answered", desc := "(JJJ)V" } : Jvm.MethodName) prog_9_method_5_code (7 : Nat) (Option.none : Option Jvm.ClassFile.FieldType)]
set_option maxRecDepth 65536 in
theorem codes_eq : words1.filter isCode = codes1 := rfl
theorem w_codes : ∀ c ∈ words1.filter isCode, c.before args0 about1 = true := by
  rw [codes_eq]
  intro c hc
  simp only [codes1, List.mem_cons, List.not_mem_nil, or_false] at hc
  rcases hc with rfl | rfl | rfl | rfl | rfl | rfl
  · exact w_c0
  · exact w_c1
  · exact w_c2
  · exact w_c3
  · exact w_c4
  · exact w_c5
set_option maxRecDepth 65536 in
theorem w_t1 : (words1.take 24).all (fun c => isCode c || c.before args0 about1) = true := by decide +kernel
set_option maxRecDepth 65536 in
theorem w_t2 : (words1.drop 24).all (fun c => isCode c || c.before args0 about1) = true := by decide +kernel
theorem w_tables : (allAtoms (Jvm.Cond.code x code maxLocals ret :: tables_1)).before args0 about1 = true := by
  rw [allAtoms_all]
  show words1.all (fun c => c.before args0 about1) = true
  refine all_split ?_ w_codes
  rw [← List.take_append_drop 24 words1, List.all_append, w_t1, w_t2]
  rfl
set_option maxRecDepth 65536 in
theorem w_rest : rest_1_c.before args0 about1 = true := by decide +kernel
set_option maxRecDepth 65536 in
theorem w_case : (Jvm.Cond.and given_1 narrow_1).before args0 about1 = true := by decide +kernel
theorem w_applies : (headSpec (Jvm.Cond.code x code maxLocals ret :: tables_1) room_1).applies x e0.platform about1 = true :=
  (Spec.applies_iff w_frames).mpr ⟨w_running, w_runnable, w_alone, w_named, w_hears, w_ripe, w_room, w_tables⟩
theorem atStart : AtStart classFile x code maxLocals ret World_1 tables_1 room_1 Calls_1 rest_1 Pre_1 launch0 p0 e0 about1 theMethod args0 below0 :=
  ⟨lists_1, trivial, launch0.admits_env _ _ _, launch0.least_env, fairChoices_fair.cas, fairChoices_fair.clock, w_frames, w_args, w_heap, w_applies, trivial, w_rest, w_case⟩
end start1
theorem witness_1 : WitnessClaimed_1 := ⟨start1.p0, start1.e0, start1.about1, start1.theMethod, start1.args0, start1.below0, start1.atStart⟩
end Jvm.Pilot.@@N@@
