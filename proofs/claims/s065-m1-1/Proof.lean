import JvmDerived
import JvmDerived.Pilot.@@N@@Statement
import JvmDerived.Pilot.@@N@@Code
set_option linter.unusedVariables false
set_option linter.unusedSimpArgs false
namespace Jvm.Pilot.@@N@@
open Jvm Jvm.ClassFile Sem Op Lib Jvm.Free Jvm.Stand Jvm.LawKit Jvm.RoadKit Bundle Jvm.Pilot.@@N@@.Jvm.D
/-! own laws: the run from a state to the return, in continuation form -/
section OwnG
variable {p : Program} {l : Launch} {e : Env} {R : Room} {s : State} {m : MethodId} {args : Array Value} {below : List Frame} {meth : Method} {c : Code} {T : State} {locs : List Loc} {cells slots : Nat} {Z : State} {a0 : Array Value} {h : Heap} {Q : Option Value → Heap → List Loc → Prop} {ck sk : Nat}
def own_G (p : Program) (e : Env) (below : List Frame) (s : State) (Q : Option Value → Heap → List Loc → Prop) (ck sk : Nat) (U : State) : Prop :=
  ∃ s₂ o, Steps p.tables e below U s₂ ∧ s₂.status = .running ∧ Ended s₂ below o ∧ ∃ v L, o = .returned v ∧ Q v s₂.heap L ∧ FrameEnd s o s₂ L ck sk
theorem own_via {U U' : State} (k : ∀ t, Steps p.tables e below U' t → Steps p.tables e below U t) (g : own_G p e below s Q ck sk U') : own_G p e below s Q ck sk U := by
  obtain ⟨s2, o, h1, r⟩ := g
  exact ⟨s2, o, k _ h1, r⟩
theorem own_mono {Q' : Option Value → Heap → List Loc → Prop} {U : State} (k : ∀ v h L, Q v h L → Q' v h L) (g : own_G p e below s Q ck sk U) : own_G p e below s Q' ck sk U := by
  obtain ⟨s2, o, h1, h2, h3, v, L, h4, h5, h6⟩ := g
  exact ⟨s2, o, h1, h2, h3, v, L, h4, k _ _ _ h5, h6⟩
theorem own_ret (X : Stand p l e R s m args below meth c T locs cells slots) {v : Option Value} (hv : meth.sig.returnType = none → v = none) (hlk : meth.locks = false) {f : JFrame}
    (st : ∀ fs, (∀ (f : JFrame) (acts : List Action), f.method = m → f.locked = none → f.entered = [] → (doReturn e (T.setTop f) acts v).1 = T.setFrames fs) → Steps p.tables e below (T.setTop f) (T.setFrames fs))
    (hQ : Q v T.heap locs) (hc : cells ≤ ck) (hs : slots ≤ sk) : own_G p e below s Q ck sk (T.setTop f) := by
  obtain ⟨fs, hr, hrun, hended, hW, hsame⟩ := X.leave (v := v) hv hlk
  exact ⟨_, _, st fs hr, hrun, hended, _, _, rfl, hQ, ⟨_, rfl⟩, hW, hsame.mono hc hs⟩
theorem own_callS (X : Stand p l e R s m args below meth c T locs cells slots) (hx : p.tables.exec = Jvm.exec) (hZ : Z.Warmed39 s.vm) {own : String} {index : Nat} {y : MethodName} {bytes : ByteArray} {maxL : Nat} {ret : Option FieldType} {rm : Room} {as' : Array Value} {W : Nat}
    (hown : s.vm.findClass own = some m.cls) (w1 : (Jvm.Cond.methodLink own index y).before a0 Z = true) (w2 : (Jvm.Cond.static y).before a0 Z = true) (w3 : (Jvm.Cond.initialized y.cls).before a0 Z = true) (w4 : (Jvm.Cond.code y bytes maxL ret).before a0 Z = true)
    (hy : y.cls ≠ "java/lang/invoke/MethodHandle" ∧ y.cls ≠ "java/lang/invoke/VarHandle")
    (hM : MetFree l y (head1 [Jvm.Cond.code y bytes maxL ret] rm) (fun a U => a = as' ∧ Z.Warmed39 U.vm ∧ U.heap = h) (fun _ _ _ _ _ => True) (fun _ U o U' => ∃ v L, o = .returned v ∧ Q v U'.heap L ∧ FrameEnd U o U' L rm.cells rm.slots))
    (hf : rm.frames + 1 ≤ R.frames) (hl : W + (maxL + 11) + rm.locals ≤ R.locals) (eT : T.heap = h)
    {g : JFrame} (hg : g.method = m) (hsize : g.locals.size = c.maxLocals) {argsL rest : List Value} (has : argsL.toArray = as') (hlen : ∀ sig, parseMethodDescriptor y.desc = some sig → argsL.length = sig.parameters.length)
    (hstack : g.stack = argsL.reverse ++ rest) (hW : 2 * g.monitorRoom + (rest.map fun v => v.category).sum ≤ W) (hdg : decode c.code g.pc = .ok (.invokestatic index, 3))
    (hcells : cells + rm.cells ≤ R.cells) (hslots : slots + rm.slots ≤ R.slots) :
    ∃ v T' L', Stand p l e R s m args below meth c T' (locs ++ L') (cells + rm.cells) (slots + rm.slots) ∧ Q v T'.heap L' ∧ ∀ t, Steps p.tables e below (T'.setTop { g with pc := g.pc + 3, stack := v.toList ++ rest }) t → Steps p.tables e below (T.setTop g) t := by
  obtain ⟨v, vm1, ⟨T', L', k', n'⟩, -, X', ⟨Lc, hQ, q1, q2, q3⟩, st⟩ := Jvm.LawKit.callS X hx hown (mvT hZ w1) (mvT hZ w2) (mvT hZ w3) (mvT hZ w4) hy (backOf (W := W) hM hZ w4 w3 hf hl) hg hsize hlen hstack hW hdg (fun _ _ => ⟨has, eT, hcells, hslots⟩)
  dsimp only [Pt.U, Pt.locs, Pt.cells, Pt.slots] at X' q1 q2 q3 st hQ
  subst q1 q2 q3
  exact ⟨v, T', Lc, X', hQ, st⟩
theorem own_callI (X : Stand p l e R s m args below meth c T locs cells slots) (hx : p.tables.exec = Jvm.exec) (hZ : Z.Warmed39 s.vm) {own : String} {index : Nat} {y : MethodName} (hy1 : y.name = "<init>") {bytes : ByteArray} {maxL : Nat} {rm : Room} {as' : Array Value} {W : Nat}
    (hown : s.vm.findClass own = some m.cls) (w1 : (Jvm.Cond.methodLink own index y).before a0 Z = true) (w2 : (Jvm.Cond.instanceMethod y).before a0 Z = true) (w3 : (Jvm.Cond.initialized y.cls).before a0 Z = true) (w4 : (Jvm.Cond.code y bytes maxL none).before a0 Z = true)
    (hy : y.cls ≠ "java/lang/invoke/MethodHandle" ∧ y.cls ≠ "java/lang/invoke/VarHandle")
    (hM : MetFree l y (head1 [Jvm.Cond.code y bytes maxL none] rm) (fun a U => a = as' ∧ Z.Warmed39 U.vm ∧ U.heap = h) (fun _ _ _ _ _ => True) (fun _ U o U' => ∃ v L, o = .returned v ∧ Q v U'.heap L ∧ FrameEnd U o U' L rm.cells rm.slots))
    (hf : rm.frames + 1 ≤ R.frames) (hl : W + (maxL + 11) + rm.locals ≤ R.locals) (eT : T.heap = h)
    {g : JFrame} (hg : g.method = m) (hsize : g.locals.size = c.maxLocals) {a : Addr} {argsL rest : List Value} (has : (.ref a :: argsL).toArray = as') (hlen : ∀ sig, parseMethodDescriptor y.desc = some sig → argsL.length = sig.parameters.length)
    (hstack : g.stack = argsL.reverse ++ .ref a :: rest) (hW : 2 * g.monitorRoom + (rest.map fun v => v.category).sum ≤ W) (hdg : decode c.code g.pc = .ok (.invokespecial index, 3))
    (hcells : cells + rm.cells ≤ R.cells) (hslots : slots + rm.slots ≤ R.slots) :
    ∃ v T' L', Stand p l e R s m args below meth c T' (locs ++ L') (cells + rm.cells) (slots + rm.slots) ∧ Q v T'.heap L' ∧ ∀ t, Steps p.tables e below (T'.setTop { g with pc := g.pc + 3, stack := v.toList ++ rest }) t → Steps p.tables e below (T.setTop g) t := by
  obtain ⟨v, vm1, ⟨T', L', k', n'⟩, -, X', ⟨Lc, hQ, q1, q2, q3⟩, st⟩ := X.specialBack hx hy1 hown (mvT hZ w1) (mvT hZ w2) (mvT hZ w4) hy (backOf (W := W) hM hZ w4 w3 hf hl) hg hsize (Steps.refl _) hlen hstack hW hdg (fun _ _ => ⟨has, eT, hcells, hslots⟩)
  dsimp only [Pt.U, Pt.locs, Pt.cells, Pt.slots] at X' q1 q2 q3 st hQ
  subst q1 q2 q3
  exact ⟨v, T', Lc, X', hQ, fun t k => st.trans k⟩
theorem own_callV (X : Stand p l e R s m args below meth c T locs cells slots) (hx : p.tables.exec = Jvm.exec) (hZ : Z.Warmed39 s.vm) {own : String} {index : Nat} {y : MethodName} {bytes : ByteArray} {maxL : Nat} {ret : Option FieldType} {rm : Room} {as' : Array Value} {W : Nat} {C : String}
    (hown : s.vm.findClass own = some m.cls) (w1 : (Jvm.Cond.methodLink own index y).before a0 Z = true) (w2 : (Jvm.Cond.declares y).before a0 Z = true) (w5 : (Jvm.Cond.selects C y y).before a0 Z = true) (w6 : (Jvm.Cond.instanceMethod y).before a0 Z = true) (w3 : (Jvm.Cond.initialized y.cls).before a0 Z = true) (w4 : (Jvm.Cond.code y bytes maxL ret).before a0 Z = true)
    (hy : y.cls ≠ "java/lang/invoke/MethodHandle" ∧ y.cls ≠ "java/lang/invoke/VarHandle")
    (hM : MetFree l y (head1 [Jvm.Cond.code y bytes maxL ret] rm) (fun a U => a = as' ∧ Z.Warmed39 U.vm ∧ U.heap = h) (fun _ _ _ _ _ => True) (fun _ U o U' => ∃ v L, o = .returned v ∧ Q v U'.heap L ∧ FrameEnd U o U' L rm.cells rm.slots))
    (hf : rm.frames + 1 ≤ R.frames) (hl : W + (maxL + 11) + rm.locals ≤ R.locals) (eT : T.heap = h) {b : Addr} (E : Exa Z h b C)
    {g : JFrame} (hg : g.method = m) (hsize : g.locals.size = c.maxLocals) {argsL rest : List Value} (has : (.ref b :: argsL).toArray = as') (hlen : ∀ sig, parseMethodDescriptor y.desc = some sig → argsL.length = sig.parameters.length)
    (hstack : g.stack = argsL.reverse ++ .ref b :: rest) (hW : 2 * g.monitorRoom + (rest.map fun v => v.category).sum ≤ W) (hdg : decode c.code g.pc = .ok (.invokevirtual index, 3))
    (hcells : cells + rm.cells ≤ R.cells) (hslots : slots + rm.slots ≤ R.slots) :
    ∃ v T' L', Stand p l e R s m args below meth c T' (locs ++ L') (cells + rm.cells) (slots + rm.slots) ∧ Q v T'.heap L' ∧ ∀ t, Steps p.tables e below (T'.setTop { g with pc := g.pc + 3, stack := v.toList ++ rest }) t → Steps p.tables e below (T.setTop g) t := by
  obtain ⟨cq, kq, qa, qb, qc⟩ := isOf hZ eT E
  obtain ⟨v, vm1, ⟨T', L', k', n'⟩, -, X', ⟨Lc, hQ, q1, q2, q3⟩, st⟩ := X.virtualBack hx hown (mvT hZ w1) (mvT hZ w2) (notFace_of_selects (args := #[]) (mvT hZ w5)) (mvT hZ w5) (mvT hZ w6) hy (backOf (W := W) hM hZ w4 w3 hf hl) qa qc hg hsize (Steps.refl _) hlen hstack hW hdg (fun _ _ => ⟨has, eT, hcells, hslots⟩)
  dsimp only [Pt.U, Pt.locs, Pt.cells, Pt.slots] at X' q1 q2 q3 st hQ
  subst q1 q2 q3
  exact ⟨v, T', Lc, X', hQ, fun t k => st.trans k⟩
end OwnG
theorem own_jlt {x y : Int64} (h : x < y) : ifCond.holds .lt (lcmpW x y) = true ∧ ifCond.holds .ge (lcmpW x y) = false := by
  have q := (lw_lt x y).mpr h
  exact ⟨(if0 _ _).trans (tlt q).1, (if0 _ _).trans (tlt q).2.1⟩
theorem own_jnlt {x y : Int64} (h : ¬ x < y) : ifCond.holds .lt (lcmpW x y) = false ∧ ifCond.holds .ge (lcmpW x y) = true := by
  have q := fun z => h ((lw_lt x y).mp z)
  exact ⟨(if0 _ _).trans (flt q).1, (if0 _ _).trans (flt q).2.1⟩
theorem own_jgt {x y : Int64} (h : y < x) : ifCond.holds .gt (lcmpW x y) = true ∧ ifCond.holds .le (lcmpW x y) = false := by
  have q := (lw_gt x y).mpr h
  exact ⟨(if0 _ _).trans (tlt q).2.2.1, (if0 _ _).trans (tlt q).2.2.2⟩
theorem own_jngt {x y : Int64} (h : ¬ y < x) : ifCond.holds .gt (lcmpW x y) = false ∧ ifCond.holds .le (lcmpW x y) = true := by
  have q := fun z => h ((lw_gt x y).mp z)
  exact ⟨(if0 _ _).trans (flt q).2.2.1, (if0 _ _).trans (flt q).2.2.2⟩
theorem own_jeq {x y : Int64} (h : x = y) : ifCond.holds .eq (lcmpW x y) = true ∧ ifCond.holds .ne (lcmpW x y) = false := by
  have q := (lw_eq x y).mpr h
  exact ⟨(if0 _ _).trans (teq q).1, (if0 _ _).trans (teq q).2⟩
theorem own_jne {x y : Int64} (h : ¬ x = y) : ifCond.holds .eq (lcmpW x y) = false ∧ ifCond.holds .ne (lcmpW x y) = true := by
  have q := fun z => h ((lw_eq x y).mp z)
  exact ⟨(if0 _ _).trans (feq q).1, (if0 _ _).trans (feq q).2⟩
theorem own_sta_keep {Z : State} {h h' : Heap} {C n d : String} {v : Value} {ws : List Addr} (F : Sta Z h C n d v) (K : Keep h h' ws) (q : ∀ x ∈ ws, ∃ cell : Cell, h[x]? = some cell ∧ cell.vm.isStatics = false) : Sta Z h' C n d v := by
  obtain ⟨cf, i, k, f, st, cell, h1, h2, h3, h4, h5, h6, h7⟩ := F
  refine ⟨cf, i, k, f, st, cell, h1, h2, h3, h4, K.2.1 st cell h5 (fun hm => ?_), h6, h7⟩
  obtain ⟨c', e1, e2⟩ := q st hm
  cases h5.symm.trans e1
  rw [e2] at h6; cases h6
theorem own_exa_ns {Z : State} {h : Heap} {a : Addr} {C : String} (E : Exa Z h a C) : ∃ cell : Cell, h[a]? = some cell ∧ cell.vm.isStatics = false := by
  obtain ⟨cell, k, h1, -, -, h4, -⟩ := E
  exact ⟨cell, h1, h4⟩
theorem own_arv_ns {Z : State} {h : Heap} {a : Addr} {k : ClassId} {ty : FieldType} {z : Int32} {vs : List Value} {dv : Value} (F : Arv Z h a k ty z vs dv) : ∃ cell : Cell, h[a]? = some cell ∧ cell.vm.isStatics = false := by
  obtain ⟨c, A, -⟩ := F
  exact ⟨c, A.1, A.plain⟩
theorem own_seg {tb : Tables} {e : Env} {below : List Frame} {U U' t : State} (a : Steps tb e below U' t → Steps tb e below U t) (b : Steps tb e below U' t) : Steps tb e below U t := a b
theorem own_NSroot {Z : State} {a0 : Array Value} {O K : String} {n : Nat} (w : (Jvm.Cond.noSuperclass O).before a0 Z = true) (wk : (Jvm.Cond.instantiable K n).before a0 Z = true) (hn : O ≠ K) : NS Z O K := by
  obtain ⟨c, k, h1, h2, h3, -, -⟩ := Cond.noSuperclass_spec w
  obtain ⟨t, kt, g1, -⟩ := Cond.instantiable_spec wk
  refine ⟨c, t, h1, g1, fun fuel => ?_⟩
  have ne := ids_ne h1 g1 hn
  cases fuel <;> simp [Vm.isSubclassAux, ne, h2, h3]
theorem own_NSno {Z : State} {a0 : Array Value} {C S K : String} {n : Nat} (w : (Jvm.Cond.superclass C S).before a0 Z = true) (wk : (Jvm.Cond.instantiable K n).before a0 Z = true) (nn : NS Z C K) (hn : C ≠ K) : ∃ c t, Z.vm.findClass C = some c ∧ Z.vm.findClass K = some t ∧ Z.vm.assignable c t = false := by
  obtain ⟨c, t, h0, g0, n3⟩ := nn
  obtain ⟨p, k, kp, h1, h2, h3, h4, h5, -, h7⟩ := Cond.superclass_spec h0 w
  obtain ⟨t', kt, g1, g2, g3, g4, -⟩ := Cond.instantiable_spec wk
  cases g0.symm.trans g1
  have g7 : kt.isInterface = false := by cases q : kt.isInterface <;> simp [q] at g4 ⊢
  have ne := ids_ne h0 g0 hn
  refine ⟨c, t, h0, g0, ?_⟩
  show Z.vm.assignableAux (255 + 1) c t = false
  simp [Vm.assignableAux, ne, h2, g2, h5, g3, g7, Vm.isSubclass, n3]
theorem own_dl (n d : Int64) (hd : 0 ≤ d.toInt) : (n + d < n) ↔ ((9223372036854775807 : Int64) - d < n) := by
  rw [Int64.lt_iff_toInt_lt, Int64.lt_iff_toInt_lt]
  have h1 := c_ladd n d
  have h2 := c_lsub 9223372036854775807 d
  have h3 := rng64 n
  have h4 := rng64 d
  have h5 := rng64 (n + d)
  have h6 := rng64 (9223372036854775807 - d)
  have h7 : (9223372036854775807 : Int64).toInt = 9223372036854775807 := by decide
  omega
theorem own_dm (q : Int64) : 0 ≤ (q &&& (9223372036854775807 : Int64)).toInt := by
  rw [c_maskL q 9223372036854775807 63 (by decide) (by decide)]; omega
theorem own_d1 (n q : Int64) (h : (9223372036854775807 : Int64) - (q &&& (9223372036854775807 : Int64)) < n) : (if (n + (q &&& (9223372036854775807 : Int64))) < n then (9223372036854775807 : Int64) else (n + (q &&& (9223372036854775807 : Int64)))) = (9223372036854775807 : Int64) := if_pos ((own_dl _ _ (own_dm q)).mpr h)
theorem own_d2 (n q : Int64) (h : ¬ (9223372036854775807 : Int64) - (q &&& (9223372036854775807 : Int64)) < n) : (if (n + (q &&& (9223372036854775807 : Int64))) < n then (9223372036854775807 : Int64) else (n + (q &&& (9223372036854775807 : Int64)))) = (n + (q &&& (9223372036854775807 : Int64))) := if_neg fun z => h ((own_dl _ _ (own_dm q)).mp z)

def Qaf (Z : State) (x1 x2 : Int64) (h0 : Heap) (n0 : Nat) (v : Option Value) (h : Heap) (L : List Loc) : Prop := v = some (.long (if (x1 + x2) < x1 then (9223372036854775807 : Int64) else (x1 + x2))) ∧ Fr n0 L ∧ h = h0
theorem d_prog_14_method_2_0 : decode prog_14_method_2_code 0 = .ok (.lload_n 0, 1) := by decide +kernel
theorem d_prog_14_method_2_1 : decode prog_14_method_2_code 1 = .ok (.lload_n 2, 1) := by decide +kernel
theorem d_prog_14_method_2_2 : decode prog_14_method_2_code 2 = .ok (.ladd, 1) := by decide +kernel
theorem d_prog_14_method_2_3 : decode prog_14_method_2_code 3 = .ok (.lstore 4, 2) := by decide +kernel
theorem d_prog_14_method_2_5 : decode prog_14_method_2_code 5 = .ok (.lload 4, 2) := by decide +kernel
theorem d_prog_14_method_2_7 : decode prog_14_method_2_code 7 = .ok (.lload_n 0, 1) := by decide +kernel
theorem d_prog_14_method_2_8 : decode prog_14_method_2_code 8 = .ok (.lcmp, 1) := by decide +kernel
theorem d_prog_14_method_2_9 : decode prog_14_method_2_code 9 = .ok (.ifCond .ge 9, 3) := by decide +kernel
theorem d_prog_14_method_2_12 : decode prog_14_method_2_code 12 = .ok (.ldc2_w 11, 3) := by decide +kernel
theorem d_prog_14_method_2_15 : decode prog_14_method_2_code 15 = .ok (.goto 5, 3) := by decide +kernel
theorem d_prog_14_method_2_20 : decode prog_14_method_2_code 20 = .ok (.lreturn, 1) := by decide +kernel
theorem d_prog_14_method_2_18 : decode prog_14_method_2_code 18 = .ok (.lload 4, 2) := by decide +kernel
theorem ef_rm_Qaf (m : MethodId) (x0 : Int64) (x1 : Int64) : entryFrame m #[(.long x0), (.long x1)] 6 = mkF m 0 #[.val (.long x0), .second, .val (.long x1), .second, .unset, .unset] [] := by first | (simp [entryFrame, mkF, argsToLocals, Value.category]; done) | rfl
theorem pn_com_example_bdelloid_bdelloid_rules_Deadlines : plainName "com/example/bdelloid/bdelloid/rules/Deadlines" = true := by first | (simp [plainName, overriddenIn]; done) | decide +kernel
set_option maxRecDepth 65536 in
set_option maxHeartbeats 40000000 in
theorem rm_Qaf (l : Launch) (Z : State) (a0 : Array Value) (hw : ∀ d ∈ tables_1, d.before a0 Z = true) (ws : List Jvm.Cond) (x1 x2 : Int64) (h0 : Heap) (n0 : Nat) (Z0 : n0 ≤ h0.size) :
    MetFree l (⟨"com/example/bdelloid/bdelloid/rules/Deadlines", "after", "(JJ)J"⟩ : MethodName) (head1 (Jvm.Cond.code (⟨"com/example/bdelloid/bdelloid/rules/Deadlines", "after", "(JJ)J"⟩ : MethodName) prog_14_method_2_code 6 (some .long) :: ws) ({ frames := 0, cells := 0, slots := 0, locals := 0 } : Room)) (fun aa_ UU_ => aa_ = #[(.long x1), (.long x2)] ∧ Z.Warmed39 UU_.vm ∧ UU_.heap = h0) (fun _ _ _ _ _ => True) (fun _ UU_ oo_ VV_ => ∃ vv_ LL_, oo_ = .returned vv_ ∧ Qaf Z x1 x2 h0 n0 vv_ VV_.heap LL_ ∧ FrameEnd UU_ oo_ VV_ LL_ ({ frames := 0, cells := 0, slots := 0, locals := 0 } : Room).cells ({ frames := 0, cells := 0, slots := 0, locals := 0 } : Room).slots) := by
  refine MetFree.of_bodySF (plainFor_of_name pn_com_example_bdelloid_bdelloid_rules_Deadlines) hisR ?_
  intro p e s m args below meth c s₁ Bd hml0 hP hK
  obtain ⟨rfl, hZ, hh⟩ := hP
  have hx := Bd.exec
  have hby := Bd.bytes
  have hml : c.maxLocals = 6 := hml0
  have hown : s.vm.findClass "com/example/bdelloid/bdelloid/rules/Deadlines" = some m.cls := findClass_of_methodNamed Bd.named
  have hnm := (name_of_methodNamed Bd.named Bd.method).1
  have hlk : meth.locks = false := Bd.notSynchronized
  have X0 : Stand p l e ({ frames := 0, cells := 0, slots := 0, locals := 0 } : Room) s m #[(.long x1), (.long x2)] below meth c s₁ [] 0 0 := Stand.of_body Bd
  have e0 : s₁.heap = h0 := by rw [← hh, Bd.state]; rfl
  have N0 := Fr.nil n0
  have K0 := Keep.refl h0 []
  show own_G p e below s (Qaf Z x1 x2 h0 n0) _ _ (s₁.setTop (entryFrame m #[(.long x1), (.long x2)] 6))
  rw [ef_rm_Qaf m x1 x2]
  refine own_via (U' := s₁.setTop (mkF m 1 #[.val (.long x1), .second, .val (.long x2), .second, .unset, .unset] [(.long x1)])) (fun t k => XS.lloadN X0.here hx rfl (hb hby d_prog_14_method_2_0) rfl k) ?_
  refine own_via (U' := s₁.setTop (mkF m 2 #[.val (.long x1), .second, .val (.long x2), .second, .unset, .unset] [(.long x2), (.long x1)])) (fun t k => XS.lloadN X0.here hx rfl (hb hby d_prog_14_method_2_1) rfl k) ?_
  refine own_via (U' := s₁.setTop (mkF m 3 #[.val (.long x1), .second, .val (.long x2), .second, .unset, .unset] [(.long (x1 + x2))])) (fun t k => XS.ladd X0.here hx rfl (hb hby d_prog_14_method_2_2) rfl k) ?_
  refine own_via (U' := s₁.setTop (mkF m 5 #[.val (.long x1), .second, .val (.long x2), .second, .val (.long (x1 + x2)), .second] [])) (fun t k => XS.lstore X0.here hx rfl (hb hby d_prog_14_method_2_3) rfl (l' := #[.val (.long x1), .second, .val (.long x2), .second, .val (.long (x1 + x2)), .second]) rfl k) ?_
  refine own_via (U' := s₁.setTop (mkF m 7 #[.val (.long x1), .second, .val (.long x2), .second, .val (.long (x1 + x2)), .second] [(.long (x1 + x2))])) (fun t k => XS.lload X0.here hx rfl (hb hby d_prog_14_method_2_5) rfl k) ?_
  refine own_via (U' := s₁.setTop (mkF m 8 #[.val (.long x1), .second, .val (.long x2), .second, .val (.long (x1 + x2)), .second] [(.long x1), (.long (x1 + x2))])) (fun t k => XS.lloadN X0.here hx rfl (hb hby d_prog_14_method_2_7) rfl k) ?_
  refine own_via (U' := s₁.setTop (mkF m 9 #[.val (.long x1), .second, .val (.long x2), .second, .val (.long (x1 + x2)), .second] [(.int (lcmpW (x1 + x2) x1))])) (fun t k => XS.lcmp X0.here hx rfl (hb hby d_prog_14_method_2_8) rfl k) ?_
  by_cases hc1 : (x1 + x2) < x1
  case pos =>
    refine own_via (U' := s₁.setTop (mkF m 12 #[.val (.long x1), .second, .val (.long x2), .second, .val (.long (x1 + x2)), .second] [])) (fun t k => XS.ifNo X0.here hx rfl (hb hby d_prog_14_method_2_9) rfl (own_jlt hc1).2 k) ?_
    refine own_via (U' := s₁.setTop (mkF m 15 #[.val (.long x1), .second, .val (.long x2), .second, .val (.long (x1 + x2)), .second] [(.long (9223372036854775807 : Int64))])) (fun t k => X0.ldc2Long hx hown (mvT hZ (hw _ (List.mem_of_getElem? (i := 5) rfl))) (g := (mkF m 12 #[.val (.long x1), .second, .val (.long x2), .second, .val (.long (x1 + x2)), .second] [])) rfl (hb hby d_prog_14_method_2_12) _ k) ?_
    refine own_via (U' := s₁.setTop (mkF m 20 #[.val (.long x1), .second, .val (.long x2), .second, .val (.long (x1 + x2)), .second] [(.long (9223372036854775807 : Int64))])) (fun t k => XS.goto X0.here hx rfl (pc0 := 15) (pc' := 20) rfl (hb hby d_prog_14_method_2_15) (by decide) (by decide) k) ?_
    exact own_ret X0 (v := some (.long (9223372036854775807 : Int64))) (fun h => by rw [Bd.returns] at h; cases h) hlk (fun fs hr => retOut X0 hx (t := .long) Bd.returns rfl (Or.inr (Or.inl ⟨rfl, rfl, _, rfl⟩)) (hb hby d_prog_14_method_2_20) hr) (by rw [e0]; exact ⟨by first | rfl | (simp only [if_pos hc1]), N0, rfl⟩) (by decide) (by decide)
  case neg =>
    refine own_via (U' := s₁.setTop (mkF m 18 #[.val (.long x1), .second, .val (.long x2), .second, .val (.long (x1 + x2)), .second] [])) (fun t k => XS.ifYes X0.here hx rfl (pc0 := 9) (pc' := 18) rfl (hb hby d_prog_14_method_2_9) rfl (own_jnlt hc1).2 (by decide) (by decide) k) ?_
    refine own_via (U' := s₁.setTop (mkF m 20 #[.val (.long x1), .second, .val (.long x2), .second, .val (.long (x1 + x2)), .second] [(.long (x1 + x2))])) (fun t k => XS.lload X0.here hx rfl (hb hby d_prog_14_method_2_18) rfl k) ?_
    exact own_ret X0 (v := some (.long (x1 + x2))) (fun h => by rw [Bd.returns] at h; cases h) hlk (fun fs hr => retOut X0 hx (t := .long) Bd.returns rfl (Or.inr (Or.inl ⟨rfl, rfl, _, rfl⟩)) (hb hby d_prog_14_method_2_20) hr) (by rw [e0]; exact ⟨by first | rfl | (simp only [if_neg hc1]), N0, rfl⟩) (by decide) (by decide)
def Q0 (Z : State) (x1 x2 : Int64) (h0 : Heap) (n0 : Nat) (v : Option Value) (h : Heap) (L : List Loc) : Prop := v = some (.int 1) ∧ Fr n0 L
theorem pd_JJ__J : parseMethodDescriptor "(JJ)J" = some ⟨[.long, .long], some .long⟩ := by decide +kernel
theorem ef_rm_Q0 (m : MethodId) (x0 : Int64) (x1 : Int64) : entryFrame m #[(.long x0), (.long x1)] maxLocals = mkF m 0 #[.val (.long x0), .second, .val (.long x1), .second, .unset, .unset, .unset, .unset, .unset, .unset] [] := by first | (simp [entryFrame, mkF, argsToLocals, Value.category, maxLocals]; done) | rfl
theorem pn_com_example_bdelloid_bdelloid_rules_DeadlinesAfterPinLaw : plainName "com/example/bdelloid/bdelloid/rules/DeadlinesAfterPinLaw" = true := by first | (simp [plainName, overriddenIn]; done) | decide +kernel
set_option maxRecDepth 65536 in
set_option maxHeartbeats 40000000 in
theorem rm_Q0 (l : Launch) (Z : State) (a0 : Array Value) (hw : ∀ d ∈ tables_1, d.before a0 Z = true) (ws : List Jvm.Cond) (x1 x2 : Int64) (h0 : Heap) (n0 : Nat) (Z0 : n0 ≤ h0.size) :
    MetFree l x (head1 (Jvm.Cond.code x code maxLocals ret :: ws) room_1) (fun aa_ UU_ => aa_ = #[(.long x1), (.long x2)] ∧ Z.Warmed39 UU_.vm ∧ UU_.heap = h0) (fun _ _ _ _ _ => True) (fun _ UU_ oo_ VV_ => ∃ vv_ LL_, oo_ = .returned vv_ ∧ Q0 Z x1 x2 h0 n0 vv_ VV_.heap LL_ ∧ FrameEnd UU_ oo_ VV_ LL_ room_1.cells room_1.slots) := by
  refine MetFree.of_bodySF (plainFor_of_name pn_com_example_bdelloid_bdelloid_rules_DeadlinesAfterPinLaw) hisR ?_
  intro p e s m args below meth c s₁ Bd hml0 hP hK
  obtain ⟨rfl, hZ, hh⟩ := hP
  have hx := Bd.exec
  have hby := Bd.bytes
  have hml : c.maxLocals = 10 := hml0
  have hown : s.vm.findClass "com/example/bdelloid/bdelloid/rules/DeadlinesAfterPinLaw" = some m.cls := findClass_of_methodNamed Bd.named
  have hnm := (name_of_methodNamed Bd.named Bd.method).1
  have hlk : meth.locks = false := Bd.notSynchronized
  have X0 : Stand p l e room_1 s m #[(.long x1), (.long x2)] below meth c s₁ [] 0 0 := Stand.of_body Bd
  have e0 : s₁.heap = h0 := by rw [← hh, Bd.state]; rfl
  have N0 := Fr.nil n0
  have K0 := Keep.refl h0 []
  show own_G p e below s (Q0 Z x1 x2 h0 n0) _ _ (s₁.setTop (entryFrame m #[(.long x1), (.long x2)] maxLocals))
  rw [ef_rm_Q0 m x1 x2]
  refine own_via (U' := s₁.setTop (mkF m 1 #[.val (.long x1), .second, .val (.long x2), .second, .unset, .unset, .unset, .unset, .unset, .unset] [(.long x2)])) (fun t k => XS.lloadN X0.here hx rfl (hb hby at_0) rfl k) ?_
  refine own_via (U' := s₁.setTop (mkF m 4 #[.val (.long x1), .second, .val (.long x2), .second, .unset, .unset, .unset, .unset, .unset, .unset] [(.long (9223372036854775807 : Int64)), (.long x2)])) (fun t k => X0.ldc2Long hx hown (mvT hZ (hw _ (List.mem_of_getElem? (i := 0) rfl))) (g := (mkF m 1 #[.val (.long x1), .second, .val (.long x2), .second, .unset, .unset, .unset, .unset, .unset, .unset] [(.long x2)])) rfl (hb hby at_1) _ k) ?_
  refine own_via (U' := s₁.setTop (mkF m 5 #[.val (.long x1), .second, .val (.long x2), .second, .unset, .unset, .unset, .unset, .unset, .unset] [(.long (x2 &&& (9223372036854775807 : Int64)))])) (fun t k => XS.land X0.here hx rfl (hb hby at_4) rfl k) ?_
  refine own_via (U' := s₁.setTop (mkF m 7 #[.val (.long x1), .second, .val (.long x2), .second, .val (.long (x2 &&& (9223372036854775807 : Int64))), .second, .unset, .unset, .unset, .unset] [])) (fun t k => XS.lstore X0.here hx rfl (hb hby at_5) rfl (l' := #[.val (.long x1), .second, .val (.long x2), .second, .val (.long (x2 &&& (9223372036854775807 : Int64))), .second, .unset, .unset, .unset, .unset]) rfl k) ?_
  refine own_via (U' := s₁.setTop (mkF m 8 #[.val (.long x1), .second, .val (.long x2), .second, .val (.long (x2 &&& (9223372036854775807 : Int64))), .second, .unset, .unset, .unset, .unset] [(.long x1)])) (fun t k => XS.lloadN X0.here hx rfl (hb hby at_7) rfl k) ?_
  refine own_via (U' := s₁.setTop (mkF m 11 #[.val (.long x1), .second, .val (.long x2), .second, .val (.long (x2 &&& (9223372036854775807 : Int64))), .second, .unset, .unset, .unset, .unset] [(.long (9223372036854775807 : Int64)), (.long x1)])) (fun t k => X0.ldc2Long hx hown (mvT hZ (hw _ (List.mem_of_getElem? (i := 0) rfl))) (g := (mkF m 8 #[.val (.long x1), .second, .val (.long x2), .second, .val (.long (x2 &&& (9223372036854775807 : Int64))), .second, .unset, .unset, .unset, .unset] [(.long x1)])) rfl (hb hby at_8) _ k) ?_
  refine own_via (U' := s₁.setTop (mkF m 13 #[.val (.long x1), .second, .val (.long x2), .second, .val (.long (x2 &&& (9223372036854775807 : Int64))), .second, .unset, .unset, .unset, .unset] [(.long (x2 &&& (9223372036854775807 : Int64))), (.long (9223372036854775807 : Int64)), (.long x1)])) (fun t k => XS.lload X0.here hx rfl (hb hby at_11) rfl k) ?_
  refine own_via (U' := s₁.setTop (mkF m 14 #[.val (.long x1), .second, .val (.long x2), .second, .val (.long (x2 &&& (9223372036854775807 : Int64))), .second, .unset, .unset, .unset, .unset] [(.long ((9223372036854775807 : Int64) - (x2 &&& (9223372036854775807 : Int64)))), (.long x1)])) (fun t k => XS.lsub X0.here hx rfl (hb hby at_13) rfl k) ?_
  refine own_via (U' := s₁.setTop (mkF m 15 #[.val (.long x1), .second, .val (.long x2), .second, .val (.long (x2 &&& (9223372036854775807 : Int64))), .second, .unset, .unset, .unset, .unset] [(.int (lcmpW x1 ((9223372036854775807 : Int64) - (x2 &&& (9223372036854775807 : Int64)))))])) (fun t k => XS.lcmp X0.here hx rfl (hb hby at_14) rfl k) ?_
  by_cases hc1 : ((9223372036854775807 : Int64) - (x2 &&& (9223372036854775807 : Int64))) < x1
  case pos =>
    refine own_via (U' := s₁.setTop (mkF m 18 #[.val (.long x1), .second, .val (.long x2), .second, .val (.long (x2 &&& (9223372036854775807 : Int64))), .second, .unset, .unset, .unset, .unset] [])) (fun t k => XS.ifNo X0.here hx rfl (hb hby at_15) rfl (own_jgt hc1).2 k) ?_
    refine own_via (U' := s₁.setTop (mkF m 21 #[.val (.long x1), .second, .val (.long x2), .second, .val (.long (x2 &&& (9223372036854775807 : Int64))), .second, .unset, .unset, .unset, .unset] [(.long (9223372036854775807 : Int64))])) (fun t k => X0.ldc2Long hx hown (mvT hZ (hw _ (List.mem_of_getElem? (i := 0) rfl))) (g := (mkF m 18 #[.val (.long x1), .second, .val (.long x2), .second, .val (.long (x2 &&& (9223372036854775807 : Int64))), .second, .unset, .unset, .unset, .unset] [])) rfl (hb hby at_18) _ k) ?_
    refine own_via (U' := s₁.setTop (mkF m 23 #[.val (.long x1), .second, .val (.long x2), .second, .val (.long (x2 &&& (9223372036854775807 : Int64))), .second, .val (.long (9223372036854775807 : Int64)), .second, .unset, .unset] [])) (fun t k => XS.lstore X0.here hx rfl (hb hby at_21) rfl (l' := #[.val (.long x1), .second, .val (.long x2), .second, .val (.long (x2 &&& (9223372036854775807 : Int64))), .second, .val (.long (9223372036854775807 : Int64)), .second, .unset, .unset]) rfl k) ?_
    refine own_via (U' := s₁.setTop (mkF m 32 #[.val (.long x1), .second, .val (.long x2), .second, .val (.long (x2 &&& (9223372036854775807 : Int64))), .second, .val (.long (9223372036854775807 : Int64)), .second, .unset, .unset] [])) (fun t k => XS.goto X0.here hx rfl (pc0 := 23) (pc' := 32) rfl (hb hby at_23) (by decide) (by decide) k) ?_
    refine own_via (U' := s₁.setTop (mkF m 33 #[.val (.long x1), .second, .val (.long x2), .second, .val (.long (x2 &&& (9223372036854775807 : Int64))), .second, .val (.long (9223372036854775807 : Int64)), .second, .unset, .unset] [(.long x1)])) (fun t k => XS.lloadN X0.here hx rfl (hb hby at_32) rfl k) ?_
    refine own_via (U' := s₁.setTop (mkF m 35 #[.val (.long x1), .second, .val (.long x2), .second, .val (.long (x2 &&& (9223372036854775807 : Int64))), .second, .val (.long (9223372036854775807 : Int64)), .second, .unset, .unset] [(.long (x2 &&& (9223372036854775807 : Int64))), (.long x1)])) (fun t k => XS.lload X0.here hx rfl (hb hby at_33) rfl k) ?_
    obtain ⟨_, T2, L2, X2, hQ2, st2⟩ := own_callS X0 hx hZ (y := (⟨"com/example/bdelloid/bdelloid/rules/Deadlines", "after", "(JJ)J"⟩ : MethodName)) (W := 0) hown (hw _ (List.mem_of_getElem? (i := 1) rfl)) (hw _ (List.mem_of_getElem? (i := 2) rfl)) (hw _ (List.mem_of_getElem? (i := 3) rfl)) (hw _ (List.mem_of_getElem? (i := 4) rfl)) (by decide) (rm_Qaf l Z a0 hw [] x1 (x2 &&& (9223372036854775807 : Int64)) h0 n0 Z0) (by decide) (by decide) e0 (g := (mkF m 35 #[.val (.long x1), .second, .val (.long x2), .second, .val (.long (x2 &&& (9223372036854775807 : Int64))), .second, .val (.long (9223372036854775807 : Int64)), .second, .unset, .unset] [(.long (x2 &&& (9223372036854775807 : Int64))), (.long x1)])) rfl (by rw [hml]; rfl) (argsL := [(.long x1), (.long (x2 &&& (9223372036854775807 : Int64)))]) (rest := []) rfl (lenOf pd_JJ__J rfl) rfl (by show 2 * 0 + _ ≤ _; exact Nat.le_of_eq rfl) (hb hby at_35) (by decide) (by decide)
    obtain ⟨rfl, N2q, e2⟩ := hQ2
    have N2 := Fr.app N0 N2q
    refine own_via (U' := T2.setTop (mkF m 38 #[.val (.long x1), .second, .val (.long x2), .second, .val (.long (x2 &&& (9223372036854775807 : Int64))), .second, .val (.long (9223372036854775807 : Int64)), .second, .unset, .unset] [(.long (if (x1 + (x2 &&& (9223372036854775807 : Int64))) < x1 then (9223372036854775807 : Int64) else (x1 + (x2 &&& (9223372036854775807 : Int64)))))])) (fun t k => st2 t k) ?_
    refine own_via (U' := T2.setTop (mkF m 40 #[.val (.long x1), .second, .val (.long x2), .second, .val (.long (x2 &&& (9223372036854775807 : Int64))), .second, .val (.long (9223372036854775807 : Int64)), .second, .val (.long (if (x1 + (x2 &&& (9223372036854775807 : Int64))) < x1 then (9223372036854775807 : Int64) else (x1 + (x2 &&& (9223372036854775807 : Int64))))), .second] [])) (fun t k => XS.lstore X2.here hx rfl (hb hby at_38) rfl (l' := #[.val (.long x1), .second, .val (.long x2), .second, .val (.long (x2 &&& (9223372036854775807 : Int64))), .second, .val (.long (9223372036854775807 : Int64)), .second, .val (.long (if (x1 + (x2 &&& (9223372036854775807 : Int64))) < x1 then (9223372036854775807 : Int64) else (x1 + (x2 &&& (9223372036854775807 : Int64))))), .second]) rfl k) ?_
    refine own_via (U' := T2.setTop (mkF m 42 #[.val (.long x1), .second, .val (.long x2), .second, .val (.long (x2 &&& (9223372036854775807 : Int64))), .second, .val (.long (9223372036854775807 : Int64)), .second, .val (.long (if (x1 + (x2 &&& (9223372036854775807 : Int64))) < x1 then (9223372036854775807 : Int64) else (x1 + (x2 &&& (9223372036854775807 : Int64))))), .second] [(.long (if (x1 + (x2 &&& (9223372036854775807 : Int64))) < x1 then (9223372036854775807 : Int64) else (x1 + (x2 &&& (9223372036854775807 : Int64)))))])) (fun t k => XS.lload X2.here hx rfl (hb hby at_40) rfl k) ?_
    refine own_via (U' := T2.setTop (mkF m 44 #[.val (.long x1), .second, .val (.long x2), .second, .val (.long (x2 &&& (9223372036854775807 : Int64))), .second, .val (.long (9223372036854775807 : Int64)), .second, .val (.long (if (x1 + (x2 &&& (9223372036854775807 : Int64))) < x1 then (9223372036854775807 : Int64) else (x1 + (x2 &&& (9223372036854775807 : Int64))))), .second] [(.long (9223372036854775807 : Int64)), (.long (if (x1 + (x2 &&& (9223372036854775807 : Int64))) < x1 then (9223372036854775807 : Int64) else (x1 + (x2 &&& (9223372036854775807 : Int64)))))])) (fun t k => XS.lload X2.here hx rfl (hb hby at_42) rfl k) ?_
    refine own_via (U' := T2.setTop (mkF m 45 #[.val (.long x1), .second, .val (.long x2), .second, .val (.long (x2 &&& (9223372036854775807 : Int64))), .second, .val (.long (9223372036854775807 : Int64)), .second, .val (.long (if (x1 + (x2 &&& (9223372036854775807 : Int64))) < x1 then (9223372036854775807 : Int64) else (x1 + (x2 &&& (9223372036854775807 : Int64))))), .second] [(.int (lcmpW (if (x1 + (x2 &&& (9223372036854775807 : Int64))) < x1 then (9223372036854775807 : Int64) else (x1 + (x2 &&& (9223372036854775807 : Int64)))) (9223372036854775807 : Int64)))])) (fun t k => XS.lcmp X2.here hx rfl (hb hby at_44) rfl k) ?_
    refine own_via (U' := T2.setTop (mkF m 48 #[.val (.long x1), .second, .val (.long x2), .second, .val (.long (x2 &&& (9223372036854775807 : Int64))), .second, .val (.long (9223372036854775807 : Int64)), .second, .val (.long (if (x1 + (x2 &&& (9223372036854775807 : Int64))) < x1 then (9223372036854775807 : Int64) else (x1 + (x2 &&& (9223372036854775807 : Int64))))), .second] [])) (fun t k => XS.ifNo X2.here hx rfl (hb hby at_45) rfl (own_jeq (own_d1 x1 x2 hc1)).2 k) ?_
    refine own_via (U' := T2.setTop (mkF m 49 #[.val (.long x1), .second, .val (.long x2), .second, .val (.long (x2 &&& (9223372036854775807 : Int64))), .second, .val (.long (9223372036854775807 : Int64)), .second, .val (.long (if (x1 + (x2 &&& (9223372036854775807 : Int64))) < x1 then (9223372036854775807 : Int64) else (x1 + (x2 &&& (9223372036854775807 : Int64))))), .second] [(.int (1 : Int32))])) (fun t k => XS.iconst X2.here hx rfl (hb hby at_48) k) ?_
    refine own_via (U' := T2.setTop (mkF m 53 #[.val (.long x1), .second, .val (.long x2), .second, .val (.long (x2 &&& (9223372036854775807 : Int64))), .second, .val (.long (9223372036854775807 : Int64)), .second, .val (.long (if (x1 + (x2 &&& (9223372036854775807 : Int64))) < x1 then (9223372036854775807 : Int64) else (x1 + (x2 &&& (9223372036854775807 : Int64))))), .second] [(.int (1 : Int32))])) (fun t k => XS.goto X2.here hx rfl (pc0 := 49) (pc' := 53) rfl (hb hby at_49) (by decide) (by decide) k) ?_
    exact own_ret X2 (v := some (.int (1 : Int32))) (fun h => by rw [Bd.returns] at h; cases h) hlk (fun fs hr => retN X2 hx (t := .boolean) Bd.returns (by simp) (hb hby at_53) hr) (by rw [e2]; exact ⟨rfl, N2⟩) (by decide) (by decide)
  case neg =>
    refine own_via (U' := s₁.setTop (mkF m 26 #[.val (.long x1), .second, .val (.long x2), .second, .val (.long (x2 &&& (9223372036854775807 : Int64))), .second, .unset, .unset, .unset, .unset] [])) (fun t k => XS.ifYes X0.here hx rfl (pc0 := 15) (pc' := 26) rfl (hb hby at_15) rfl (own_jngt hc1).2 (by decide) (by decide) k) ?_
    refine own_via (U' := s₁.setTop (mkF m 27 #[.val (.long x1), .second, .val (.long x2), .second, .val (.long (x2 &&& (9223372036854775807 : Int64))), .second, .unset, .unset, .unset, .unset] [(.long x1)])) (fun t k => XS.lloadN X0.here hx rfl (hb hby at_26) rfl k) ?_
    refine own_via (U' := s₁.setTop (mkF m 29 #[.val (.long x1), .second, .val (.long x2), .second, .val (.long (x2 &&& (9223372036854775807 : Int64))), .second, .unset, .unset, .unset, .unset] [(.long (x2 &&& (9223372036854775807 : Int64))), (.long x1)])) (fun t k => XS.lload X0.here hx rfl (hb hby at_27) rfl k) ?_
    refine own_via (U' := s₁.setTop (mkF m 30 #[.val (.long x1), .second, .val (.long x2), .second, .val (.long (x2 &&& (9223372036854775807 : Int64))), .second, .unset, .unset, .unset, .unset] [(.long (x1 + (x2 &&& (9223372036854775807 : Int64))))])) (fun t k => XS.ladd X0.here hx rfl (hb hby at_29) rfl k) ?_
    refine own_via (U' := s₁.setTop (mkF m 32 #[.val (.long x1), .second, .val (.long x2), .second, .val (.long (x2 &&& (9223372036854775807 : Int64))), .second, .val (.long (x1 + (x2 &&& (9223372036854775807 : Int64)))), .second, .unset, .unset] [])) (fun t k => XS.lstore X0.here hx rfl (hb hby at_30) rfl (l' := #[.val (.long x1), .second, .val (.long x2), .second, .val (.long (x2 &&& (9223372036854775807 : Int64))), .second, .val (.long (x1 + (x2 &&& (9223372036854775807 : Int64)))), .second, .unset, .unset]) rfl k) ?_
    refine own_via (U' := s₁.setTop (mkF m 33 #[.val (.long x1), .second, .val (.long x2), .second, .val (.long (x2 &&& (9223372036854775807 : Int64))), .second, .val (.long (x1 + (x2 &&& (9223372036854775807 : Int64)))), .second, .unset, .unset] [(.long x1)])) (fun t k => XS.lloadN X0.here hx rfl (hb hby at_32) rfl k) ?_
    refine own_via (U' := s₁.setTop (mkF m 35 #[.val (.long x1), .second, .val (.long x2), .second, .val (.long (x2 &&& (9223372036854775807 : Int64))), .second, .val (.long (x1 + (x2 &&& (9223372036854775807 : Int64)))), .second, .unset, .unset] [(.long (x2 &&& (9223372036854775807 : Int64))), (.long x1)])) (fun t k => XS.lload X0.here hx rfl (hb hby at_33) rfl k) ?_
    obtain ⟨_, T3, L3, X3, hQ3, st3⟩ := own_callS X0 hx hZ (y := (⟨"com/example/bdelloid/bdelloid/rules/Deadlines", "after", "(JJ)J"⟩ : MethodName)) (W := 0) hown (hw _ (List.mem_of_getElem? (i := 1) rfl)) (hw _ (List.mem_of_getElem? (i := 2) rfl)) (hw _ (List.mem_of_getElem? (i := 3) rfl)) (hw _ (List.mem_of_getElem? (i := 4) rfl)) (by decide) (rm_Qaf l Z a0 hw [] x1 (x2 &&& (9223372036854775807 : Int64)) h0 n0 Z0) (by decide) (by decide) e0 (g := (mkF m 35 #[.val (.long x1), .second, .val (.long x2), .second, .val (.long (x2 &&& (9223372036854775807 : Int64))), .second, .val (.long (x1 + (x2 &&& (9223372036854775807 : Int64)))), .second, .unset, .unset] [(.long (x2 &&& (9223372036854775807 : Int64))), (.long x1)])) rfl (by rw [hml]; rfl) (argsL := [(.long x1), (.long (x2 &&& (9223372036854775807 : Int64)))]) (rest := []) rfl (lenOf pd_JJ__J rfl) rfl (by show 2 * 0 + _ ≤ _; exact Nat.le_of_eq rfl) (hb hby at_35) (by decide) (by decide)
    obtain ⟨rfl, N3q, e3⟩ := hQ3
    have N3 := Fr.app N0 N3q
    refine own_via (U' := T3.setTop (mkF m 38 #[.val (.long x1), .second, .val (.long x2), .second, .val (.long (x2 &&& (9223372036854775807 : Int64))), .second, .val (.long (x1 + (x2 &&& (9223372036854775807 : Int64)))), .second, .unset, .unset] [(.long (if (x1 + (x2 &&& (9223372036854775807 : Int64))) < x1 then (9223372036854775807 : Int64) else (x1 + (x2 &&& (9223372036854775807 : Int64)))))])) (fun t k => st3 t k) ?_
    refine own_via (U' := T3.setTop (mkF m 40 #[.val (.long x1), .second, .val (.long x2), .second, .val (.long (x2 &&& (9223372036854775807 : Int64))), .second, .val (.long (x1 + (x2 &&& (9223372036854775807 : Int64)))), .second, .val (.long (if (x1 + (x2 &&& (9223372036854775807 : Int64))) < x1 then (9223372036854775807 : Int64) else (x1 + (x2 &&& (9223372036854775807 : Int64))))), .second] [])) (fun t k => XS.lstore X3.here hx rfl (hb hby at_38) rfl (l' := #[.val (.long x1), .second, .val (.long x2), .second, .val (.long (x2 &&& (9223372036854775807 : Int64))), .second, .val (.long (x1 + (x2 &&& (9223372036854775807 : Int64)))), .second, .val (.long (if (x1 + (x2 &&& (9223372036854775807 : Int64))) < x1 then (9223372036854775807 : Int64) else (x1 + (x2 &&& (9223372036854775807 : Int64))))), .second]) rfl k) ?_
    refine own_via (U' := T3.setTop (mkF m 42 #[.val (.long x1), .second, .val (.long x2), .second, .val (.long (x2 &&& (9223372036854775807 : Int64))), .second, .val (.long (x1 + (x2 &&& (9223372036854775807 : Int64)))), .second, .val (.long (if (x1 + (x2 &&& (9223372036854775807 : Int64))) < x1 then (9223372036854775807 : Int64) else (x1 + (x2 &&& (9223372036854775807 : Int64))))), .second] [(.long (if (x1 + (x2 &&& (9223372036854775807 : Int64))) < x1 then (9223372036854775807 : Int64) else (x1 + (x2 &&& (9223372036854775807 : Int64)))))])) (fun t k => XS.lload X3.here hx rfl (hb hby at_40) rfl k) ?_
    refine own_via (U' := T3.setTop (mkF m 44 #[.val (.long x1), .second, .val (.long x2), .second, .val (.long (x2 &&& (9223372036854775807 : Int64))), .second, .val (.long (x1 + (x2 &&& (9223372036854775807 : Int64)))), .second, .val (.long (if (x1 + (x2 &&& (9223372036854775807 : Int64))) < x1 then (9223372036854775807 : Int64) else (x1 + (x2 &&& (9223372036854775807 : Int64))))), .second] [(.long (x1 + (x2 &&& (9223372036854775807 : Int64)))), (.long (if (x1 + (x2 &&& (9223372036854775807 : Int64))) < x1 then (9223372036854775807 : Int64) else (x1 + (x2 &&& (9223372036854775807 : Int64)))))])) (fun t k => XS.lload X3.here hx rfl (hb hby at_42) rfl k) ?_
    refine own_via (U' := T3.setTop (mkF m 45 #[.val (.long x1), .second, .val (.long x2), .second, .val (.long (x2 &&& (9223372036854775807 : Int64))), .second, .val (.long (x1 + (x2 &&& (9223372036854775807 : Int64)))), .second, .val (.long (if (x1 + (x2 &&& (9223372036854775807 : Int64))) < x1 then (9223372036854775807 : Int64) else (x1 + (x2 &&& (9223372036854775807 : Int64))))), .second] [(.int (lcmpW (if (x1 + (x2 &&& (9223372036854775807 : Int64))) < x1 then (9223372036854775807 : Int64) else (x1 + (x2 &&& (9223372036854775807 : Int64)))) (x1 + (x2 &&& (9223372036854775807 : Int64)))))])) (fun t k => XS.lcmp X3.here hx rfl (hb hby at_44) rfl k) ?_
    refine own_via (U' := T3.setTop (mkF m 48 #[.val (.long x1), .second, .val (.long x2), .second, .val (.long (x2 &&& (9223372036854775807 : Int64))), .second, .val (.long (x1 + (x2 &&& (9223372036854775807 : Int64)))), .second, .val (.long (if (x1 + (x2 &&& (9223372036854775807 : Int64))) < x1 then (9223372036854775807 : Int64) else (x1 + (x2 &&& (9223372036854775807 : Int64))))), .second] [])) (fun t k => XS.ifNo X3.here hx rfl (hb hby at_45) rfl (own_jeq (own_d2 x1 x2 hc1)).2 k) ?_
    refine own_via (U' := T3.setTop (mkF m 49 #[.val (.long x1), .second, .val (.long x2), .second, .val (.long (x2 &&& (9223372036854775807 : Int64))), .second, .val (.long (x1 + (x2 &&& (9223372036854775807 : Int64)))), .second, .val (.long (if (x1 + (x2 &&& (9223372036854775807 : Int64))) < x1 then (9223372036854775807 : Int64) else (x1 + (x2 &&& (9223372036854775807 : Int64))))), .second] [(.int (1 : Int32))])) (fun t k => XS.iconst X3.here hx rfl (hb hby at_48) k) ?_
    refine own_via (U' := T3.setTop (mkF m 53 #[.val (.long x1), .second, .val (.long x2), .second, .val (.long (x2 &&& (9223372036854775807 : Int64))), .second, .val (.long (x1 + (x2 &&& (9223372036854775807 : Int64)))), .second, .val (.long (if (x1 + (x2 &&& (9223372036854775807 : Int64))) < x1 then (9223372036854775807 : Int64) else (x1 + (x2 &&& (9223372036854775807 : Int64))))), .second] [(.int (1 : Int32))])) (fun t k => XS.goto X3.here hx rfl (pc0 := 49) (pc' := 53) rfl (hb hby at_49) (by decide) (by decide) k) ?_
    exact own_ret X3 (v := some (.int (1 : Int32))) (fun h => by rw [Bd.returns] at h; cases h) hlk (fun fs hr => retN X3 hx (t := .boolean) Bd.returns (by simp) (hb hby at_53) hr) (by rw [e3]; exact ⟨rfl, N3⟩) (by decide) (by decide)
set_option maxRecDepth 65536 in
set_option maxHeartbeats 40000000 in
theorem comes_1 {Post : Tables → Env → Array Value → State → Outcome → State → Prop} (hpost : ∀ tb e args s v u, (limb_1_1.after args s (.returned v) u = true ∧ limb_1_2.after args s (.returned v) u = true ∧ True) → FrameEnd s (.returned v) u (Jvm.fieldLocs frame_1_writes args s ++ Jvm.arrayLocs frame_1_arrays args s ++ Jvm.staticLocs frame_1_statics s) 0 0 → Post tb e args s (.returned v) u) :
    ArmFor flags0 classFile x code maxLocals ret World_1 tables_1 room_1 Calls_1 rest_1 Pre_1 Post := by
  intro l hfl _ _ p e ha hc hk s m args below hf hA hF happ hP
  obtain ⟨hcalls, hrest, hpre⟩ := hP
  obtain ⟨-, -, -, hnamed, -, -, -, hat⟩ := (Spec.applies_iff hf).mp happ
  obtain ⟨hg, hn⟩ := and_e (Cond.before_iff.mp (show (Jvm.Cond.and given_1 narrow_1).before args s = true from hpre))
  obtain ⟨hcount, r0⟩ := and_e hg
  obtain ⟨k0, r1⟩ := and_e r0
  obtain ⟨w0, w1, rfl⟩ : ∃ w0 w1 : Value, args = #[w0, w1] := by
    have hs : args.size = 2 := by simpa [Cond.value, given_1] using hcount
    obtain ⟨L⟩ := args
    match L, hs with
    | [w0, w1], _ => exact ⟨w0, w1, rfl⟩
  have hw := fun d (hd : d ∈ tables_1) => atoms_spec (ws := Jvm.Cond.code x code maxLocals ret :: tables_1) hat d (List.mem_cons_of_mem _ hd)
  have hfit : Fit s := fun {y c} hc i hi => by
    obtain ⟨ha, rfl⟩ := Array.getElem?_eq_some_iff.mp hc
    have q := List.all_eq_true.mp ((Array.all_eq_true_iff_forall_mem.mp hF) _ (Array.getElem_mem ha)) i (List.mem_range.mpr hi)
    simpa [Array.getElem?_eq_getElem hi] using q
  obtain ⟨i0, ei0⟩ := isL_v k0
  obtain rfl : w0 = (.long i0) := Option.some.inj ei0
  obtain ⟨i1, ei1⟩ := isL_v r1
  obtain rfl : w1 = (.long i1) := Option.some.inj ei1
  obtain ⟨n, o, h1, h2, h3, _, L, rfl, ⟨rfl, N⟩, hq⟩ := rm_Q0 l s _ hw tables_1 i0 i1 s.heap s.heap.size (Nat.le_refl _) p e ha hc hk s m _ below hf ((Spec.applies_iff_loose hf).mp happ).1 ⟨rfl, State.Warmed39.refl s, rfl⟩ trivial
  refine ⟨n, _, h1, h2, h3, hpost _ _ _ _ _ _ ⟨Cond.after_iff.mpr rfl, Cond.after_iff.mpr (eq_i res_at (Term.int_eval (1)) rfl), trivial⟩ ⟨hq.1, hq.2.1, (hq.2.2.sift fun y hy => Or.inr (N y hy)).mono (by decide) (by decide)⟩⟩
theorem main_1_1 : Claimed_1_1 := comes_1 fun _ _ _ _ _ _ h hF => ⟨h.1, hF⟩
theorem main_1_2 : Claimed_1_2 := comes_1 fun _ _ _ _ _ _ h hF => ⟨h.2.1, hF⟩
end Jvm.Pilot.@@N@@
namespace Jvm.Pilot.@@N@@
open Jvm Jvm.ClassFile Sem Op Lib Jvm.Free Jvm.Stand Jvm.Pilot.@@N@@.Jvm.D
/-! MADE BY PROGRAM (witnessworld.py) out of the Statement's table words and the real class files: 9 classes; the members and pool entries that the words name. The judged class is class 1, her method 1. -/
namespace start1
open Jvm.ClassFile
def u (s : String) : CpInfo := .utf8 (stringToUtf16 s)
/-- a pool by its gaps: so many unusable entries, then the entry; so many at the end -/
def gap : Nat → List CpInfo → List CpInfo
  | 0, r => r
  | n + 1, r => .unusable :: gap n r
def poolList (es : List (Nat × CpInfo)) (last : Nat) : List CpInfo := es.foldr (fun e r => gap e.1 (e.2 :: r)) (gap last [])
def pool (es : List (Nat × CpInfo)) (last : Nat) : Array CpInfo := ⟨poolList es last⟩
def fileOf (pool : Array CpInfo) (this : Nat) (attrs : Array Attribute := #[]) (ms : Array MethodInfo := #[]) (fl : Nat := 33) (sup : Nat := 0) (ifs : Array Nat := #[]) (fds : Array FieldInfo := #[]) : ClassFile where
  minorVersion := 0
  majorVersion := 65
  constantPool := pool
  accessFlags := fl
  thisClass := this
  superClass := sup
  interfaces := ifs
  fields := fds
  methods := ms
  attributes := attrs
def plain (name : String) (sup : Option ClassId) : Class where
  name := name
  kind := .ordinary
  loader := none
  accessFlags := 33
  super := sup
  interfaces := #[]
  cf := none
  fields := #[]
  methods := #[]
  instanceTypes := #[]
  staticTypes := #[]
  resolved := #[]
  callSites := []
  init := .initialized
  statics := none
  mirror := none

def pool0 : Array CpInfo := pool [(5, u "<init>"), (0, u "()V"), (1, .class_ 10), (1, u "java/lang/Object")] 113

def k0m0 : Method := { name := "<init>", desc := "()V", sig := { parameters := [], returnType := none }, accessFlags := 1, code := none }
/-- java/lang/Object -/
def k0 : Class := { plain "java/lang/Object" none with
  accessFlags := 33
  interfaces := #[]
  cf := some (fileOf pool0 8 #[] #[{ accessFlags := 1, nameIndex := 5, descriptorIndex := 6, attributes := #[] }] 33 0 #[] #[])
  fields := #[]
  methods := #[k0m0]
  instanceTypes := #[]
  staticTypes := #[]
  resolved := Array.replicate 124 none
  statics := none }

def pool1 : Array CpInfo := pool [(2, .class_ 4), (1, u "java/lang/Object"), (0, u "<init>"), (0, u "()V"), (2, .long 9223372036854775807), (1, .methodref 12 13), (0, .class_ 14), (0, .nameAndType 15 16), (0, u "com/example/bdelloid/bdelloid/rules/Deadlines"), (0, u "after"), (0, u "(JJ)J"), (0, .class_ 18), (0, u "com/example/bdelloid/bdelloid/rules/DeadlinesAfterPinLaw"), (2, u "law"), (0, u "(JJ)Z")] 3

def k1m0 : Method := { name := "<init>", desc := "()V", sig := { parameters := [], returnType := none }, accessFlags := 2, code := none }
def k1c1 : Code := { maxStack := 6, maxLocals := 10, code := code, exceptionTable := #[], attributes := #[] }
def k1m1 : Method := { name := "law", desc := "(JJ)Z", sig := { parameters := [.long, .long], returnType := some .boolean }, accessFlags := 9, code := some k1c1 }
/-- com/example/bdelloid/bdelloid/rules/DeadlinesAfterPinLaw -/
def k1 : Class := { plain "com/example/bdelloid/bdelloid/rules/DeadlinesAfterPinLaw" (some 0) with
  accessFlags := 49
  interfaces := #[]
  cf := some (fileOf pool1 17 #[] #[{ accessFlags := 2, nameIndex := 5, descriptorIndex := 6, attributes := #[] }, { accessFlags := 9, nameIndex := 21, descriptorIndex := 22, attributes := #[] }] 49 2 #[] #[])
  fields := #[]
  methods := #[k1m0, k1m1]
  instanceTypes := #[]
  staticTypes := #[]
  resolved := Array.replicate 26 none
  statics := none }

def pool2 : Array CpInfo := pool [(4, .class_ 6), (1, u "java/lang/Object"), (0, u "<init>"), (0, u "()V"), (0, .class_ 10), (0, u "com/example/bdelloid/bdelloid/rules/Deadlines"), (0, .long 9223372036854775807), (1, u "NO_DEADLINE"), (0, u "J"), (3, u "after"), (0, u "(JJ)J")] 3

def k2m0 : Method := { name := "<init>", desc := "()V", sig := { parameters := [], returnType := none }, accessFlags := 2, code := none }
def k2c1 : Code := { maxStack := 4, maxLocals := 6, code := prog_14_method_2_code, exceptionTable := #[], attributes := #[] }
def k2m1 : Method := { name := "after", desc := "(JJ)J", sig := { parameters := [.long, .long], returnType := some .long }, accessFlags := 8, code := some k2c1 }
/-- com/example/bdelloid/bdelloid/rules/Deadlines -/
def k2 : Class := { plain "com/example/bdelloid/bdelloid/rules/Deadlines" (some 0) with
  accessFlags := 32
  interfaces := #[]
  cf := some (fileOf pool2 9 #[] #[{ accessFlags := 2, nameIndex := 7, descriptorIndex := 8, attributes := #[] }, { accessFlags := 8, nameIndex := 18, descriptorIndex := 19, attributes := #[] }] 32 4 #[] #[{ accessFlags := 24, nameIndex := 13, descriptorIndex := 14, attributes := #[] }])
  fields := #[{ name := "NO_DEADLINE", type := .long, accessFlags := 24, slot := 0, constantValue := 0 }]
  methods := #[k2m0, k2m1]
  instanceTypes := #[]
  staticTypes := #[.long]
  resolved := Array.replicate 23 none
  statics := none }

def pool3 : Array CpInfo := pool [(1, u "java/lang/Cloneable"), (0, .class_ 1), (0, u "java/lang/Object"), (0, .class_ 3)] 3

/-- java/lang/Cloneable -/
def k3 : Class := { plain "java/lang/Cloneable" (some 0) with
  accessFlags := 1537
  interfaces := #[]
  cf := some (fileOf pool3 2 #[] #[] 1537 4 #[] #[])
  fields := #[]
  methods := #[]
  instanceTypes := #[]
  staticTypes := #[]
  resolved := Array.replicate 8 none
  statics := none }

def pool4 : Array CpInfo := pool [(1, u "java/io/Serializable"), (0, .class_ 1), (0, u "java/lang/Object"), (0, .class_ 3)] 3

/-- java/io/Serializable -/
def k4 : Class := { plain "java/io/Serializable" (some 0) with
  accessFlags := 1537
  interfaces := #[]
  cf := some (fileOf pool4 2 #[] #[] 1537 4 #[] #[])
  fields := #[]
  methods := #[]
  instanceTypes := #[]
  staticTypes := #[]
  resolved := Array.replicate 8 none
  statics := none }

/-- the primitive byte -/
def k5 : Class := { plain "byte" none with kind := .primitive 'B', accessFlags := 0x411 }
/-- [B -/
def k6 : Class := { plain "[B" (some 0) with kind := .array 5 .byte, interfaces := #[3, 4], accessFlags := 1041 }

/-- the primitive int -/
def k7 : Class := { plain "int" none with kind := .primitive 'I', accessFlags := 0x411 }
/-- [I -/
def k8 : Class := { plain "[I" (some 0) with kind := .array 7 .int, interfaces := #[3, 4], accessFlags := 1041 }

def heap : Heap := #[]
def classes : Array Class := #[k0, k1, k2, k3, k4, k5, k6, k7, k8]
def interned : List (Array UInt16 × Addr) := []
def slotsUsed : Nat := 0
def theMethod : MethodId := ⟨1, 1⟩
def args0 : Array Value := #[.long 5, .long 7]
def aboutOver (below : List Frame) : State where
  vm := { classes := classes, interned := interned.toArray }
  heap := heap
  slotsUsed := slotsUsed
  threads := #[{ frames := .invoking theMethod args0 :: below }]
def below0 : List Frame := [.native { method := ⟨0, 0⟩, args := #[] }]
def about1 : State := aboutOver below0
def p0 : Program := .bare "" "" ""
def e0 : Env := launch0.env 0 0 0
theorem w_frames : about1.frames = Frame.invoking theMethod args0 :: below0 := rfl
set_option maxRecDepth 65536 in
theorem w_args : argsFit about1.vm theMethod args0 = true := by decide +kernel
set_option maxRecDepth 65536 in
theorem w_heap : heapFits about1 = true := by decide +kernel
set_option maxRecDepth 65536 in
theorem w_runnable : about1.curStatus? = some .runnable := by decide +kernel
set_option maxRecDepth 65536 in
theorem w_alone : about1.alone = true := by decide +kernel
set_option maxRecDepth 65536 in
theorem w_named : about1.methodNamed? x = some theMethod := by decide +kernel
set_option maxRecDepth 65536 in
theorem w_hears : about1.hears theMethod below0 = true := by decide +kernel
set_option maxRecDepth 65536 in
theorem w_ripe : about1.ripe theMethod args0 below0 = true := by decide +kernel
theorem w_running : about1.status = .running := rfl
set_option maxRecDepth 65536 in
theorem w_room : about1.hasRoom e0.platform room_1 = true :=
  launch0.hasRoom_least _ room_1 (by decide +kernel) (by decide +kernel) (by decide +kernel) (by decide +kernel) (by decide +kernel) (by decide +kernel)
theorem allAtoms_all (ts : List Jvm.Cond) (a : Array Jvm.Value) (st : Jvm.State) : (allAtoms ts).before a st = ts.all (fun c => c.before a st) := by
  induction ts with
  | nil => rfl
  | cons c t ih =>
    show (Jvm.Cond.and c (allAtoms t)).before a st = _
    rw [Jvm.Cond.before_and, ih, List.all_cons]
def words1 : List Jvm.Cond := Jvm.Cond.code x code maxLocals ret :: tables_1
/-- a 'code' word, met by the world's own term for the bytes: nothing is compared byte by byte -/
theorem code_word {y : MethodName} {bytes : ByteArray} {mx : Nat} {rt : Option FieldType} {a : Array Value} {s : State} {m : MethodId} {meth : Method} {c : Code} (h1 : s.methodNamed? y = some m) (h2 : s.vm.method? m = some meth) (h3 : meth.code = some c) (h4 : c.code = bytes)
    (h5 : (c.maxLocals == mx && c.exceptionTable.isEmpty && decide (c.maxStack ≤ mostOperands) && decide (meth.sig.returnType = rt) && !meth.locks && decide (parseMethodDescriptor y.desc = some meth.sig)) = true) : (Jvm.Cond.code y bytes mx rt).before a s = true := by
  simp only [Bool.and_eq_true, beq_iff_eq, Bool.not_eq_true', decide_eq_true_eq] at h5
  obtain ⟨⟨⟨⟨⟨g1, g2⟩, g3⟩, g4⟩, g5⟩, g6⟩ := h5
  simp [Cond.before, Cond.holds, Cond.value, h1, h2, h3, h4, g1, g2, g3, g4, g5, g6]
def isCode : Jvm.Cond → Bool
  | .code _ _ _ _ => true
  | _ => false
theorem all_split {L : List Jvm.Cond} {P : Jvm.Cond → Bool} (h1 : L.all (fun c => isCode c || P c) = true) (h2 : ∀ c ∈ L.filter isCode, P c = true) : L.all P = true := by
  refine List.all_eq_true.mpr fun c hc => ?_
  have h := List.all_eq_true.mp h1 c hc
  rcases Bool.eq_false_or_eq_true (isCode c) with hi | hi
  · exact h2 c (List.mem_filter.mpr ⟨hc, hi⟩)
  · simpa [hi] using h
set_option maxRecDepth 65536 in
theorem w_c0 : (Jvm.Cond.code x code maxLocals ret).before args0 about1 = true := code_word (m := ⟨1, 1⟩) (meth := k1m1) (c := k1c1) (by decide +kernel) rfl rfl rfl (by decide +kernel)
set_option maxRecDepth 65536 in
theorem w_c1 : (Jvm.Cond.code ({ cls := "com/example/bdelloid/bdelloid/rules/Deadlines", name := "after", desc := "(JJ)J" } : Jvm.MethodName) prog_14_method_2_code (6 : Nat) (Option.some Jvm.ClassFile.FieldType.long)).before args0 about1 = true := code_word (m := ⟨2, 1⟩) (meth := k2m1) (c := k2c1) (by decide +kernel) rfl rfl rfl (by decide +kernel)
def codes1 : List Jvm.Cond := [Jvm.Cond.code x code maxLocals ret, Jvm.Cond.code ({ cls := "com/example/bdelloid/bdelloid/rules/Deadlines", name := "after", desc := "(JJ)J" } : Jvm.MethodName) prog_14_method_2_code (6 : Nat) (Option.some Jvm.ClassFile.FieldType.long)]
set_option maxRecDepth 65536 in
theorem codes_eq : words1.filter isCode = codes1 := rfl
theorem w_codes : ∀ c ∈ words1.filter isCode, c.before args0 about1 = true := by
  rw [codes_eq]
  intro c hc
  simp only [codes1, List.mem_cons, List.not_mem_nil, or_false] at hc
  rcases hc with rfl | rfl
  · exact w_c0
  · exact w_c1
set_option maxRecDepth 65536 in
theorem w_t1 : words1.all (fun c => isCode c || c.before args0 about1) = true := by decide +kernel
theorem w_tables : (allAtoms (Jvm.Cond.code x code maxLocals ret :: tables_1)).before args0 about1 = true := by
  rw [allAtoms_all]
  show words1.all (fun c => c.before args0 about1) = true
  refine all_split ?_ w_codes
  rw [w_t1]
set_option maxRecDepth 65536 in
theorem w_case : (Jvm.Cond.and given_1 narrow_1).before args0 about1 = true := by decide +kernel
theorem w_applies : (headSpec (Jvm.Cond.code x code maxLocals ret :: tables_1) room_1).applies x e0.platform about1 = true :=
  (Spec.applies_iff w_frames).mpr ⟨w_running, w_runnable, w_alone, w_named, w_hears, w_ripe, w_room, w_tables⟩
theorem atStart : AtStart classFile x code maxLocals ret World_1 tables_1 room_1 Calls_1 rest_1 Pre_1 launch0 p0 e0 about1 theMethod args0 below0 :=
  ⟨lists_1, trivial, launch0.admits_env _ _ _, launch0.least_env, fairChoices_fair.cas, fairChoices_fair.clock, w_frames, w_args, w_heap, w_applies, trivial, trivial, w_case⟩
end start1
theorem witness_1 : WitnessClaimed_1 := ⟨start1.p0, start1.e0, start1.about1, start1.theMethod, start1.args0, start1.below0, start1.atStart⟩
end Jvm.Pilot.@@N@@
