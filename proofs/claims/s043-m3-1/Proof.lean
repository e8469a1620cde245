import JvmDerived
import JvmDerived.Pilot.@@N@@Statement
import JvmDerived.Pilot.@@N@@Code
set_option linter.unusedVariables false
set_option linter.unusedSimpArgs false
namespace Jvm.Pilot.@@N@@
open Jvm Jvm.ClassFile Sem Op Lib Jvm.Free Jvm.Stand Jvm.LawKit Jvm.RoadKit Bundle Jvm.Pilot.@@N@@.Jvm.D
/-! own laws: the run from a state to the return, in continuation form -/
section OwnG
variable {p : Program} {l : Launch} {e : Env} {R : Room} {s : State} {m : MethodId} {args : Array Value} {below : List Frame} {meth : Method} {c : Code} {T : State} {locs : List Loc} {cells slots : Nat} {Z : State} {a0 : Array Value} {h : Heap} {Q : Option Value → Heap → List Loc → Prop} {ck sk : Nat}
def own_G (p : Program) (e : Env) (below : List Frame) (s : State) (Q : Option Value → Heap → List Loc → Prop) (ck sk : Nat) (U : State) : Prop :=
  ∃ s₂ o, Steps p.tables e below U s₂ ∧ s₂.status = .running ∧ Ended s₂ below o ∧ ∃ v L, o = .returned v ∧ Q v s₂.heap L ∧ FrameEnd s o s₂ L ck sk
theorem own_via {U U' : State} (k : ∀ t, Steps p.tables e below U' t → Steps p.tables e below U t) (g : own_G p e below s Q ck sk U') : own_G p e below s Q ck sk U := by
  obtain ⟨s2, o, h1, r⟩ := g
  exact ⟨s2, o, k _ h1, r⟩
theorem own_mono {Q' : Option Value → Heap → List Loc → Prop} {U : State} (k : ∀ v h L, Q v h L → Q' v h L) (g : own_G p e below s Q ck sk U) : own_G p e below s Q' ck sk U := by
  obtain ⟨s2, o, h1, h2, h3, v, L, h4, h5, h6⟩ := g
  exact ⟨s2, o, h1, h2, h3, v, L, h4, k _ _ _ h5, h6⟩
theorem own_ret (X : Stand p l e R s m args below meth c T locs cells slots) {v : Option Value} (hv : meth.sig.returnType = none → v = none) (hlk : meth.locks = false) {f : JFrame}
    (st : ∀ fs, (∀ (f : JFrame) (acts : List Action), f.method = m → f.locked = none → f.entered = [] → (doReturn e (T.setTop f) acts v).1 = T.setFrames fs) → Steps p.tables e below (T.setTop f) (T.setFrames fs))
    (hQ : Q v T.heap locs) (hc : cells ≤ ck) (hs : slots ≤ sk) : own_G p e below s Q ck sk (T.setTop f) := by
  obtain ⟨fs, hr, hrun, hended, hW, hsame⟩ := X.leave (v := v) hv hlk
  exact ⟨_, _, st fs hr, hrun, hended, _, _, rfl, hQ, ⟨_, rfl⟩, hW, hsame.mono hc hs⟩
theorem own_callS (X : Stand p l e R s m args below meth c T locs cells slots) (hx : p.tables.exec = Jvm.exec) (hZ : Z.Warmed39 s.vm) {own : String} {index : Nat} {y : MethodName} {bytes : ByteArray} {maxL : Nat} {ret : Option FieldType} {rm : Room} {as' : Array Value} {W : Nat}
    (hown : s.vm.findClass own = some m.cls) (w1 : (Jvm.Cond.methodLink own index y).before a0 Z = true) (w2 : (Jvm.Cond.static y).before a0 Z = true) (w3 : (Jvm.Cond.initialized y.cls).before a0 Z = true) (w4 : (Jvm.Cond.code y bytes maxL ret).before a0 Z = true)
    (hy : y.cls ≠ "java/lang/invoke/MethodHandle" ∧ y.cls ≠ "java/lang/invoke/VarHandle")
    (hM : MetFree l y (head1 [Jvm.Cond.code y bytes maxL ret] rm) (fun a U => a = as' ∧ Z.Warmed39 U.vm ∧ U.heap = h) (fun _ _ _ _ _ => True) (fun _ U o U' => ∃ v L, o = .returned v ∧ Q v U'.heap L ∧ FrameEnd U o U' L rm.cells rm.slots))
    (hf : rm.frames + 1 ≤ R.frames) (hl : W + (maxL + 11) + rm.locals ≤ R.locals) (eT : T.heap = h)
    {g : JFrame} (hg : g.method = m) (hsize : g.locals.size = c.maxLocals) {argsL rest : List Value} (has : argsL.toArray = as') (hlen : ∀ sig, parseMethodDescriptor y.desc = some sig → argsL.length = sig.parameters.length)
    (hstack : g.stack = argsL.reverse ++ rest) (hW : 2 * g.monitorRoom + (rest.map fun v => v.category).sum ≤ W) (hdg : decode c.code g.pc = .ok (.invokestatic index, 3))
    (hcells : cells + rm.cells ≤ R.cells) (hslots : slots + rm.slots ≤ R.slots) :
    ∃ v T' L', Stand p l e R s m args below meth c T' (locs ++ L') (cells + rm.cells) (slots + rm.slots) ∧ Q v T'.heap L' ∧ ∀ t, Steps p.tables e below (T'.setTop { g with pc := g.pc + 3, stack := v.toList ++ rest }) t → Steps p.tables e below (T.setTop g) t := by
  obtain ⟨v, vm1, ⟨T', L', k', n'⟩, -, X', ⟨Lc, hQ, q1, q2, q3⟩, st⟩ := Jvm.LawKit.callS X hx hown (mvT hZ w1) (mvT hZ w2) (mvT hZ w3) (mvT hZ w4) hy (backOf (W := W) hM hZ w4 w3 hf hl) hg hsize hlen hstack hW hdg (fun _ _ => ⟨has, eT, hcells, hslots⟩)
  dsimp only [Pt.U, Pt.locs, Pt.cells, Pt.slots] at X' q1 q2 q3 st hQ
  subst q1 q2 q3
  exact ⟨v, T', Lc, X', hQ, st⟩
theorem own_callI (X : Stand p l e R s m args below meth c T locs cells slots) (hx : p.tables.exec = Jvm.exec) (hZ : Z.Warmed39 s.vm) {own : String} {index : Nat} {y : MethodName} (hy1 : y.name = "<init>") {bytes : ByteArray} {maxL : Nat} {rm : Room} {as' : Array Value} {W : Nat}
    (hown : s.vm.findClass own = some m.cls) (w1 : (Jvm.Cond.methodLink own index y).before a0 Z = true) (w2 : (Jvm.Cond.instanceMethod y).before a0 Z = true) (w3 : (Jvm.Cond.initialized y.cls).before a0 Z = true) (w4 : (Jvm.Cond.code y bytes maxL none).before a0 Z = true)
    (hy : y.cls ≠ "java/lang/invoke/MethodHandle" ∧ y.cls ≠ "java/lang/invoke/VarHandle")
    (hM : MetFree l y (head1 [Jvm.Cond.code y bytes maxL none] rm) (fun a U => a = as' ∧ Z.Warmed39 U.vm ∧ U.heap = h) (fun _ _ _ _ _ => True) (fun _ U o U' => ∃ v L, o = .returned v ∧ Q v U'.heap L ∧ FrameEnd U o U' L rm.cells rm.slots))
    (hf : rm.frames + 1 ≤ R.frames) (hl : W + (maxL + 11) + rm.locals ≤ R.locals) (eT : T.heap = h)
    {g : JFrame} (hg : g.method = m) (hsize : g.locals.size = c.maxLocals) {a : Addr} {argsL rest : List Value} (has : (.ref a :: argsL).toArray = as') (hlen : ∀ sig, parseMethodDescriptor y.desc = some sig → argsL.length = sig.parameters.length)
    (hstack : g.stack = argsL.reverse ++ .ref a :: rest) (hW : 2 * g.monitorRoom + (rest.map fun v => v.category).sum ≤ W) (hdg : decode c.code g.pc = .ok (.invokespecial index, 3))
    (hcells : cells + rm.cells ≤ R.cells) (hslots : slots + rm.slots ≤ R.slots) :
    ∃ v T' L', Stand p l e R s m args below meth c T' (locs ++ L') (cells + rm.cells) (slots + rm.slots) ∧ Q v T'.heap L' ∧ ∀ t, Steps p.tables e below (T'.setTop { g with pc := g.pc + 3, stack := v.toList ++ rest }) t → Steps p.tables e below (T.setTop g) t := by
  obtain ⟨v, vm1, ⟨T', L', k', n'⟩, -, X', ⟨Lc, hQ, q1, q2, q3⟩, st⟩ := X.specialBack hx hy1 hown (mvT hZ w1) (mvT hZ w2) (mvT hZ w4) hy (backOf (W := W) hM hZ w4 w3 hf hl) hg hsize (Steps.refl _) hlen hstack hW hdg (fun _ _ => ⟨has, eT, hcells, hslots⟩)
  dsimp only [Pt.U, Pt.locs, Pt.cells, Pt.slots] at X' q1 q2 q3 st hQ
  subst q1 q2 q3
  exact ⟨v, T', Lc, X', hQ, fun t k => st.trans k⟩
theorem own_callV (X : Stand p l e R s m args below meth c T locs cells slots) (hx : p.tables.exec = Jvm.exec) (hZ : Z.Warmed39 s.vm) {own : String} {index : Nat} {y : MethodName} {bytes : ByteArray} {maxL : Nat} {ret : Option FieldType} {rm : Room} {as' : Array Value} {W : Nat} {C : String}
    (hown : s.vm.findClass own = some m.cls) (w1 : (Jvm.Cond.methodLink own index y).before a0 Z = true) (w2 : (Jvm.Cond.declares y).before a0 Z = true) (w5 : (Jvm.Cond.selects C y y).before a0 Z = true) (w6 : (Jvm.Cond.instanceMethod y).before a0 Z = true) (w3 : (Jvm.Cond.initialized y.cls).before a0 Z = true) (w4 : (Jvm.Cond.code y bytes maxL ret).before a0 Z = true)
    (hy : y.cls ≠ "java/lang/invoke/MethodHandle" ∧ y.cls ≠ "java/lang/invoke/VarHandle")
    (hM : MetFree l y (head1 [Jvm.Cond.code y bytes maxL ret] rm) (fun a U => a = as' ∧ Z.Warmed39 U.vm ∧ U.heap = h) (fun _ _ _ _ _ => True) (fun _ U o U' => ∃ v L, o = .returned v ∧ Q v U'.heap L ∧ FrameEnd U o U' L rm.cells rm.slots))
    (hf : rm.frames + 1 ≤ R.frames) (hl : W + (maxL + 11) + rm.locals ≤ R.locals) (eT : T.heap = h) {b : Addr} (E : Exa Z h b C)
    {g : JFrame} (hg : g.method = m) (hsize : g.locals.size = c.maxLocals) {argsL rest : List Value} (has : (.ref b :: argsL).toArray = as') (hlen : ∀ sig, parseMethodDescriptor y.desc = some sig → argsL.length = sig.parameters.length)
    (hstack : g.stack = argsL.reverse ++ .ref b :: rest) (hW : 2 * g.monitorRoom + (rest.map fun v => v.category).sum ≤ W) (hdg : decode c.code g.pc = .ok (.invokevirtual index, 3))
    (hcells : cells + rm.cells ≤ R.cells) (hslots : slots + rm.slots ≤ R.slots) :
    ∃ v T' L', Stand p l e R s m args below meth c T' (locs ++ L') (cells + rm.cells) (slots + rm.slots) ∧ Q v T'.heap L' ∧ ∀ t, Steps p.tables e below (T'.setTop { g with pc := g.pc + 3, stack := v.toList ++ rest }) t → Steps p.tables e below (T.setTop g) t := by
  obtain ⟨cq, kq, qa, qb, qc⟩ := isOf hZ eT E
  obtain ⟨v, vm1, ⟨T', L', k', n'⟩, -, X', ⟨Lc, hQ, q1, q2, q3⟩, st⟩ := X.virtualBack hx hown (mvT hZ w1) (mvT hZ w2) (notFace_of_selects (args := #[]) (mvT hZ w5)) (mvT hZ w5) (mvT hZ w6) hy (backOf (W := W) hM hZ w4 w3 hf hl) qa qc hg hsize (Steps.refl _) hlen hstack hW hdg (fun _ _ => ⟨has, eT, hcells, hslots⟩)
  dsimp only [Pt.U, Pt.locs, Pt.cells, Pt.slots] at X' q1 q2 q3 st hQ
  subst q1 q2 q3
  exact ⟨v, T', Lc, X', hQ, fun t k => st.trans k⟩
end OwnG
theorem own_jlt {x y : Int64} (h : x < y) : ifCond.holds .lt (lcmpW x y) = true ∧ ifCond.holds .ge (lcmpW x y) = false := by
  have q := (lw_lt x y).mpr h
  exact ⟨(if0 _ _).trans (tlt q).1, (if0 _ _).trans (tlt q).2.1⟩
theorem own_jnlt {x y : Int64} (h : ¬ x < y) : ifCond.holds .lt (lcmpW x y) = false ∧ ifCond.holds .ge (lcmpW x y) = true := by
  have q := fun z => h ((lw_lt x y).mp z)
  exact ⟨(if0 _ _).trans (flt q).1, (if0 _ _).trans (flt q).2.1⟩
theorem own_jgt {x y : Int64} (h : y < x) : ifCond.holds .gt (lcmpW x y) = true ∧ ifCond.holds .le (lcmpW x y) = false := by
  have q := (lw_gt x y).mpr h
  exact ⟨(if0 _ _).trans (tlt q).2.2.1, (if0 _ _).trans (tlt q).2.2.2⟩
theorem own_jngt {x y : Int64} (h : ¬ y < x) : ifCond.holds .gt (lcmpW x y) = false ∧ ifCond.holds .le (lcmpW x y) = true := by
  have q := fun z => h ((lw_gt x y).mp z)
  exact ⟨(if0 _ _).trans (flt q).2.2.1, (if0 _ _).trans (flt q).2.2.2⟩
theorem own_jeq {x y : Int64} (h : x = y) : ifCond.holds .eq (lcmpW x y) = true ∧ ifCond.holds .ne (lcmpW x y) = false := by
  have q := (lw_eq x y).mpr h
  exact ⟨(if0 _ _).trans (teq q).1, (if0 _ _).trans (teq q).2⟩
theorem own_jne {x y : Int64} (h : ¬ x = y) : ifCond.holds .eq (lcmpW x y) = false ∧ ifCond.holds .ne (lcmpW x y) = true := by
  have q := fun z => h ((lw_eq x y).mp z)
  exact ⟨(if0 _ _).trans (feq q).1, (if0 _ _).trans (feq q).2⟩
theorem own_sta_keep {Z : State} {h h' : Heap} {C n d : String} {v : Value} {ws : List Addr} (F : Sta Z h C n d v) (K : Keep h h' ws) (q : ∀ x ∈ ws, ∃ cell : Cell, h[x]? = some cell ∧ cell.vm.isStatics = false) : Sta Z h' C n d v := by
  obtain ⟨cf, i, k, f, st, cell, h1, h2, h3, h4, h5, h6, h7⟩ := F
  refine ⟨cf, i, k, f, st, cell, h1, h2, h3, h4, K.2.1 st cell h5 (fun hm => ?_), h6, h7⟩
  obtain ⟨c', e1, e2⟩ := q st hm
  cases h5.symm.trans e1
  rw [e2] at h6; cases h6
theorem own_exa_ns {Z : State} {h : Heap} {a : Addr} {C : String} (E : Exa Z h a C) : ∃ cell : Cell, h[a]? = some cell ∧ cell.vm.isStatics = false := by
  obtain ⟨cell, k, h1, -, -, h4, -⟩ := E
  exact ⟨cell, h1, h4⟩
theorem own_arv_ns {Z : State} {h : Heap} {a : Addr} {k : ClassId} {ty : FieldType} {z : Int32} {vs : List Value} {dv : Value} (F : Arv Z h a k ty z vs dv) : ∃ cell : Cell, h[a]? = some cell ∧ cell.vm.isStatics = false := by
  obtain ⟨c, A, -⟩ := F
  exact ⟨c, A.1, A.plain⟩
theorem own_seg {tb : Tables} {e : Env} {below : List Frame} {U U' t : State} (a : Steps tb e below U' t → Steps tb e below U t) (b : Steps tb e below U' t) : Steps tb e below U t := a b
theorem own_NSroot {Z : State} {a0 : Array Value} {O K : String} {n : Nat} (w : (Jvm.Cond.noSuperclass O).before a0 Z = true) (wk : (Jvm.Cond.instantiable K n).before a0 Z = true) (hn : O ≠ K) : NS Z O K := by
  obtain ⟨c, k, h1, h2, h3, -, -⟩ := Cond.noSuperclass_spec w
  obtain ⟨t, kt, g1, -⟩ := Cond.instantiable_spec wk
  refine ⟨c, t, h1, g1, fun fuel => ?_⟩
  have ne := ids_ne h1 g1 hn
  cases fuel <;> simp [Vm.isSubclassAux, ne, h2, h3]
theorem own_NSno {Z : State} {a0 : Array Value} {C S K : String} {n : Nat} (w : (Jvm.Cond.superclass C S).before a0 Z = true) (wk : (Jvm.Cond.instantiable K n).before a0 Z = true) (nn : NS Z C K) (hn : C ≠ K) : ∃ c t, Z.vm.findClass C = some c ∧ Z.vm.findClass K = some t ∧ Z.vm.assignable c t = false := by
  obtain ⟨c, t, h0, g0, n3⟩ := nn
  obtain ⟨p, k, kp, h1, h2, h3, h4, h5, -, h7⟩ := Cond.superclass_spec h0 w
  obtain ⟨t', kt, g1, g2, g3, g4, -⟩ := Cond.instantiable_spec wk
  cases g0.symm.trans g1
  have g7 : kt.isInterface = false := by cases q : kt.isInterface <;> simp [q] at g4 ⊢
  have ne := ids_ne h0 g0 hn
  refine ⟨c, t, h0, g0, ?_⟩
  show Z.vm.assignableAux (255 + 1) c t = false
  simp [Vm.assignableAux, ne, h2, g2, h5, g3, g7, Vm.isSubclass, n3]
theorem own_cb (x : Int64) : -92233720368547758 ≤ (x / (100 : Int64)).toInt ∧ (x / (100 : Int64)).toInt ≤ 92233720368547758 := by
  have h := c_ldiv x 100 100 (by decide) (by decide)
  have r := rng64 x
  rcases Int.lt_or_le x.toInt 0 with q | q
  · rw [h.2 q]; omega
  · rw [h.1 q]; omega
theorem own_rb (x : Int32) : -99 ≤ (x % (100 : Int32)).toInt ∧ (x % (100 : Int32)).toInt ≤ 99 := by
  have h := c_irem x 100 100 (by decide)
  rcases Int.lt_or_le x.toInt 0 with q | q
  · rw [h.2 q]; omega
  · rw [h.1 q]; omega
theorem own_ab (r : Int32) (h : -99 ≤ r.toInt ∧ r.toInt ≤ 99) : 0 ≤ (if r < (0 : Int32) then (-r) else r).toInt ∧ (if r < (0 : Int32) then (-r) else r).toInt ≤ 99 := by
  have e0 : (0 : Int32).toInt = 0 := by decide
  split
  · rename_i q; rw [Int32.lt_iff_toInt_lt] at q
    have k := c_ineg r; have k2 := rng32 (-r)
    omega
  · rename_i q; rw [Int32.lt_iff_toInt_lt] at q; omega
theorem own_nb (a : Int32) (h : 0 ≤ a.toInt ∧ a.toInt ≤ 99) : -99 ≤ (-a).toInt ∧ (-a).toInt ≤ 0 := by
  have k := c_ineg a; have k2 := rng32 (-a)
  omega
def own_OK (c : Int64) (off : Int32) : Prop := (0 < c.toInt → -99 ≤ off.toInt ∧ off.toInt ≤ 0) ∧ (c.toInt < 0 → 0 ≤ off.toInt ∧ off.toInt ≤ 99) ∧ (c.toInt = 0 → -99 ≤ off.toInt ∧ off.toInt ≤ 99)
theorem own_z64 : (0 : Int64).toInt = 0 := by decide
theorem own_ok1 (c : Int64) (r : Int32) (h : (0 : Int64) < c) (hr : -99 ≤ r.toInt ∧ r.toInt ≤ 99) : own_OK c (-(if r < (0 : Int32) then (-r) else r)) := by
  rw [Int64.lt_iff_toInt_lt, own_z64] at h
  exact ⟨fun _ => own_nb _ (own_ab r hr), fun q => by omega, fun q => by omega⟩
theorem own_ok2 (c : Int64) (r : Int32) (h : c < (0 : Int64)) (hr : -99 ≤ r.toInt ∧ r.toInt ≤ 99) : own_OK c (if r < (0 : Int32) then (-r) else r) := by
  rw [Int64.lt_iff_toInt_lt, own_z64] at h
  exact ⟨fun q => by omega, fun _ => own_ab r hr, fun q => by omega⟩
theorem own_ok3 (c : Int64) (r : Int32) (h : ¬ (0 : Int64) < c) (h2 : ¬ c < (0 : Int64)) (hr : -99 ≤ r.toInt ∧ r.toInt ≤ 99) : own_OK c r := by
  rw [Int64.lt_iff_toInt_lt, own_z64] at h h2
  exact ⟨fun q => by omega, fun q => by omega, fun _ => hr⟩
theorem own_u (c : Int64) (off : Int32) (hc : -92233720368547758 ≤ c.toInt ∧ c.toInt ≤ 92233720368547758) (ho : own_OK c off) : ((c * (100 : Int64)) + off.toInt64).toInt = c.toInt * 100 + off.toInt := by
  have h1 := c_lmul c 100
  have h2 := c_ladd (c * 100) off.toInt64
  have e : (100 : Int64).toInt = 100 := by decide
  rw [c_i2l] at h2
  rw [e] at h1
  have k1 := rng64 (c * 100)
  have k2 := rng64 (c * 100 + off.toInt64)
  obtain ⟨o1, o2, o3⟩ := ho
  have h3 : (c * 100).toInt = c.toInt * 100 := by omega
  rcases Int.lt_trichotomy c.toInt 0 with q | q | q
  · have := o2 q; omega
  · have := o3 q; omega
  · have := o1 q; omega
theorem own_B1 (u : Int64) (c : Int64) (off : Int32) (hu : u.toInt = c.toInt * 100 + off.toInt) (h0 : off = (0 : Int32)) (hc : (0 : Int64) < c) : (if (0 : Int64) < u then (if (u - u / (100 : Int64) * (100 : Int64)) = (0 : Int64) then (1 : Int32) else (0 : Int32)) else (0 : Int32)) = (1 : Int32) := by
  have e0 : (0 : Int32).toInt = 0 := by decide
  have h := c_lrem u 100 100 (by decide)
  rw [Int64.lt_iff_toInt_lt, own_z64] at hc
  rw [h0, e0] at hu
  rw [if_pos (by rw [Int64.lt_iff_toInt_lt, own_z64]; omega), if_pos (by rw [← Int64.toInt_inj, own_z64, h.1 (by omega)]; omega)]
theorem own_B0 (u : Int64) (c : Int64) (off : Int32) (hu : u.toInt = c.toInt * 100 + off.toInt) (ho : own_OK c off) (h0 : ¬ off = (0 : Int32)) : (if (0 : Int64) < u then (if (u - u / (100 : Int64) * (100 : Int64)) = (0 : Int64) then (1 : Int32) else (0 : Int32)) else (0 : Int32)) = (0 : Int32) := by
  have e0 : (0 : Int32).toInt = 0 := by decide
  have h := c_lrem u 100 100 (by decide)
  rw [← Int32.toInt_inj, e0] at h0
  split
  · rename_i q; rw [Int64.lt_iff_toInt_lt, own_z64] at q
    rw [if_neg]
    rw [← Int64.toInt_inj, own_z64, h.1 (by omega)]
    obtain ⟨o1, o2, o3⟩ := ho
    rcases Int.lt_trichotomy c.toInt 0 with q | q | q
    · have := o2 q; omega
    · have := o3 q; omega
    · have := o1 q; omega
  · rfl
theorem own_B2 (u : Int64) (c : Int64) (off : Int32) (hu : u.toInt = c.toInt * 100 + off.toInt) (h0 : off = (0 : Int32)) (hc : ¬ (0 : Int64) < c) : (if (0 : Int64) < u then (if (u - u / (100 : Int64) * (100 : Int64)) = (0 : Int64) then (1 : Int32) else (0 : Int32)) else (0 : Int32)) = (0 : Int32) := by
  have e0 : (0 : Int32).toInt = 0 := by decide
  rw [Int64.lt_iff_toInt_lt, own_z64] at hc
  rw [h0, e0] at hu
  rw [if_neg (by rw [Int64.lt_iff_toInt_lt, own_z64]; omega)]

def Qrec (Z : State) (o : Addr) (h0 : Heap) (n0 : Nat) (v : Option Value) (h : Heap) (L : List Loc) : Prop := v = none ∧ Fr n0 L ∧ h = h0
theorem d_jdk_30_method_1_0 : decode jdk_30_method_1_code 0 = .ok (.aload_n 0, 1) := by decide +kernel
theorem d_jdk_30_method_1_1 : decode jdk_30_method_1_code 1 = .ok (.invokespecial 1, 3) := by decide +kernel
theorem d_jdk_30_method_1_4 : decode jdk_30_method_1_code 4 = .ok (.return_, 1) := by decide +kernel
theorem ef_rm_Qrec (m : MethodId) (x0 : Addr) : entryFrame m #[(.ref x0)] 1 = mkF m 0 #[.val (.ref x0)] [] := by first | (simp [entryFrame, mkF, argsToLocals, Value.category]; done) | rfl
theorem pn_java_lang_Record : plainName "java/lang/Record" = true := by first | (simp [plainName, overriddenIn]; done) | decide +kernel
set_option maxRecDepth 65536 in
set_option maxHeartbeats 40000000 in
theorem rm_Qrec (l : Launch) (Z : State) (a0 : Array Value) (hw : ∀ d ∈ tables_1, d.before a0 Z = true) (ws : List Jvm.Cond) (o : Addr) (h0 : Heap) (n0 : Nat) (Z0 : n0 ≤ h0.size) :
    MetFree l (⟨"java/lang/Record", "<init>", "()V"⟩ : MethodName) (head1 (Jvm.Cond.code (⟨"java/lang/Record", "<init>", "()V"⟩ : MethodName) jdk_30_method_1_code 1 none :: ws) ({ frames := 1, cells := 0, slots := 0, locals := 12 } : Room)) (fun aa_ UU_ => aa_ = #[(.ref o)] ∧ Z.Warmed39 UU_.vm ∧ UU_.heap = h0) (fun _ _ _ _ _ => True) (fun _ UU_ oo_ VV_ => ∃ vv_ LL_, oo_ = .returned vv_ ∧ Qrec Z o h0 n0 vv_ VV_.heap LL_ ∧ FrameEnd UU_ oo_ VV_ LL_ ({ frames := 1, cells := 0, slots := 0, locals := 12 } : Room).cells ({ frames := 1, cells := 0, slots := 0, locals := 12 } : Room).slots) := by
  refine MetFree.of_bodySF (plainFor_of_name pn_java_lang_Record) hisR ?_
  intro p e s m args below meth c s₁ Bd hml0 hP hK
  obtain ⟨rfl, hZ, hh⟩ := hP
  have hx := Bd.exec
  have hby := Bd.bytes
  have hml : c.maxLocals = 1 := hml0
  have hown : s.vm.findClass "java/lang/Record" = some m.cls := findClass_of_methodNamed Bd.named
  have hnm := (name_of_methodNamed Bd.named Bd.method).1
  have hlk : meth.locks = false := Bd.notSynchronized
  have X0 : Stand p l e ({ frames := 1, cells := 0, slots := 0, locals := 12 } : Room) s m #[(.ref o)] below meth c s₁ [] 0 0 := Stand.of_body Bd
  have e0 : s₁.heap = h0 := by rw [← hh, Bd.state]; rfl
  have N0 := Fr.nil n0
  have K0 := Keep.refl h0 []
  show own_G p e below s (Qrec Z o h0 n0) _ _ (s₁.setTop (entryFrame m #[(.ref o)] 1))
  rw [ef_rm_Qrec m o]
  refine own_via (U' := s₁.setTop (mkF m 1 #[.val (.ref o)] [(.ref o)])) (fun t k => XS.aloadN X0.here hx rfl (hb hby d_jdk_30_method_1_0) rfl rfl k) ?_
  obtain ⟨T1, X1, e1, st1⟩ := initO X0 hx hZ hown (hw _ (List.mem_of_getElem? (i := 12) rfl)) (hw _ (List.mem_of_getElem? (i := 13) rfl)) (hw _ (List.mem_of_getElem? (i := 14) rfl)) e0 (g := (mkF m 1 #[.val (.ref o)] [(.ref o)])) rfl (by rw [hml]; rfl) rfl (hb hby d_jdk_30_method_1_1) (by decide) (W := 0) (by show 2 * 0 + _ ≤ _; exact Nat.le_of_eq rfl) (by decide)
  refine own_via (U' := T1.setTop (mkF m 4 #[.val (.ref o)] [])) (fun t k => st1 t k) ?_
  exact own_ret X1 (v := none) (fun _ => rfl) hlk (fun fs hr => X1.returnOut hx Bd.returns (hb hby d_jdk_30_method_1_4) hr) (by rw [e1]; exact ⟨rfl, N0, rfl⟩) (by decide) (by decide)
def Qabs (Z : State) (x1 : Int32) (h0 : Heap) (n0 : Nat) (v : Option Value) (h : Heap) (L : List Loc) : Prop := v = some (.int (if x1 < (0 : Int32) then (-x1) else x1)) ∧ Fr n0 L ∧ h = h0
theorem d_jdk_29_method_59_0 : decode jdk_29_method_59_code 0 = .ok (.iload_n 0, 1) := by decide +kernel
theorem d_jdk_29_method_59_1 : decode jdk_29_method_59_code 1 = .ok (.ifCond .ge 8, 3) := by decide +kernel
theorem d_jdk_29_method_59_4 : decode jdk_29_method_59_code 4 = .ok (.iload_n 0, 1) := by decide +kernel
theorem d_jdk_29_method_59_5 : decode jdk_29_method_59_code 5 = .ok (.ineg, 1) := by decide +kernel
theorem d_jdk_29_method_59_6 : decode jdk_29_method_59_code 6 = .ok (.goto 4, 3) := by decide +kernel
theorem d_jdk_29_method_59_10 : decode jdk_29_method_59_code 10 = .ok (.ireturn, 1) := by decide +kernel
theorem d_jdk_29_method_59_9 : decode jdk_29_method_59_code 9 = .ok (.iload_n 0, 1) := by decide +kernel
theorem ef_rm_Qabs (m : MethodId) (x0 : Int32) : entryFrame m #[(.int x0)] 1 = mkF m 0 #[.val (.int x0)] [] := by first | (simp [entryFrame, mkF, argsToLocals, Value.category]; done) | rfl
set_option maxRecDepth 65536 in
set_option maxHeartbeats 40000000 in
theorem rm_Qabs (l : Launch) (Z : State) (a0 : Array Value) (hw : ∀ d ∈ tables_1, d.before a0 Z = true) (ws : List Jvm.Cond) (x1 : Int32) (h0 : Heap) (n0 : Nat) (Z0 : n0 ≤ h0.size) :
    MetFree l (⟨"java/lang/Math", "abs", "(I)I"⟩ : MethodName) (head1 (Jvm.Cond.code (⟨"java/lang/Math", "abs", "(I)I"⟩ : MethodName) jdk_29_method_59_code 1 (some .int) :: ws) ({ frames := 0, cells := 0, slots := 0, locals := 0 } : Room)) (fun aa_ UU_ => aa_ = #[(.int x1)] ∧ Z.Warmed39 UU_.vm ∧ UU_.heap = h0) (fun _ _ _ _ _ => True) (fun _ UU_ oo_ VV_ => ∃ vv_ LL_, oo_ = .returned vv_ ∧ Qabs Z x1 h0 n0 vv_ VV_.heap LL_ ∧ FrameEnd UU_ oo_ VV_ LL_ ({ frames := 0, cells := 0, slots := 0, locals := 0 } : Room).cells ({ frames := 0, cells := 0, slots := 0, locals := 0 } : Room).slots) := by
  refine MetFree.of_bodySF (Jvm.Free.JP.mathPlain rfl (by decide +kernel)) hisR ?_
  intro p e s m args below meth c s₁ Bd hml0 hP hK
  obtain ⟨rfl, hZ, hh⟩ := hP
  have hx := Bd.exec
  have hby := Bd.bytes
  have hml : c.maxLocals = 1 := hml0
  have hown : s.vm.findClass "java/lang/Math" = some m.cls := findClass_of_methodNamed Bd.named
  have hnm := (name_of_methodNamed Bd.named Bd.method).1
  have hlk : meth.locks = false := Bd.notSynchronized
  have X0 : Stand p l e ({ frames := 0, cells := 0, slots := 0, locals := 0 } : Room) s m #[(.int x1)] below meth c s₁ [] 0 0 := Stand.of_body Bd
  have e0 : s₁.heap = h0 := by rw [← hh, Bd.state]; rfl
  have N0 := Fr.nil n0
  have K0 := Keep.refl h0 []
  show own_G p e below s (Qabs Z x1 h0 n0) _ _ (s₁.setTop (entryFrame m #[(.int x1)] 1))
  rw [ef_rm_Qabs m x1]
  refine own_via (U' := s₁.setTop (mkF m 1 #[.val (.int x1)] [(.int x1)])) (fun t k => XS.iloadN X0.here hx rfl (hb hby d_jdk_29_method_59_0) rfl k) ?_
  by_cases hc1 : x1 < (0 : Int32)
  case pos =>
    refine own_via (U' := s₁.setTop (mkF m 4 #[.val (.int x1)] [])) (fun t k => XS.ifNo X0.here hx rfl (hb hby d_jdk_29_method_59_1) rfl ((if0 _ _).trans (tlt hc1).2.1) k) ?_
    refine own_via (U' := s₁.setTop (mkF m 5 #[.val (.int x1)] [(.int x1)])) (fun t k => XS.iloadN X0.here hx rfl (hb hby d_jdk_29_method_59_4) rfl k) ?_
    refine own_via (U' := s₁.setTop (mkF m 6 #[.val (.int x1)] [(.int (-x1))])) (fun t k => XS.ineg X0.here hx rfl (hb hby d_jdk_29_method_59_5) rfl k) ?_
    refine own_via (U' := s₁.setTop (mkF m 10 #[.val (.int x1)] [(.int (-x1))])) (fun t k => XS.goto X0.here hx rfl (pc0 := 6) (pc' := 10) rfl (hb hby d_jdk_29_method_59_6) (by decide) (by decide) k) ?_
    exact own_ret X0 (v := some (.int (-x1))) (fun h => by rw [Bd.returns] at h; cases h) hlk (fun fs hr => retOut X0 hx (t := .int) Bd.returns rfl (Or.inl ⟨rfl, Or.inl rfl, _, rfl⟩) (hb hby d_jdk_29_method_59_10) hr) (by rw [e0]; exact ⟨by first | rfl | (simp only [if_pos hc1]), N0, rfl⟩) (by decide) (by decide)
  case neg =>
    refine own_via (U' := s₁.setTop (mkF m 9 #[.val (.int x1)] [])) (fun t k => XS.ifYes X0.here hx rfl (pc0 := 1) (pc' := 9) rfl (hb hby d_jdk_29_method_59_1) rfl ((if0 _ _).trans (flt hc1).2.1) (by decide) (by decide) k) ?_
    refine own_via (U' := s₁.setTop (mkF m 10 #[.val (.int x1)] [(.int x1)])) (fun t k => XS.iloadN X0.here hx rfl (hb hby d_jdk_29_method_59_9) rfl k) ?_
    exact own_ret X0 (v := some (.int x1)) (fun h => by rw [Bd.returns] at h; cases h) hlk (fun fs hr => retOut X0 hx (t := .int) Bd.returns rfl (Or.inl ⟨rfl, Or.inl rfl, _, rfl⟩) (hb hby d_jdk_29_method_59_10) hr) (by rw [e0]; exact ⟨by first | rfl | (simp only [if_neg hc1]), N0, rfl⟩) (by decide) (by decide)
def Qpi (Z : State) (o : Addr) (x1 : Int64) (h0 : Heap) (n0 : Nat) (v : Option Value) (h : Heap) (L : List Loc) : Prop := v = none ∧ Fr n0 L ∧ Keep h0 h [o] ∧ Exa Z h o "com/example/docketline/docketline/model/Price" ∧ Fld Z h o "com/example/docketline/docketline/model/Price" "units" "J" (.long x1)
theorem d_prog_56_method_1_0 : decode prog_56_method_1_code 0 = .ok (.aload_n 0, 1) := by decide +kernel
theorem pd___V : parseMethodDescriptor "()V" = some ⟨[], none⟩ := by decide +kernel
theorem d_prog_56_method_1_1 : decode prog_56_method_1_code 1 = .ok (.invokespecial 1, 3) := by decide +kernel
theorem d_prog_56_method_1_4 : decode prog_56_method_1_code 4 = .ok (.aload_n 0, 1) := by decide +kernel
theorem d_prog_56_method_1_5 : decode prog_56_method_1_code 5 = .ok (.lload_n 1, 1) := by decide +kernel
theorem d_prog_56_method_1_6 : decode prog_56_method_1_code 6 = .ok (.putfield 7, 3) := by decide +kernel
theorem d_prog_56_method_1_9 : decode prog_56_method_1_code 9 = .ok (.return_, 1) := by decide +kernel
theorem ef_rm_Qpi (m : MethodId) (x0 : Addr) (x1 : Int64) : entryFrame m #[(.ref x0), (.long x1)] 3 = mkF m 0 #[.val (.ref x0), .val (.long x1), .second] [] := by first | (simp [entryFrame, mkF, argsToLocals, Value.category]; done) | rfl
theorem pn_com_example_docketline_docketline_model_Price : plainName "com/example/docketline/docketline/model/Price" = true := by first | (simp [plainName, overriddenIn]; done) | decide +kernel
set_option maxRecDepth 65536 in
set_option maxHeartbeats 40000000 in
theorem rm_Qpi (l : Launch) (Z : State) (a0 : Array Value) (hw : ∀ d ∈ tables_1, d.before a0 Z = true) (ws : List Jvm.Cond) (o : Addr) (x1 : Int64) (h0 : Heap) (n0 : Nat) (Z0 : n0 ≤ h0.size) (Eo : Exa Z h0 o "com/example/docketline/docketline/model/Price") (F_units : Fld Z h0 o "com/example/docketline/docketline/model/Price" "units" "J" (.long (0 : Int64))) (gn_o : n0 ≤ o) :
    MetFree l (⟨"com/example/docketline/docketline/model/Price", "<init>", "(J)V"⟩ : MethodName) (head1 (Jvm.Cond.code (⟨"com/example/docketline/docketline/model/Price", "<init>", "(J)V"⟩ : MethodName) prog_56_method_1_code 3 none :: ws) ({ frames := 2, cells := 0, slots := 0, locals := 24 } : Room)) (fun aa_ UU_ => aa_ = #[(.ref o), (.long x1)] ∧ Z.Warmed39 UU_.vm ∧ UU_.heap = h0) (fun _ _ _ _ _ => True) (fun _ UU_ oo_ VV_ => ∃ vv_ LL_, oo_ = .returned vv_ ∧ Qpi Z o x1 h0 n0 vv_ VV_.heap LL_ ∧ FrameEnd UU_ oo_ VV_ LL_ ({ frames := 2, cells := 0, slots := 0, locals := 24 } : Room).cells ({ frames := 2, cells := 0, slots := 0, locals := 24 } : Room).slots) := by
  refine MetFree.of_bodySF (plainFor_of_name pn_com_example_docketline_docketline_model_Price) hisR ?_
  intro p e s m args below meth c s₁ Bd hml0 hP hK
  obtain ⟨rfl, hZ, hh⟩ := hP
  have hx := Bd.exec
  have hby := Bd.bytes
  have hml : c.maxLocals = 3 := hml0
  have hown : s.vm.findClass "com/example/docketline/docketline/model/Price" = some m.cls := findClass_of_methodNamed Bd.named
  have hnm := (name_of_methodNamed Bd.named Bd.method).1
  have hlk : meth.locks = false := Bd.notSynchronized
  have X0 : Stand p l e ({ frames := 2, cells := 0, slots := 0, locals := 24 } : Room) s m #[(.ref o), (.long x1)] below meth c s₁ [] 0 0 := Stand.of_body Bd
  have e0 : s₁.heap = h0 := by rw [← hh, Bd.state]; rfl
  have N0 := Fr.nil n0
  have K0 := Keep.refl h0 [o]
  show own_G p e below s (Qpi Z o x1 h0 n0) _ _ (s₁.setTop (entryFrame m #[(.ref o), (.long x1)] 3))
  rw [ef_rm_Qpi m o x1]
  refine own_via (U' := s₁.setTop (mkF m 1 #[.val (.ref o), .val (.long x1), .second] [(.ref o)])) (fun t k => XS.aloadN X0.here hx rfl (hb hby d_prog_56_method_1_0) rfl rfl k) ?_
  obtain ⟨_, T1, L1, X1, hQ1, st1⟩ := own_callI X0 hx hZ (y := (⟨"java/lang/Record", "<init>", "()V"⟩ : MethodName)) rfl (W := 0) hown (hw _ (List.mem_of_getElem? (i := 7) rfl)) (hw _ (List.mem_of_getElem? (i := 8) rfl)) (hw _ (List.mem_of_getElem? (i := 10) rfl)) (hw _ (List.mem_of_getElem? (i := 11) rfl)) (by decide) (rm_Qrec l Z a0 hw [] o h0 n0 Z0) (by decide) (by decide) e0 (a := o) (g := (mkF m 1 #[.val (.ref o), .val (.long x1), .second] [(.ref o)])) rfl (by rw [hml]; rfl) (argsL := []) (rest := []) rfl (lenOf pd___V rfl) rfl (by show 2 * 0 + _ ≤ _; exact Nat.le_of_eq rfl) (hb hby d_prog_56_method_1_1) (by decide) (by decide)
  obtain ⟨rfl, N1q, e1⟩ := hQ1
  have N1 := Fr.app N0 N1q
  refine own_via (U' := T1.setTop (mkF m 4 #[.val (.ref o), .val (.long x1), .second] [])) (fun t k => st1 t k) ?_
  refine own_via (U' := T1.setTop (mkF m 5 #[.val (.ref o), .val (.long x1), .second] [(.ref o)])) (fun t k => XS.aloadN X1.here hx rfl (hb hby d_prog_56_method_1_4) rfl rfl k) ?_
  refine own_via (U' := T1.setTop (mkF m 6 #[.val (.ref o), .val (.long x1), .second] [(.long x1), (.ref o)])) (fun t k => XS.lloadN X1.here hx rfl (hb hby d_prog_56_method_1_5) rfl k) ?_
  obtain ⟨T2, h2, X2, e2, W2, st2⟩ := putF (host := "") X1 hx hZ hown (Or.inl (hw _ (List.mem_of_getElem? (i := 15) rfl))) Via.refl e1 F_units Eo (Or.inr ⟨(hw _ (List.mem_of_getElem? (i := 16) rfl)), rfl, hnm⟩) (hw _ (List.mem_of_getElem? (i := 2) rfl)) (ty := .long) (by decide) rfl rfl (g := (mkF m 6 #[.val (.ref o), .val (.long x1), .second] [(.long x1), (.ref o)])) rfl rfl (hb hby d_prog_56_method_1_6)
  have f2w := F_units.same W2
  have f3 := Eo.wr W2
  have Z4 : n0 ≤ h2.size := Nat.le_trans Z0 (Keep.of_wr W2).1
  have K4 := K0.wr W2 (Or.inl (List.mem_of_getElem? (i := 0) rfl))
  have N2 := Fr.snoc X2 N1 gn_o
  refine own_via (U' := T2.setTop (mkF m 9 #[.val (.ref o), .val (.long x1), .second] [])) (fun t k => st2 t k) ?_
  exact own_ret X2 (v := none) (fun _ => rfl) hlk (fun fs hr => X2.returnOut hx Bd.returns (hb hby d_prog_56_method_1_9) hr) (by rw [e2]; exact ⟨rfl, N2, K4, f3, f2w⟩) (by decide) (by decide)
def Qpw (Z : State) (o : Addr) (x1 : Int64) (h0 : Heap) (n0 : Nat) (v : Option Value) (h : Heap) (L : List Loc) : Prop := v = some (.int (if (0 : Int64) < x1 then (if (x1 - x1 / (100 : Int64) * (100 : Int64)) = (0 : Int64) then (1 : Int32) else (0 : Int32)) else (0 : Int32))) ∧ Fr n0 L ∧ h = h0
theorem d_prog_56_method_4_0 : decode prog_56_method_4_code 0 = .ok (.aload_n 0, 1) := by decide +kernel
theorem d_prog_56_method_4_1 : decode prog_56_method_4_code 1 = .ok (.getfield 7, 3) := by decide +kernel
theorem d_prog_56_method_4_4 : decode prog_56_method_4_code 4 = .ok (.lconst 0, 1) := by decide +kernel
theorem d_prog_56_method_4_5 : decode prog_56_method_4_code 5 = .ok (.lcmp, 1) := by decide +kernel
theorem d_prog_56_method_4_6 : decode prog_56_method_4_code 6 = .ok (.ifCond .le 20, 3) := by decide +kernel
theorem d_prog_56_method_4_9 : decode prog_56_method_4_code 9 = .ok (.aload_n 0, 1) := by decide +kernel
theorem d_prog_56_method_4_10 : decode prog_56_method_4_code 10 = .ok (.getfield 7, 3) := by decide +kernel
theorem d_prog_56_method_4_13 : decode prog_56_method_4_code 13 = .ok (.ldc2_w 49, 3) := by decide +kernel
theorem d_prog_56_method_4_16 : decode prog_56_method_4_code 16 = .ok (.lrem, 1) := by decide +kernel
theorem d_prog_56_method_4_17 : decode prog_56_method_4_code 17 = .ok (.lconst 0, 1) := by decide +kernel
theorem d_prog_56_method_4_18 : decode prog_56_method_4_code 18 = .ok (.lcmp, 1) := by decide +kernel
theorem d_prog_56_method_4_19 : decode prog_56_method_4_code 19 = .ok (.ifCond .ne 7, 3) := by decide +kernel
theorem d_prog_56_method_4_22 : decode prog_56_method_4_code 22 = .ok (.iconst 1, 1) := by decide +kernel
theorem d_prog_56_method_4_23 : decode prog_56_method_4_code 23 = .ok (.goto 4, 3) := by decide +kernel
theorem d_prog_56_method_4_27 : decode prog_56_method_4_code 27 = .ok (.ireturn, 1) := by decide +kernel
theorem d_prog_56_method_4_26 : decode prog_56_method_4_code 26 = .ok (.iconst 0, 1) := by decide +kernel
theorem ef_rm_Qpw (m : MethodId) (x0 : Addr) : entryFrame m #[(.ref x0)] 1 = mkF m 0 #[.val (.ref x0)] [] := by first | (simp [entryFrame, mkF, argsToLocals, Value.category]; done) | rfl
set_option maxRecDepth 65536 in
set_option maxHeartbeats 40000000 in
theorem rm_Qpw (l : Launch) (Z : State) (a0 : Array Value) (hw : ∀ d ∈ tables_1, d.before a0 Z = true) (ws : List Jvm.Cond) (o : Addr) (x1 : Int64) (h0 : Heap) (n0 : Nat) (Z0 : n0 ≤ h0.size) (Fu : Fld Z h0 o "com/example/docketline/docketline/model/Price" "units" "J" (.long x1)) :
    MetFree l (⟨"com/example/docketline/docketline/model/Price", "isPositiveWholeCents", "()Z"⟩ : MethodName) (head1 (Jvm.Cond.code (⟨"com/example/docketline/docketline/model/Price", "isPositiveWholeCents", "()Z"⟩ : MethodName) prog_56_method_4_code 1 (some .boolean) :: ws) ({ frames := 0, cells := 0, slots := 0, locals := 0 } : Room)) (fun aa_ UU_ => aa_ = #[(.ref o)] ∧ Z.Warmed39 UU_.vm ∧ UU_.heap = h0) (fun _ _ _ _ _ => True) (fun _ UU_ oo_ VV_ => ∃ vv_ LL_, oo_ = .returned vv_ ∧ Qpw Z o x1 h0 n0 vv_ VV_.heap LL_ ∧ FrameEnd UU_ oo_ VV_ LL_ ({ frames := 0, cells := 0, slots := 0, locals := 0 } : Room).cells ({ frames := 0, cells := 0, slots := 0, locals := 0 } : Room).slots) := by
  refine MetFree.of_bodySF (plainFor_of_name pn_com_example_docketline_docketline_model_Price) hisR ?_
  intro p e s m args below meth c s₁ Bd hml0 hP hK
  obtain ⟨rfl, hZ, hh⟩ := hP
  have hx := Bd.exec
  have hby := Bd.bytes
  have hml : c.maxLocals = 1 := hml0
  have hown : s.vm.findClass "com/example/docketline/docketline/model/Price" = some m.cls := findClass_of_methodNamed Bd.named
  have hnm := (name_of_methodNamed Bd.named Bd.method).1
  have hlk : meth.locks = false := Bd.notSynchronized
  have X0 : Stand p l e ({ frames := 0, cells := 0, slots := 0, locals := 0 } : Room) s m #[(.ref o)] below meth c s₁ [] 0 0 := Stand.of_body Bd
  have e0 : s₁.heap = h0 := by rw [← hh, Bd.state]; rfl
  have N0 := Fr.nil n0
  have K0 := Keep.refl h0 []
  show own_G p e below s (Qpw Z o x1 h0 n0) _ _ (s₁.setTop (entryFrame m #[(.ref o)] 1))
  rw [ef_rm_Qpw m o]
  refine own_via (U' := s₁.setTop (mkF m 1 #[.val (.ref o)] [(.ref o)])) (fun t k => XS.aloadN X0.here hx rfl (hb hby d_prog_56_method_4_0) rfl rfl k) ?_
  obtain ⟨T1, X1, e1, st1⟩ := getF (host := "") X0 hx hZ hown (Or.inl (hw _ (List.mem_of_getElem? (i := 15) rfl))) Via.refl e0 Fu (g := (mkF m 1 #[.val (.ref o)] [(.ref o)])) rfl rfl (hb hby d_prog_56_method_4_1)
  refine own_via (U' := T1.setTop (mkF m 4 #[.val (.ref o)] [(.long x1)])) (fun t k => st1 t k) ?_
  refine own_via (U' := T1.setTop (mkF m 5 #[.val (.ref o)] [(.long (0 : Int64)), (.long x1)])) (fun t k => XS.lconst X1.here hx rfl (hb hby d_prog_56_method_4_4) k) ?_
  refine own_via (U' := T1.setTop (mkF m 6 #[.val (.ref o)] [(.int (lcmpW x1 (0 : Int64)))])) (fun t k => XS.lcmp X1.here hx rfl (hb hby d_prog_56_method_4_5) rfl k) ?_
  by_cases hc2 : (0 : Int64) < x1
  case pos =>
    refine own_via (U' := T1.setTop (mkF m 9 #[.val (.ref o)] [])) (fun t k => XS.ifNo X1.here hx rfl (hb hby d_prog_56_method_4_6) rfl (own_jgt hc2).2 k) ?_
    refine own_via (U' := T1.setTop (mkF m 10 #[.val (.ref o)] [(.ref o)])) (fun t k => XS.aloadN X1.here hx rfl (hb hby d_prog_56_method_4_9) rfl rfl k) ?_
    obtain ⟨T3, X3, e3, st3⟩ := getF (host := "") X1 hx hZ hown (Or.inl (hw _ (List.mem_of_getElem? (i := 15) rfl))) Via.refl e1 Fu (g := (mkF m 10 #[.val (.ref o)] [(.ref o)])) rfl rfl (hb hby d_prog_56_method_4_10)
    refine own_via (U' := T3.setTop (mkF m 13 #[.val (.ref o)] [(.long x1)])) (fun t k => st3 t k) ?_
    refine own_via (U' := T3.setTop (mkF m 16 #[.val (.ref o)] [(.long (100 : Int64)), (.long x1)])) (fun t k => X3.ldc2Long hx hown (mvT hZ (hw _ (List.mem_of_getElem? (i := 22) rfl))) (g := (mkF m 13 #[.val (.ref o)] [(.long x1)])) rfl (hb hby d_prog_56_method_4_13) _ k) ?_
    refine own_via (U' := T3.setTop (mkF m 17 #[.val (.ref o)] [(.long (x1 - x1 / (100 : Int64) * (100 : Int64)))])) (fun t k => XS.lrem X3.here hx rfl (hb hby d_prog_56_method_4_16) rfl (by decide) k) ?_
    refine own_via (U' := T3.setTop (mkF m 18 #[.val (.ref o)] [(.long (0 : Int64)), (.long (x1 - x1 / (100 : Int64) * (100 : Int64)))])) (fun t k => XS.lconst X3.here hx rfl (hb hby d_prog_56_method_4_17) k) ?_
    refine own_via (U' := T3.setTop (mkF m 19 #[.val (.ref o)] [(.int (lcmpW (x1 - x1 / (100 : Int64) * (100 : Int64)) (0 : Int64)))])) (fun t k => XS.lcmp X3.here hx rfl (hb hby d_prog_56_method_4_18) rfl k) ?_
    by_cases hc4 : (x1 - x1 / (100 : Int64) * (100 : Int64)) = (0 : Int64)
    case pos =>
      refine own_via (U' := T3.setTop (mkF m 22 #[.val (.ref o)] [])) (fun t k => XS.ifNo X3.here hx rfl (hb hby d_prog_56_method_4_19) rfl (own_jeq hc4).2 k) ?_
      refine own_via (U' := T3.setTop (mkF m 23 #[.val (.ref o)] [(.int (1 : Int32))])) (fun t k => XS.iconst X3.here hx rfl (hb hby d_prog_56_method_4_22) k) ?_
      refine own_via (U' := T3.setTop (mkF m 27 #[.val (.ref o)] [(.int (1 : Int32))])) (fun t k => XS.goto X3.here hx rfl (pc0 := 23) (pc' := 27) rfl (hb hby d_prog_56_method_4_23) (by decide) (by decide) k) ?_
      exact own_ret X3 (v := some (.int (1 : Int32))) (fun h => by rw [Bd.returns] at h; cases h) hlk (fun fs hr => retN X3 hx (t := .boolean) Bd.returns (by simp) (hb hby d_prog_56_method_4_27) hr) (by rw [e3]; exact ⟨by first | rfl | (simp only [if_pos hc2, if_pos hc4]), N0, rfl⟩) (by decide) (by decide)
    case neg =>
      refine own_via (U' := T3.setTop (mkF m 26 #[.val (.ref o)] [])) (fun t k => XS.ifYes X3.here hx rfl (pc0 := 19) (pc' := 26) rfl (hb hby d_prog_56_method_4_19) rfl (own_jne hc4).2 (by decide) (by decide) k) ?_
      refine own_via (U' := T3.setTop (mkF m 27 #[.val (.ref o)] [(.int (0 : Int32))])) (fun t k => XS.iconst X3.here hx rfl (hb hby d_prog_56_method_4_26) k) ?_
      exact own_ret X3 (v := some (.int (0 : Int32))) (fun h => by rw [Bd.returns] at h; cases h) hlk (fun fs hr => retN X3 hx (t := .boolean) Bd.returns (by simp) (hb hby d_prog_56_method_4_27) hr) (by rw [e3]; exact ⟨by first | rfl | (simp only [if_pos hc2, if_neg hc4]), N0, rfl⟩) (by decide) (by decide)
  case neg =>
    refine own_via (U' := T1.setTop (mkF m 26 #[.val (.ref o)] [])) (fun t k => XS.ifYes X1.here hx rfl (pc0 := 6) (pc' := 26) rfl (hb hby d_prog_56_method_4_6) rfl (own_jngt hc2).2 (by decide) (by decide) k) ?_
    refine own_via (U' := T1.setTop (mkF m 27 #[.val (.ref o)] [(.int (0 : Int32))])) (fun t k => XS.iconst X1.here hx rfl (hb hby d_prog_56_method_4_26) k) ?_
    exact own_ret X1 (v := some (.int (0 : Int32))) (fun h => by rw [Bd.returns] at h; cases h) hlk (fun fs hr => retN X1 hx (t := .boolean) Bd.returns (by simp) (hb hby d_prog_56_method_4_27) hr) (by rw [e1]; exact ⟨by first | rfl | (simp only [if_neg hc2]), N0, rfl⟩) (by decide) (by decide)
def Q0 (Z : State) (x1 : Int64) (x2 : Int32) (h0 : Heap) (n0 : Nat) (v : Option Value) (h : Heap) (L : List Loc) : Prop := v = some (.int 1) ∧ Fr n0 L
theorem pd_I__I : parseMethodDescriptor "(I)I" = some ⟨[.int], some .int⟩ := by decide +kernel
theorem pd_J__V : parseMethodDescriptor "(J)V" = some ⟨[.long], none⟩ := by decide +kernel
theorem pd___Z : parseMethodDescriptor "()Z" = some ⟨[], some .boolean⟩ := by decide +kernel
theorem ef_rm_Q0 (m : MethodId) (x0 : Int64) (x1 : Int32) : entryFrame m #[(.long x0), (.int x1)] maxLocals = mkF m 0 #[.val (.long x0), .second, .val (.int x1), .unset, .unset, .unset, .unset, .unset, .unset, .unset] [] := by first | (simp [entryFrame, mkF, argsToLocals, Value.category, maxLocals]; done) | rfl
theorem pn_com_example_docketline_docketline_model_PriceIsPositiveWholeCentsPinLaw : plainName "com/example/docketline/docketline/model/PriceIsPositiveWholeCentsPinLaw" = true := by first | (simp [plainName, overriddenIn]; done) | decide +kernel
set_option maxRecDepth 65536 in
set_option maxHeartbeats 40000000 in
theorem rm_Q0 (l : Launch) (Z : State) (a0 : Array Value) (hw : ∀ d ∈ tables_1, d.before a0 Z = true) (ws : List Jvm.Cond) (x1 : Int64) (x2 : Int32) (h0 : Heap) (n0 : Nat) (Z0 : n0 ≤ h0.size) :
    MetFree l x (head1 (Jvm.Cond.code x code maxLocals ret :: ws) room_1) (fun aa_ UU_ => aa_ = #[(.long x1), (.int x2)] ∧ Z.Warmed39 UU_.vm ∧ UU_.heap = h0) (fun _ _ _ _ _ => True) (fun _ UU_ oo_ VV_ => ∃ vv_ LL_, oo_ = .returned vv_ ∧ Q0 Z x1 x2 h0 n0 vv_ VV_.heap LL_ ∧ FrameEnd UU_ oo_ VV_ LL_ room_1.cells room_1.slots) := by
  refine MetFree.of_bodySF (plainFor_of_name pn_com_example_docketline_docketline_model_PriceIsPositiveWholeCentsPinLaw) hisR ?_
  intro p e s m args below meth c s₁ Bd hml0 hP hK
  obtain ⟨rfl, hZ, hh⟩ := hP
  have hx := Bd.exec
  have hby := Bd.bytes
  have hml : c.maxLocals = 10 := hml0
  have hown : s.vm.findClass "com/example/docketline/docketline/model/PriceIsPositiveWholeCentsPinLaw" = some m.cls := findClass_of_methodNamed Bd.named
  have hnm := (name_of_methodNamed Bd.named Bd.method).1
  have hlk : meth.locks = false := Bd.notSynchronized
  have X0 : Stand p l e room_1 s m #[(.long x1), (.int x2)] below meth c s₁ [] 0 0 := Stand.of_body Bd
  have e0 : s₁.heap = h0 := by rw [← hh, Bd.state]; rfl
  have N0 := Fr.nil n0
  have K0 := Keep.refl h0 []
  show own_G p e below s (Q0 Z x1 x2 h0 n0) _ _ (s₁.setTop (entryFrame m #[(.long x1), (.int x2)] maxLocals))
  rw [ef_rm_Q0 m x1 x2]
  refine own_via (U' := s₁.setTop (mkF m 1 #[.val (.long x1), .second, .val (.int x2), .unset, .unset, .unset, .unset, .unset, .unset, .unset] [(.long x1)])) (fun t k => XS.lloadN X0.here hx rfl (hb hby at_0) rfl k) ?_
  refine own_via (U' := s₁.setTop (mkF m 4 #[.val (.long x1), .second, .val (.int x2), .unset, .unset, .unset, .unset, .unset, .unset, .unset] [(.long (100 : Int64)), (.long x1)])) (fun t k => X0.ldc2Long hx hown (mvT hZ (hw _ (List.mem_of_getElem? (i := 0) rfl))) (g := (mkF m 1 #[.val (.long x1), .second, .val (.int x2), .unset, .unset, .unset, .unset, .unset, .unset, .unset] [(.long x1)])) rfl (hb hby at_1) _ k) ?_
  refine own_via (U' := s₁.setTop (mkF m 5 #[.val (.long x1), .second, .val (.int x2), .unset, .unset, .unset, .unset, .unset, .unset, .unset] [(.long (x1 / (100 : Int64)))])) (fun t k => XS.ldiv X0.here hx rfl (hb hby at_4) rfl (by decide) k) ?_
  refine own_via (U' := s₁.setTop (mkF m 6 #[.val (.long x1), .second, .val (.int x2), .val (.long (x1 / (100 : Int64))), .second, .unset, .unset, .unset, .unset, .unset] [])) (fun t k => XS.lstoreN X0.here hx rfl (hb hby at_5) rfl (l' := #[.val (.long x1), .second, .val (.int x2), .val (.long (x1 / (100 : Int64))), .second, .unset, .unset, .unset, .unset, .unset]) rfl k) ?_
  have hcc : -92233720368547758 ≤ (x1 / (100 : Int64)).toInt ∧ (x1 / (100 : Int64)).toInt ≤ 92233720368547758 := own_cb _
  generalize (x1 / (100 : Int64)) = cc at hcc ⊢
  refine own_via (U' := s₁.setTop (mkF m 7 #[.val (.long x1), .second, .val (.int x2), .val (.long cc), .second, .unset, .unset, .unset, .unset, .unset] [(.int x2)])) (fun t k => XS.iloadN X0.here hx rfl (hb hby at_6) rfl k) ?_
  refine own_via (U' := s₁.setTop (mkF m 9 #[.val (.long x1), .second, .val (.int x2), .val (.long cc), .second, .unset, .unset, .unset, .unset, .unset] [(.int (100 : Int32)), (.int x2)])) (fun t k => XS.bipush X0.here hx rfl (hb hby at_7) k) ?_
  refine own_via (U' := s₁.setTop (mkF m 10 #[.val (.long x1), .second, .val (.int x2), .val (.long cc), .second, .unset, .unset, .unset, .unset, .unset] [(.int (x2 % (100 : Int32)))])) (fun t k => iremM X0 hx rfl (hb hby at_9) rfl (by decide) k) ?_
  refine own_via (U' := s₁.setTop (mkF m 12 #[.val (.long x1), .second, .val (.int x2), .val (.long cc), .second, .val (.int (x2 % (100 : Int32))), .unset, .unset, .unset, .unset] [])) (fun t k => XS.istore X0.here hx rfl (hb hby at_10) rfl (l' := #[.val (.long x1), .second, .val (.int x2), .val (.long cc), .second, .val (.int (x2 % (100 : Int32))), .unset, .unset, .unset, .unset]) rfl k) ?_
  have hrr : -99 ≤ (x2 % (100 : Int32)).toInt ∧ (x2 % (100 : Int32)).toInt ≤ 99 := own_rb _
  generalize (x2 % (100 : Int32)) = rr at hrr ⊢
  refine own_via (U' := s₁.setTop (mkF m 13 #[.val (.long x1), .second, .val (.int x2), .val (.long cc), .second, .val (.int rr), .unset, .unset, .unset, .unset] [(.long cc)])) (fun t k => XS.lloadN X0.here hx rfl (hb hby at_12) rfl k) ?_
  refine own_via (U' := s₁.setTop (mkF m 14 #[.val (.long x1), .second, .val (.int x2), .val (.long cc), .second, .val (.int rr), .unset, .unset, .unset, .unset] [(.long (0 : Int64)), (.long cc)])) (fun t k => XS.lconst X0.here hx rfl (hb hby at_13) k) ?_
  refine own_via (U' := s₁.setTop (mkF m 15 #[.val (.long x1), .second, .val (.int x2), .val (.long cc), .second, .val (.int rr), .unset, .unset, .unset, .unset] [(.int (lcmpW cc (0 : Int64)))])) (fun t k => XS.lcmp X0.here hx rfl (hb hby at_14) rfl k) ?_
  by_cases hc1 : (0 : Int64) < cc
  case pos =>
    refine own_via (U' := s₁.setTop (mkF m 18 #[.val (.long x1), .second, .val (.int x2), .val (.long cc), .second, .val (.int rr), .unset, .unset, .unset, .unset] [])) (fun t k => XS.ifNo X0.here hx rfl (hb hby at_15) rfl (own_jgt hc1).2 k) ?_
    refine own_via (U' := s₁.setTop (mkF m 20 #[.val (.long x1), .second, .val (.int x2), .val (.long cc), .second, .val (.int rr), .unset, .unset, .unset, .unset] [(.int rr)])) (fun t k => XS.iload X0.here hx rfl (hb hby at_18) rfl k) ?_
    obtain ⟨_, T2, L2, X2, hQ2, st2⟩ := own_callS X0 hx hZ (y := (⟨"java/lang/Math", "abs", "(I)I"⟩ : MethodName)) (W := 0) hown (hw _ (List.mem_of_getElem? (i := 23) rfl)) (hw _ (List.mem_of_getElem? (i := 24) rfl)) (hw _ (List.mem_of_getElem? (i := 25) rfl)) (hw _ (List.mem_of_getElem? (i := 26) rfl)) (by decide) (rm_Qabs l Z a0 hw [] rr h0 n0 Z0) (by decide) (by decide) e0 (g := (mkF m 20 #[.val (.long x1), .second, .val (.int x2), .val (.long cc), .second, .val (.int rr), .unset, .unset, .unset, .unset] [(.int rr)])) rfl (by rw [hml]; rfl) (argsL := [(.int rr)]) (rest := []) rfl (lenOf pd_I__I rfl) rfl (by show 2 * 0 + _ ≤ _; exact Nat.le_of_eq rfl) (hb hby at_20) (by decide) (by decide)
    obtain ⟨rfl, N2q, e2⟩ := hQ2
    have N2 := Fr.app N0 N2q
    refine own_via (U' := T2.setTop (mkF m 23 #[.val (.long x1), .second, .val (.int x2), .val (.long cc), .second, .val (.int rr), .unset, .unset, .unset, .unset] [(.int (if rr < (0 : Int32) then (-rr) else rr))])) (fun t k => st2 t k) ?_
    refine own_via (U' := T2.setTop (mkF m 24 #[.val (.long x1), .second, .val (.int x2), .val (.long cc), .second, .val (.int rr), .unset, .unset, .unset, .unset] [(.int (-(if rr < (0 : Int32) then (-rr) else rr)))])) (fun t k => XS.ineg X2.here hx rfl (hb hby at_23) rfl k) ?_
    refine own_via (U' := T2.setTop (mkF m 26 #[.val (.long x1), .second, .val (.int x2), .val (.long cc), .second, .val (.int rr), .val (.int (-(if rr < (0 : Int32) then (-rr) else rr))), .unset, .unset, .unset] [])) (fun t k => XS.istore X2.here hx rfl (hb hby at_24) rfl (l' := #[.val (.long x1), .second, .val (.int x2), .val (.long cc), .second, .val (.int rr), .val (.int (-(if rr < (0 : Int32) then (-rr) else rr))), .unset, .unset, .unset]) rfl k) ?_
    refine own_via (U' := T2.setTop (mkF m 49 #[.val (.long x1), .second, .val (.int x2), .val (.long cc), .second, .val (.int rr), .val (.int (-(if rr < (0 : Int32) then (-rr) else rr))), .unset, .unset, .unset] [])) (fun t k => XS.goto X2.here hx rfl (pc0 := 26) (pc' := 49) rfl (hb hby at_26) (by decide) (by decide) k) ?_
    have hof : own_OK cc (-(if rr < (0 : Int32) then (-rr) else rr)) := own_ok1 cc rr hc1 hrr
    generalize (-(if rr < (0 : Int32) then (-rr) else rr)) = off at hof ⊢
    refine own_via (U' := T2.setTop (mkF m 50 #[.val (.long x1), .second, .val (.int x2), .val (.long cc), .second, .val (.int rr), .val (.int off), .unset, .unset, .unset] [(.long cc)])) (fun t k => XS.lloadN X2.here hx rfl (hb hby at_49) rfl k) ?_
    refine own_via (U' := T2.setTop (mkF m 53 #[.val (.long x1), .second, .val (.int x2), .val (.long cc), .second, .val (.int rr), .val (.int off), .unset, .unset, .unset] [(.long (100 : Int64)), (.long cc)])) (fun t k => X2.ldc2Long hx hown (mvT hZ (hw _ (List.mem_of_getElem? (i := 0) rfl))) (g := (mkF m 50 #[.val (.long x1), .second, .val (.int x2), .val (.long cc), .second, .val (.int rr), .val (.int off), .unset, .unset, .unset] [(.long cc)])) rfl (hb hby at_50) _ k) ?_
    refine own_via (U' := T2.setTop (mkF m 54 #[.val (.long x1), .second, .val (.int x2), .val (.long cc), .second, .val (.int rr), .val (.int off), .unset, .unset, .unset] [(.long (cc * (100 : Int64)))])) (fun t k => XS.lmul X2.here hx rfl (hb hby at_53) rfl k) ?_
    refine own_via (U' := T2.setTop (mkF m 56 #[.val (.long x1), .second, .val (.int x2), .val (.long cc), .second, .val (.int rr), .val (.int off), .unset, .unset, .unset] [(.int off), (.long (cc * (100 : Int64)))])) (fun t k => XS.iload X2.here hx rfl (hb hby at_54) rfl k) ?_
    refine own_via (U' := T2.setTop (mkF m 57 #[.val (.long x1), .second, .val (.int x2), .val (.long cc), .second, .val (.int rr), .val (.int off), .unset, .unset, .unset] [(.long (off.toInt64)), (.long (cc * (100 : Int64)))])) (fun t k => XS.i2l X2.here hx rfl (hb hby at_56) rfl k) ?_
    refine own_via (U' := T2.setTop (mkF m 58 #[.val (.long x1), .second, .val (.int x2), .val (.long cc), .second, .val (.int rr), .val (.int off), .unset, .unset, .unset] [(.long ((cc * (100 : Int64)) + (off.toInt64)))])) (fun t k => XS.ladd X2.here hx rfl (hb hby at_57) rfl k) ?_
    refine own_via (U' := T2.setTop (mkF m 60 #[.val (.long x1), .second, .val (.int x2), .val (.long cc), .second, .val (.int rr), .val (.int off), .val (.long ((cc * (100 : Int64)) + (off.toInt64))), .second, .unset] [])) (fun t k => XS.lstore X2.here hx rfl (hb hby at_58) rfl (l' := #[.val (.long x1), .second, .val (.int x2), .val (.long cc), .second, .val (.int rr), .val (.int off), .val (.long ((cc * (100 : Int64)) + (off.toInt64))), .second, .unset]) rfl k) ?_
    have huu := own_u cc off hcc hof
    generalize ((cc * (100 : Int64)) + (off.toInt64)) = uu at huu ⊢
    refine own_via (U' := T2.setTop (mkF m 62 #[.val (.long x1), .second, .val (.int x2), .val (.long cc), .second, .val (.int rr), .val (.int off), .val (.long uu), .second, .unset] [(.int off)])) (fun t k => XS.iload X2.here hx rfl (hb hby at_60) rfl k) ?_
    by_cases hc3 : off = (0 : Int32)
    case pos =>
      refine own_via (U' := T2.setTop (mkF m 65 #[.val (.long x1), .second, .val (.int x2), .val (.long cc), .second, .val (.int rr), .val (.int off), .val (.long uu), .second, .unset] [])) (fun t k => XS.ifNo X2.here hx rfl (hb hby at_62) rfl ((if0 _ _).trans (teq hc3).2) k) ?_
      refine own_via (U' := T2.setTop (mkF m 66 #[.val (.long x1), .second, .val (.int x2), .val (.long cc), .second, .val (.int rr), .val (.int off), .val (.long uu), .second, .unset] [(.long cc)])) (fun t k => XS.lloadN X2.here hx rfl (hb hby at_65) rfl k) ?_
      refine own_via (U' := T2.setTop (mkF m 67 #[.val (.long x1), .second, .val (.int x2), .val (.long cc), .second, .val (.int rr), .val (.int off), .val (.long uu), .second, .unset] [(.long (0 : Int64)), (.long cc)])) (fun t k => XS.lconst X2.here hx rfl (hb hby at_66) k) ?_
      refine own_via (U' := T2.setTop (mkF m 68 #[.val (.long x1), .second, .val (.int x2), .val (.long cc), .second, .val (.int rr), .val (.int off), .val (.long uu), .second, .unset] [(.int (lcmpW cc (0 : Int64)))])) (fun t k => XS.lcmp X2.here hx rfl (hb hby at_67) rfl k) ?_
      refine own_via (U' := T2.setTop (mkF m 71 #[.val (.long x1), .second, .val (.int x2), .val (.long cc), .second, .val (.int rr), .val (.int off), .val (.long uu), .second, .unset] [])) (fun t k => XS.ifNo X2.here hx rfl (hb hby at_68) rfl (own_jgt hc1).2 k) ?_
      refine own_via (U' := T2.setTop (mkF m 72 #[.val (.long x1), .second, .val (.int x2), .val (.long cc), .second, .val (.int rr), .val (.int off), .val (.long uu), .second, .unset] [(.int (1 : Int32))])) (fun t k => XS.iconst X2.here hx rfl (hb hby at_71) k) ?_
      refine own_via (U' := T2.setTop (mkF m 76 #[.val (.long x1), .second, .val (.int x2), .val (.long cc), .second, .val (.int rr), .val (.int off), .val (.long uu), .second, .unset] [(.int (1 : Int32))])) (fun t k => XS.goto X2.here hx rfl (pc0 := 72) (pc' := 76) rfl (hb hby at_72) (by decide) (by decide) k) ?_
      refine own_via (U' := T2.setTop (mkF m 78 #[.val (.long x1), .second, .val (.int x2), .val (.long cc), .second, .val (.int rr), .val (.int off), .val (.long uu), .second, .val (.int (1 : Int32))] [])) (fun t k => XS.istore X2.here hx rfl (hb hby at_76) rfl (l' := #[.val (.long x1), .second, .val (.int x2), .val (.long cc), .second, .val (.int rr), .val (.int off), .val (.long uu), .second, .val (.int (1 : Int32))]) rfl k) ?_
      obtain ⟨T4, h4, X4, e4, E4, A4, D4, -, st4⟩ := newO X2 hx hZ hown (hw _ (List.mem_of_getElem? (i := 1) rfl)) (hw _ (List.mem_of_getElem? (i := 2) rfl)) (hw _ (List.mem_of_getElem? (i := 3) rfl)) e2 (g := (mkF m 78 #[.val (.long x1), .second, .val (.int x2), .val (.long cc), .second, .val (.int rr), .val (.int off), .val (.long uu), .second, .val (.int (1 : Int32))] [])) rfl (hb hby at_78) (by decide) (by decide)
      obtain ⟨b4, g4⟩ : ∃ z, z = h0.size := ⟨_, rfl⟩
      rw [← g4] at A4 D4 st4
      have gn_b4 : n0 ≤ b4 := Nat.le_trans Z0 (Nat.le_of_eq g4.symm)
      have sz_b4 : h0.size ≤ b4 := Nat.le_trans K0.1 (Nat.le_of_eq g4.symm)
      have f5 : Fld Z h4 b4 "com/example/docketline/docketline/model/Price" "units" "J" (.long (0 : Int64)) := D4 (Or.inr (hw _ (List.mem_of_getElem? (i := 16) rfl))) (ty := .long) (by decide)
      have Z6 : n0 ≤ h4.size := Nat.le_trans Z0 E4.1
      have K6 := K0.ext E4
      refine own_via (U' := T4.setTop (mkF m 81 #[.val (.long x1), .second, .val (.int x2), .val (.long cc), .second, .val (.int rr), .val (.int off), .val (.long uu), .second, .val (.int (1 : Int32))] [(.ref b4)])) (fun t k => st4 t k) ?_
      refine own_via (U' := T4.setTop (mkF m 82 #[.val (.long x1), .second, .val (.int x2), .val (.long cc), .second, .val (.int rr), .val (.int off), .val (.long uu), .second, .val (.int (1 : Int32))] [(.ref b4), (.ref b4)])) (fun t k => XS.dup X4.here hx rfl (hb hby at_81) rfl rfl k) ?_
      refine own_via (U' := T4.setTop (mkF m 84 #[.val (.long x1), .second, .val (.int x2), .val (.long cc), .second, .val (.int rr), .val (.int off), .val (.long uu), .second, .val (.int (1 : Int32))] [(.long uu), (.ref b4), (.ref b4)])) (fun t k => XS.lload X4.here hx rfl (hb hby at_82) rfl k) ?_
      obtain ⟨_, T7, L7, X7, hQ7, st7⟩ := own_callI X4 hx hZ (y := (⟨"com/example/docketline/docketline/model/Price", "<init>", "(J)V"⟩ : MethodName)) rfl (W := 1) hown (hw _ (List.mem_of_getElem? (i := 4) rfl)) (hw _ (List.mem_of_getElem? (i := 5) rfl)) (hw _ (List.mem_of_getElem? (i := 3) rfl)) (hw _ (List.mem_of_getElem? (i := 6) rfl)) (by decide) (rm_Qpi l Z a0 hw [] b4 uu h4 n0 Z6 A4 f5 gn_b4) (by decide) (by decide) e4 (a := b4) (g := (mkF m 84 #[.val (.long x1), .second, .val (.int x2), .val (.long cc), .second, .val (.int rr), .val (.int off), .val (.long uu), .second, .val (.int (1 : Int32))] [(.long uu), (.ref b4), (.ref b4)])) rfl (by rw [hml]; rfl) (argsL := [(.long uu)]) (rest := [(.ref b4)]) rfl (lenOf pd_J__V rfl) rfl (by show 2 * 0 + _ ≤ _; exact Nat.le_of_eq rfl) (hb hby at_84) (by decide) (by decide)
      obtain ⟨rfl, N7q, K7q, E7q, F7q0⟩ := hQ7
      have N7 := Fr.app N2 N7q
      have f8 := A4.keep K7q
      have Z9 : n0 ≤ T7.heap.size := Nat.le_trans Z6 K7q.1
      have K9 := K6.trans K7q (allS (Or.inr sz_b4) all0)
      refine own_via (U' := T7.setTop (mkF m 87 #[.val (.long x1), .second, .val (.int x2), .val (.long cc), .second, .val (.int rr), .val (.int off), .val (.long uu), .second, .val (.int (1 : Int32))] [(.ref b4)])) (fun t k => st7 t k) ?_
      obtain ⟨_, T10, L10, X10, hQ10, st10⟩ := own_callV X7 hx hZ (y := (⟨"com/example/docketline/docketline/model/Price", "isPositiveWholeCents", "()Z"⟩ : MethodName)) (W := 0) (C := "com/example/docketline/docketline/model/Price") hown (hw _ (List.mem_of_getElem? (i := 17) rfl)) (hw _ (List.mem_of_getElem? (i := 18) rfl)) (hw _ (List.mem_of_getElem? (i := 20) rfl)) (hw _ (List.mem_of_getElem? (i := 19) rfl)) (hw _ (List.mem_of_getElem? (i := 3) rfl)) (hw _ (List.mem_of_getElem? (i := 21) rfl)) (by decide) (rm_Qpw l Z a0 hw [] b4 uu T7.heap n0 Z9 F7q0) (by decide) (by decide) rfl E7q (g := (mkF m 87 #[.val (.long x1), .second, .val (.int x2), .val (.long cc), .second, .val (.int rr), .val (.int off), .val (.long uu), .second, .val (.int (1 : Int32))] [(.ref b4)])) rfl (by rw [hml]; rfl) (argsL := []) (rest := []) rfl (lenOf pd___Z rfl) rfl (by show 2 * 0 + _ ≤ _; exact Nat.le_of_eq rfl) (hb hby at_87) (by decide) (by decide)
      obtain ⟨rfl, N10q, e10⟩ := hQ10
      have N10 := Fr.app N7 N10q
      refine own_via (U' := T10.setTop (mkF m 90 #[.val (.long x1), .second, .val (.int x2), .val (.long cc), .second, .val (.int rr), .val (.int off), .val (.long uu), .second, .val (.int (1 : Int32))] [(.int (if (0 : Int64) < uu then (if (uu - uu / (100 : Int64) * (100 : Int64)) = (0 : Int64) then (1 : Int32) else (0 : Int32)) else (0 : Int32)))])) (fun t k => st10 t k) ?_
      refine own_via (U' := T10.setTop (mkF m 92 #[.val (.long x1), .second, .val (.int x2), .val (.long cc), .second, .val (.int rr), .val (.int off), .val (.long uu), .second, .val (.int (1 : Int32))] [(.int (1 : Int32)), (.int (if (0 : Int64) < uu then (if (uu - uu / (100 : Int64) * (100 : Int64)) = (0 : Int64) then (1 : Int32) else (0 : Int32)) else (0 : Int32)))])) (fun t k => XS.iload X10.here hx rfl (hb hby at_90) rfl k) ?_
      refine own_via (U' := T10.setTop (mkF m 95 #[.val (.long x1), .second, .val (.int x2), .val (.long cc), .second, .val (.int rr), .val (.int off), .val (.long uu), .second, .val (.int (1 : Int32))] [])) (fun t k => XS.icmpNo X10.here hx rfl (hb hby at_92) rfl (teq (own_B1 uu cc off huu hc3 hc1)).2 k) ?_
      refine own_via (U' := T10.setTop (mkF m 96 #[.val (.long x1), .second, .val (.int x2), .val (.long cc), .second, .val (.int rr), .val (.int off), .val (.long uu), .second, .val (.int (1 : Int32))] [(.int (1 : Int32))])) (fun t k => XS.iconst X10.here hx rfl (hb hby at_95) k) ?_
      refine own_via (U' := T10.setTop (mkF m 100 #[.val (.long x1), .second, .val (.int x2), .val (.long cc), .second, .val (.int rr), .val (.int off), .val (.long uu), .second, .val (.int (1 : Int32))] [(.int (1 : Int32))])) (fun t k => XS.goto X10.here hx rfl (pc0 := 96) (pc' := 100) rfl (hb hby at_96) (by decide) (by decide) k) ?_
      exact own_ret X10 (v := some (.int (1 : Int32))) (fun h => by rw [Bd.returns] at h; cases h) hlk (fun fs hr => retN X10 hx (t := .boolean) Bd.returns (by simp) (hb hby at_100) hr) (by rw [e10]; exact ⟨rfl, N10⟩) (by decide) (by decide)
    case neg =>
      refine own_via (U' := T2.setTop (mkF m 75 #[.val (.long x1), .second, .val (.int x2), .val (.long cc), .second, .val (.int rr), .val (.int off), .val (.long uu), .second, .unset] [])) (fun t k => XS.ifYes X2.here hx rfl (pc0 := 62) (pc' := 75) rfl (hb hby at_62) rfl ((if0 _ _).trans (feq hc3).2) (by decide) (by decide) k) ?_
      refine own_via (U' := T2.setTop (mkF m 76 #[.val (.long x1), .second, .val (.int x2), .val (.long cc), .second, .val (.int rr), .val (.int off), .val (.long uu), .second, .unset] [(.int (0 : Int32))])) (fun t k => XS.iconst X2.here hx rfl (hb hby at_75) k) ?_
      refine own_via (U' := T2.setTop (mkF m 78 #[.val (.long x1), .second, .val (.int x2), .val (.long cc), .second, .val (.int rr), .val (.int off), .val (.long uu), .second, .val (.int (0 : Int32))] [])) (fun t k => XS.istore X2.here hx rfl (hb hby at_76) rfl (l' := #[.val (.long x1), .second, .val (.int x2), .val (.long cc), .second, .val (.int rr), .val (.int off), .val (.long uu), .second, .val (.int (0 : Int32))]) rfl k) ?_
      obtain ⟨T11, h11, X11, e11, E11, A11, D11, -, st11⟩ := newO X2 hx hZ hown (hw _ (List.mem_of_getElem? (i := 1) rfl)) (hw _ (List.mem_of_getElem? (i := 2) rfl)) (hw _ (List.mem_of_getElem? (i := 3) rfl)) e2 (g := (mkF m 78 #[.val (.long x1), .second, .val (.int x2), .val (.long cc), .second, .val (.int rr), .val (.int off), .val (.long uu), .second, .val (.int (0 : Int32))] [])) rfl (hb hby at_78) (by decide) (by decide)
      obtain ⟨b11, g11⟩ : ∃ z, z = h0.size := ⟨_, rfl⟩
      rw [← g11] at A11 D11 st11
      have gn_b11 : n0 ≤ b11 := Nat.le_trans Z0 (Nat.le_of_eq g11.symm)
      have sz_b11 : h0.size ≤ b11 := Nat.le_trans K0.1 (Nat.le_of_eq g11.symm)
      have f12 : Fld Z h11 b11 "com/example/docketline/docketline/model/Price" "units" "J" (.long (0 : Int64)) := D11 (Or.inr (hw _ (List.mem_of_getElem? (i := 16) rfl))) (ty := .long) (by decide)
      have Z13 : n0 ≤ h11.size := Nat.le_trans Z0 E11.1
      have K13 := K0.ext E11
      refine own_via (U' := T11.setTop (mkF m 81 #[.val (.long x1), .second, .val (.int x2), .val (.long cc), .second, .val (.int rr), .val (.int off), .val (.long uu), .second, .val (.int (0 : Int32))] [(.ref b11)])) (fun t k => st11 t k) ?_
      refine own_via (U' := T11.setTop (mkF m 82 #[.val (.long x1), .second, .val (.int x2), .val (.long cc), .second, .val (.int rr), .val (.int off), .val (.long uu), .second, .val (.int (0 : Int32))] [(.ref b11), (.ref b11)])) (fun t k => XS.dup X11.here hx rfl (hb hby at_81) rfl rfl k) ?_
      refine own_via (U' := T11.setTop (mkF m 84 #[.val (.long x1), .second, .val (.int x2), .val (.long cc), .second, .val (.int rr), .val (.int off), .val (.long uu), .second, .val (.int (0 : Int32))] [(.long uu), (.ref b11), (.ref b11)])) (fun t k => XS.lload X11.here hx rfl (hb hby at_82) rfl k) ?_
      obtain ⟨_, T14, L14, X14, hQ14, st14⟩ := own_callI X11 hx hZ (y := (⟨"com/example/docketline/docketline/model/Price", "<init>", "(J)V"⟩ : MethodName)) rfl (W := 1) hown (hw _ (List.mem_of_getElem? (i := 4) rfl)) (hw _ (List.mem_of_getElem? (i := 5) rfl)) (hw _ (List.mem_of_getElem? (i := 3) rfl)) (hw _ (List.mem_of_getElem? (i := 6) rfl)) (by decide) (rm_Qpi l Z a0 hw [] b11 uu h11 n0 Z13 A11 f12 gn_b11) (by decide) (by decide) e11 (a := b11) (g := (mkF m 84 #[.val (.long x1), .second, .val (.int x2), .val (.long cc), .second, .val (.int rr), .val (.int off), .val (.long uu), .second, .val (.int (0 : Int32))] [(.long uu), (.ref b11), (.ref b11)])) rfl (by rw [hml]; rfl) (argsL := [(.long uu)]) (rest := [(.ref b11)]) rfl (lenOf pd_J__V rfl) rfl (by show 2 * 0 + _ ≤ _; exact Nat.le_of_eq rfl) (hb hby at_84) (by decide) (by decide)
      obtain ⟨rfl, N14q, K14q, E14q, F14q0⟩ := hQ14
      have N14 := Fr.app N2 N14q
      have f15 := A11.keep K14q
      have Z16 : n0 ≤ T14.heap.size := Nat.le_trans Z13 K14q.1
      have K16 := K13.trans K14q (allS (Or.inr sz_b11) all0)
      refine own_via (U' := T14.setTop (mkF m 87 #[.val (.long x1), .second, .val (.int x2), .val (.long cc), .second, .val (.int rr), .val (.int off), .val (.long uu), .second, .val (.int (0 : Int32))] [(.ref b11)])) (fun t k => st14 t k) ?_
      obtain ⟨_, T17, L17, X17, hQ17, st17⟩ := own_callV X14 hx hZ (y := (⟨"com/example/docketline/docketline/model/Price", "isPositiveWholeCents", "()Z"⟩ : MethodName)) (W := 0) (C := "com/example/docketline/docketline/model/Price") hown (hw _ (List.mem_of_getElem? (i := 17) rfl)) (hw _ (List.mem_of_getElem? (i := 18) rfl)) (hw _ (List.mem_of_getElem? (i := 20) rfl)) (hw _ (List.mem_of_getElem? (i := 19) rfl)) (hw _ (List.mem_of_getElem? (i := 3) rfl)) (hw _ (List.mem_of_getElem? (i := 21) rfl)) (by decide) (rm_Qpw l Z a0 hw [] b11 uu T14.heap n0 Z16 F14q0) (by decide) (by decide) rfl E14q (g := (mkF m 87 #[.val (.long x1), .second, .val (.int x2), .val (.long cc), .second, .val (.int rr), .val (.int off), .val (.long uu), .second, .val (.int (0 : Int32))] [(.ref b11)])) rfl (by rw [hml]; rfl) (argsL := []) (rest := []) rfl (lenOf pd___Z rfl) rfl (by show 2 * 0 + _ ≤ _; exact Nat.le_of_eq rfl) (hb hby at_87) (by decide) (by decide)
      obtain ⟨rfl, N17q, e17⟩ := hQ17
      have N17 := Fr.app N14 N17q
      refine own_via (U' := T17.setTop (mkF m 90 #[.val (.long x1), .second, .val (.int x2), .val (.long cc), .second, .val (.int rr), .val (.int off), .val (.long uu), .second, .val (.int (0 : Int32))] [(.int (if (0 : Int64) < uu then (if (uu - uu / (100 : Int64) * (100 : Int64)) = (0 : Int64) then (1 : Int32) else (0 : Int32)) else (0 : Int32)))])) (fun t k => st17 t k) ?_
      refine own_via (U' := T17.setTop (mkF m 92 #[.val (.long x1), .second, .val (.int x2), .val (.long cc), .second, .val (.int rr), .val (.int off), .val (.long uu), .second, .val (.int (0 : Int32))] [(.int (0 : Int32)), (.int (if (0 : Int64) < uu then (if (uu - uu / (100 : Int64) * (100 : Int64)) = (0 : Int64) then (1 : Int32) else (0 : Int32)) else (0 : Int32)))])) (fun t k => XS.iload X17.here hx rfl (hb hby at_90) rfl k) ?_
      refine own_via (U' := T17.setTop (mkF m 95 #[.val (.long x1), .second, .val (.int x2), .val (.long cc), .second, .val (.int rr), .val (.int off), .val (.long uu), .second, .val (.int (0 : Int32))] [])) (fun t k => XS.icmpNo X17.here hx rfl (hb hby at_92) rfl (teq (own_B0 uu cc off huu hof hc3)).2 k) ?_
      refine own_via (U' := T17.setTop (mkF m 96 #[.val (.long x1), .second, .val (.int x2), .val (.long cc), .second, .val (.int rr), .val (.int off), .val (.long uu), .second, .val (.int (0 : Int32))] [(.int (1 : Int32))])) (fun t k => XS.iconst X17.here hx rfl (hb hby at_95) k) ?_
      refine own_via (U' := T17.setTop (mkF m 100 #[.val (.long x1), .second, .val (.int x2), .val (.long cc), .second, .val (.int rr), .val (.int off), .val (.long uu), .second, .val (.int (0 : Int32))] [(.int (1 : Int32))])) (fun t k => XS.goto X17.here hx rfl (pc0 := 96) (pc' := 100) rfl (hb hby at_96) (by decide) (by decide) k) ?_
      exact own_ret X17 (v := some (.int (1 : Int32))) (fun h => by rw [Bd.returns] at h; cases h) hlk (fun fs hr => retN X17 hx (t := .boolean) Bd.returns (by simp) (hb hby at_100) hr) (by rw [e17]; exact ⟨rfl, N17⟩) (by decide) (by decide)
  case neg =>
    refine own_via (U' := s₁.setTop (mkF m 29 #[.val (.long x1), .second, .val (.int x2), .val (.long cc), .second, .val (.int rr), .unset, .unset, .unset, .unset] [])) (fun t k => XS.ifYes X0.here hx rfl (pc0 := 15) (pc' := 29) rfl (hb hby at_15) rfl (own_jngt hc1).2 (by decide) (by decide) k) ?_
    refine own_via (U' := s₁.setTop (mkF m 30 #[.val (.long x1), .second, .val (.int x2), .val (.long cc), .second, .val (.int rr), .unset, .unset, .unset, .unset] [(.long cc)])) (fun t k => XS.lloadN X0.here hx rfl (hb hby at_29) rfl k) ?_
    refine own_via (U' := s₁.setTop (mkF m 31 #[.val (.long x1), .second, .val (.int x2), .val (.long cc), .second, .val (.int rr), .unset, .unset, .unset, .unset] [(.long (0 : Int64)), (.long cc)])) (fun t k => XS.lconst X0.here hx rfl (hb hby at_30) k) ?_
    refine own_via (U' := s₁.setTop (mkF m 32 #[.val (.long x1), .second, .val (.int x2), .val (.long cc), .second, .val (.int rr), .unset, .unset, .unset, .unset] [(.int (lcmpW cc (0 : Int64)))])) (fun t k => XS.lcmp X0.here hx rfl (hb hby at_31) rfl k) ?_
    by_cases hc18 : cc < (0 : Int64)
    case pos =>
      refine own_via (U' := s₁.setTop (mkF m 35 #[.val (.long x1), .second, .val (.int x2), .val (.long cc), .second, .val (.int rr), .unset, .unset, .unset, .unset] [])) (fun t k => XS.ifNo X0.here hx rfl (hb hby at_32) rfl (own_jlt hc18).2 k) ?_
      refine own_via (U' := s₁.setTop (mkF m 37 #[.val (.long x1), .second, .val (.int x2), .val (.long cc), .second, .val (.int rr), .unset, .unset, .unset, .unset] [(.int rr)])) (fun t k => XS.iload X0.here hx rfl (hb hby at_35) rfl k) ?_
      obtain ⟨_, T19, L19, X19, hQ19, st19⟩ := own_callS X0 hx hZ (y := (⟨"java/lang/Math", "abs", "(I)I"⟩ : MethodName)) (W := 0) hown (hw _ (List.mem_of_getElem? (i := 23) rfl)) (hw _ (List.mem_of_getElem? (i := 24) rfl)) (hw _ (List.mem_of_getElem? (i := 25) rfl)) (hw _ (List.mem_of_getElem? (i := 26) rfl)) (by decide) (rm_Qabs l Z a0 hw [] rr h0 n0 Z0) (by decide) (by decide) e0 (g := (mkF m 37 #[.val (.long x1), .second, .val (.int x2), .val (.long cc), .second, .val (.int rr), .unset, .unset, .unset, .unset] [(.int rr)])) rfl (by rw [hml]; rfl) (argsL := [(.int rr)]) (rest := []) rfl (lenOf pd_I__I rfl) rfl (by show 2 * 0 + _ ≤ _; exact Nat.le_of_eq rfl) (hb hby at_37) (by decide) (by decide)
      obtain ⟨rfl, N19q, e19⟩ := hQ19
      have N19 := Fr.app N0 N19q
      refine own_via (U' := T19.setTop (mkF m 40 #[.val (.long x1), .second, .val (.int x2), .val (.long cc), .second, .val (.int rr), .unset, .unset, .unset, .unset] [(.int (if rr < (0 : Int32) then (-rr) else rr))])) (fun t k => st19 t k) ?_
      refine own_via (U' := T19.setTop (mkF m 42 #[.val (.long x1), .second, .val (.int x2), .val (.long cc), .second, .val (.int rr), .val (.int (if rr < (0 : Int32) then (-rr) else rr)), .unset, .unset, .unset] [])) (fun t k => XS.istore X19.here hx rfl (hb hby at_40) rfl (l' := #[.val (.long x1), .second, .val (.int x2), .val (.long cc), .second, .val (.int rr), .val (.int (if rr < (0 : Int32) then (-rr) else rr)), .unset, .unset, .unset]) rfl k) ?_
      refine own_via (U' := T19.setTop (mkF m 49 #[.val (.long x1), .second, .val (.int x2), .val (.long cc), .second, .val (.int rr), .val (.int (if rr < (0 : Int32) then (-rr) else rr)), .unset, .unset, .unset] [])) (fun t k => XS.goto X19.here hx rfl (pc0 := 42) (pc' := 49) rfl (hb hby at_42) (by decide) (by decide) k) ?_
      have hof : own_OK cc (if rr < (0 : Int32) then (-rr) else rr) := own_ok2 cc rr hc18 hrr
      generalize (if rr < (0 : Int32) then (-rr) else rr) = off at hof ⊢
      refine own_via (U' := T19.setTop (mkF m 50 #[.val (.long x1), .second, .val (.int x2), .val (.long cc), .second, .val (.int rr), .val (.int off), .unset, .unset, .unset] [(.long cc)])) (fun t k => XS.lloadN X19.here hx rfl (hb hby at_49) rfl k) ?_
      refine own_via (U' := T19.setTop (mkF m 53 #[.val (.long x1), .second, .val (.int x2), .val (.long cc), .second, .val (.int rr), .val (.int off), .unset, .unset, .unset] [(.long (100 : Int64)), (.long cc)])) (fun t k => X19.ldc2Long hx hown (mvT hZ (hw _ (List.mem_of_getElem? (i := 0) rfl))) (g := (mkF m 50 #[.val (.long x1), .second, .val (.int x2), .val (.long cc), .second, .val (.int rr), .val (.int off), .unset, .unset, .unset] [(.long cc)])) rfl (hb hby at_50) _ k) ?_
      refine own_via (U' := T19.setTop (mkF m 54 #[.val (.long x1), .second, .val (.int x2), .val (.long cc), .second, .val (.int rr), .val (.int off), .unset, .unset, .unset] [(.long (cc * (100 : Int64)))])) (fun t k => XS.lmul X19.here hx rfl (hb hby at_53) rfl k) ?_
      refine own_via (U' := T19.setTop (mkF m 56 #[.val (.long x1), .second, .val (.int x2), .val (.long cc), .second, .val (.int rr), .val (.int off), .unset, .unset, .unset] [(.int off), (.long (cc * (100 : Int64)))])) (fun t k => XS.iload X19.here hx rfl (hb hby at_54) rfl k) ?_
      refine own_via (U' := T19.setTop (mkF m 57 #[.val (.long x1), .second, .val (.int x2), .val (.long cc), .second, .val (.int rr), .val (.int off), .unset, .unset, .unset] [(.long (off.toInt64)), (.long (cc * (100 : Int64)))])) (fun t k => XS.i2l X19.here hx rfl (hb hby at_56) rfl k) ?_
      refine own_via (U' := T19.setTop (mkF m 58 #[.val (.long x1), .second, .val (.int x2), .val (.long cc), .second, .val (.int rr), .val (.int off), .unset, .unset, .unset] [(.long ((cc * (100 : Int64)) + (off.toInt64)))])) (fun t k => XS.ladd X19.here hx rfl (hb hby at_57) rfl k) ?_
      refine own_via (U' := T19.setTop (mkF m 60 #[.val (.long x1), .second, .val (.int x2), .val (.long cc), .second, .val (.int rr), .val (.int off), .val (.long ((cc * (100 : Int64)) + (off.toInt64))), .second, .unset] [])) (fun t k => XS.lstore X19.here hx rfl (hb hby at_58) rfl (l' := #[.val (.long x1), .second, .val (.int x2), .val (.long cc), .second, .val (.int rr), .val (.int off), .val (.long ((cc * (100 : Int64)) + (off.toInt64))), .second, .unset]) rfl k) ?_
      have huu := own_u cc off hcc hof
      generalize ((cc * (100 : Int64)) + (off.toInt64)) = uu at huu ⊢
      refine own_via (U' := T19.setTop (mkF m 62 #[.val (.long x1), .second, .val (.int x2), .val (.long cc), .second, .val (.int rr), .val (.int off), .val (.long uu), .second, .unset] [(.int off)])) (fun t k => XS.iload X19.here hx rfl (hb hby at_60) rfl k) ?_
      by_cases hc20 : off = (0 : Int32)
      case pos =>
        refine own_via (U' := T19.setTop (mkF m 65 #[.val (.long x1), .second, .val (.int x2), .val (.long cc), .second, .val (.int rr), .val (.int off), .val (.long uu), .second, .unset] [])) (fun t k => XS.ifNo X19.here hx rfl (hb hby at_62) rfl ((if0 _ _).trans (teq hc20).2) k) ?_
        refine own_via (U' := T19.setTop (mkF m 66 #[.val (.long x1), .second, .val (.int x2), .val (.long cc), .second, .val (.int rr), .val (.int off), .val (.long uu), .second, .unset] [(.long cc)])) (fun t k => XS.lloadN X19.here hx rfl (hb hby at_65) rfl k) ?_
        refine own_via (U' := T19.setTop (mkF m 67 #[.val (.long x1), .second, .val (.int x2), .val (.long cc), .second, .val (.int rr), .val (.int off), .val (.long uu), .second, .unset] [(.long (0 : Int64)), (.long cc)])) (fun t k => XS.lconst X19.here hx rfl (hb hby at_66) k) ?_
        refine own_via (U' := T19.setTop (mkF m 68 #[.val (.long x1), .second, .val (.int x2), .val (.long cc), .second, .val (.int rr), .val (.int off), .val (.long uu), .second, .unset] [(.int (lcmpW cc (0 : Int64)))])) (fun t k => XS.lcmp X19.here hx rfl (hb hby at_67) rfl k) ?_
        refine own_via (U' := T19.setTop (mkF m 75 #[.val (.long x1), .second, .val (.int x2), .val (.long cc), .second, .val (.int rr), .val (.int off), .val (.long uu), .second, .unset] [])) (fun t k => XS.ifYes X19.here hx rfl (pc0 := 68) (pc' := 75) rfl (hb hby at_68) rfl (own_jngt hc1).2 (by decide) (by decide) k) ?_
        refine own_via (U' := T19.setTop (mkF m 76 #[.val (.long x1), .second, .val (.int x2), .val (.long cc), .second, .val (.int rr), .val (.int off), .val (.long uu), .second, .unset] [(.int (0 : Int32))])) (fun t k => XS.iconst X19.here hx rfl (hb hby at_75) k) ?_
        refine own_via (U' := T19.setTop (mkF m 78 #[.val (.long x1), .second, .val (.int x2), .val (.long cc), .second, .val (.int rr), .val (.int off), .val (.long uu), .second, .val (.int (0 : Int32))] [])) (fun t k => XS.istore X19.here hx rfl (hb hby at_76) rfl (l' := #[.val (.long x1), .second, .val (.int x2), .val (.long cc), .second, .val (.int rr), .val (.int off), .val (.long uu), .second, .val (.int (0 : Int32))]) rfl k) ?_
        obtain ⟨T21, h21, X21, e21, E21, A21, D21, -, st21⟩ := newO X19 hx hZ hown (hw _ (List.mem_of_getElem? (i := 1) rfl)) (hw _ (List.mem_of_getElem? (i := 2) rfl)) (hw _ (List.mem_of_getElem? (i := 3) rfl)) e19 (g := (mkF m 78 #[.val (.long x1), .second, .val (.int x2), .val (.long cc), .second, .val (.int rr), .val (.int off), .val (.long uu), .second, .val (.int (0 : Int32))] [])) rfl (hb hby at_78) (by decide) (by decide)
        obtain ⟨b21, g21⟩ : ∃ z, z = h0.size := ⟨_, rfl⟩
        rw [← g21] at A21 D21 st21
        have gn_b21 : n0 ≤ b21 := Nat.le_trans Z0 (Nat.le_of_eq g21.symm)
        have sz_b21 : h0.size ≤ b21 := Nat.le_trans K0.1 (Nat.le_of_eq g21.symm)
        have f22 : Fld Z h21 b21 "com/example/docketline/docketline/model/Price" "units" "J" (.long (0 : Int64)) := D21 (Or.inr (hw _ (List.mem_of_getElem? (i := 16) rfl))) (ty := .long) (by decide)
        have Z23 : n0 ≤ h21.size := Nat.le_trans Z0 E21.1
        have K23 := K0.ext E21
        refine own_via (U' := T21.setTop (mkF m 81 #[.val (.long x1), .second, .val (.int x2), .val (.long cc), .second, .val (.int rr), .val (.int off), .val (.long uu), .second, .val (.int (0 : Int32))] [(.ref b21)])) (fun t k => st21 t k) ?_
        refine own_via (U' := T21.setTop (mkF m 82 #[.val (.long x1), .second, .val (.int x2), .val (.long cc), .second, .val (.int rr), .val (.int off), .val (.long uu), .second, .val (.int (0 : Int32))] [(.ref b21), (.ref b21)])) (fun t k => XS.dup X21.here hx rfl (hb hby at_81) rfl rfl k) ?_
        refine own_via (U' := T21.setTop (mkF m 84 #[.val (.long x1), .second, .val (.int x2), .val (.long cc), .second, .val (.int rr), .val (.int off), .val (.long uu), .second, .val (.int (0 : Int32))] [(.long uu), (.ref b21), (.ref b21)])) (fun t k => XS.lload X21.here hx rfl (hb hby at_82) rfl k) ?_
        obtain ⟨_, T24, L24, X24, hQ24, st24⟩ := own_callI X21 hx hZ (y := (⟨"com/example/docketline/docketline/model/Price", "<init>", "(J)V"⟩ : MethodName)) rfl (W := 1) hown (hw _ (List.mem_of_getElem? (i := 4) rfl)) (hw _ (List.mem_of_getElem? (i := 5) rfl)) (hw _ (List.mem_of_getElem? (i := 3) rfl)) (hw _ (List.mem_of_getElem? (i := 6) rfl)) (by decide) (rm_Qpi l Z a0 hw [] b21 uu h21 n0 Z23 A21 f22 gn_b21) (by decide) (by decide) e21 (a := b21) (g := (mkF m 84 #[.val (.long x1), .second, .val (.int x2), .val (.long cc), .second, .val (.int rr), .val (.int off), .val (.long uu), .second, .val (.int (0 : Int32))] [(.long uu), (.ref b21), (.ref b21)])) rfl (by rw [hml]; rfl) (argsL := [(.long uu)]) (rest := [(.ref b21)]) rfl (lenOf pd_J__V rfl) rfl (by show 2 * 0 + _ ≤ _; exact Nat.le_of_eq rfl) (hb hby at_84) (by decide) (by decide)
        obtain ⟨rfl, N24q, K24q, E24q, F24q0⟩ := hQ24
        have N24 := Fr.app N19 N24q
        have f25 := A21.keep K24q
        have Z26 : n0 ≤ T24.heap.size := Nat.le_trans Z23 K24q.1
        have K26 := K23.trans K24q (allS (Or.inr sz_b21) all0)
        refine own_via (U' := T24.setTop (mkF m 87 #[.val (.long x1), .second, .val (.int x2), .val (.long cc), .second, .val (.int rr), .val (.int off), .val (.long uu), .second, .val (.int (0 : Int32))] [(.ref b21)])) (fun t k => st24 t k) ?_
        obtain ⟨_, T27, L27, X27, hQ27, st27⟩ := own_callV X24 hx hZ (y := (⟨"com/example/docketline/docketline/model/Price", "isPositiveWholeCents", "()Z"⟩ : MethodName)) (W := 0) (C := "com/example/docketline/docketline/model/Price") hown (hw _ (List.mem_of_getElem? (i := 17) rfl)) (hw _ (List.mem_of_getElem? (i := 18) rfl)) (hw _ (List.mem_of_getElem? (i := 20) rfl)) (hw _ (List.mem_of_getElem? (i := 19) rfl)) (hw _ (List.mem_of_getElem? (i := 3) rfl)) (hw _ (List.mem_of_getElem? (i := 21) rfl)) (by decide) (rm_Qpw l Z a0 hw [] b21 uu T24.heap n0 Z26 F24q0) (by decide) (by decide) rfl E24q (g := (mkF m 87 #[.val (.long x1), .second, .val (.int x2), .val (.long cc), .second, .val (.int rr), .val (.int off), .val (.long uu), .second, .val (.int (0 : Int32))] [(.ref b21)])) rfl (by rw [hml]; rfl) (argsL := []) (rest := []) rfl (lenOf pd___Z rfl) rfl (by show 2 * 0 + _ ≤ _; exact Nat.le_of_eq rfl) (hb hby at_87) (by decide) (by decide)
        obtain ⟨rfl, N27q, e27⟩ := hQ27
        have N27 := Fr.app N24 N27q
        refine own_via (U' := T27.setTop (mkF m 90 #[.val (.long x1), .second, .val (.int x2), .val (.long cc), .second, .val (.int rr), .val (.int off), .val (.long uu), .second, .val (.int (0 : Int32))] [(.int (if (0 : Int64) < uu then (if (uu - uu / (100 : Int64) * (100 : Int64)) = (0 : Int64) then (1 : Int32) else (0 : Int32)) else (0 : Int32)))])) (fun t k => st27 t k) ?_
        refine own_via (U' := T27.setTop (mkF m 92 #[.val (.long x1), .second, .val (.int x2), .val (.long cc), .second, .val (.int rr), .val (.int off), .val (.long uu), .second, .val (.int (0 : Int32))] [(.int (0 : Int32)), (.int (if (0 : Int64) < uu then (if (uu - uu / (100 : Int64) * (100 : Int64)) = (0 : Int64) then (1 : Int32) else (0 : Int32)) else (0 : Int32)))])) (fun t k => XS.iload X27.here hx rfl (hb hby at_90) rfl k) ?_
        refine own_via (U' := T27.setTop (mkF m 95 #[.val (.long x1), .second, .val (.int x2), .val (.long cc), .second, .val (.int rr), .val (.int off), .val (.long uu), .second, .val (.int (0 : Int32))] [])) (fun t k => XS.icmpNo X27.here hx rfl (hb hby at_92) rfl (teq (own_B2 uu cc off huu hc20 hc1)).2 k) ?_
        refine own_via (U' := T27.setTop (mkF m 96 #[.val (.long x1), .second, .val (.int x2), .val (.long cc), .second, .val (.int rr), .val (.int off), .val (.long uu), .second, .val (.int (0 : Int32))] [(.int (1 : Int32))])) (fun t k => XS.iconst X27.here hx rfl (hb hby at_95) k) ?_
        refine own_via (U' := T27.setTop (mkF m 100 #[.val (.long x1), .second, .val (.int x2), .val (.long cc), .second, .val (.int rr), .val (.int off), .val (.long uu), .second, .val (.int (0 : Int32))] [(.int (1 : Int32))])) (fun t k => XS.goto X27.here hx rfl (pc0 := 96) (pc' := 100) rfl (hb hby at_96) (by decide) (by decide) k) ?_
        exact own_ret X27 (v := some (.int (1 : Int32))) (fun h => by rw [Bd.returns] at h; cases h) hlk (fun fs hr => retN X27 hx (t := .boolean) Bd.returns (by simp) (hb hby at_100) hr) (by rw [e27]; exact ⟨rfl, N27⟩) (by decide) (by decide)
      case neg =>
        refine own_via (U' := T19.setTop (mkF m 75 #[.val (.long x1), .second, .val (.int x2), .val (.long cc), .second, .val (.int rr), .val (.int off), .val (.long uu), .second, .unset] [])) (fun t k => XS.ifYes X19.here hx rfl (pc0 := 62) (pc' := 75) rfl (hb hby at_62) rfl ((if0 _ _).trans (feq hc20).2) (by decide) (by decide) k) ?_
        refine own_via (U' := T19.setTop (mkF m 76 #[.val (.long x1), .second, .val (.int x2), .val (.long cc), .second, .val (.int rr), .val (.int off), .val (.long uu), .second, .unset] [(.int (0 : Int32))])) (fun t k => XS.iconst X19.here hx rfl (hb hby at_75) k) ?_
        refine own_via (U' := T19.setTop (mkF m 78 #[.val (.long x1), .second, .val (.int x2), .val (.long cc), .second, .val (.int rr), .val (.int off), .val (.long uu), .second, .val (.int (0 : Int32))] [])) (fun t k => XS.istore X19.here hx rfl (hb hby at_76) rfl (l' := #[.val (.long x1), .second, .val (.int x2), .val (.long cc), .second, .val (.int rr), .val (.int off), .val (.long uu), .second, .val (.int (0 : Int32))]) rfl k) ?_
        obtain ⟨T28, h28, X28, e28, E28, A28, D28, -, st28⟩ := newO X19 hx hZ hown (hw _ (List.mem_of_getElem? (i := 1) rfl)) (hw _ (List.mem_of_getElem? (i := 2) rfl)) (hw _ (List.mem_of_getElem? (i := 3) rfl)) e19 (g := (mkF m 78 #[.val (.long x1), .second, .val (.int x2), .val (.long cc), .second, .val (.int rr), .val (.int off), .val (.long uu), .second, .val (.int (0 : Int32))] [])) rfl (hb hby at_78) (by decide) (by decide)
        obtain ⟨b28, g28⟩ : ∃ z, z = h0.size := ⟨_, rfl⟩
        rw [← g28] at A28 D28 st28
        have gn_b28 : n0 ≤ b28 := Nat.le_trans Z0 (Nat.le_of_eq g28.symm)
        have sz_b28 : h0.size ≤ b28 := Nat.le_trans K0.1 (Nat.le_of_eq g28.symm)
        have f29 : Fld Z h28 b28 "com/example/docketline/docketline/model/Price" "units" "J" (.long (0 : Int64)) := D28 (Or.inr (hw _ (List.mem_of_getElem? (i := 16) rfl))) (ty := .long) (by decide)
        have Z30 : n0 ≤ h28.size := Nat.le_trans Z0 E28.1
        have K30 := K0.ext E28
        refine own_via (U' := T28.setTop (mkF m 81 #[.val (.long x1), .second, .val (.int x2), .val (.long cc), .second, .val (.int rr), .val (.int off), .val (.long uu), .second, .val (.int (0 : Int32))] [(.ref b28)])) (fun t k => st28 t k) ?_
        refine own_via (U' := T28.setTop (mkF m 82 #[.val (.long x1), .second, .val (.int x2), .val (.long cc), .second, .val (.int rr), .val (.int off), .val (.long uu), .second, .val (.int (0 : Int32))] [(.ref b28), (.ref b28)])) (fun t k => XS.dup X28.here hx rfl (hb hby at_81) rfl rfl k) ?_
        refine own_via (U' := T28.setTop (mkF m 84 #[.val (.long x1), .second, .val (.int x2), .val (.long cc), .second, .val (.int rr), .val (.int off), .val (.long uu), .second, .val (.int (0 : Int32))] [(.long uu), (.ref b28), (.ref b28)])) (fun t k => XS.lload X28.here hx rfl (hb hby at_82) rfl k) ?_
        obtain ⟨_, T31, L31, X31, hQ31, st31⟩ := own_callI X28 hx hZ (y := (⟨"com/example/docketline/docketline/model/Price", "<init>", "(J)V"⟩ : MethodName)) rfl (W := 1) hown (hw _ (List.mem_of_getElem? (i := 4) rfl)) (hw _ (List.mem_of_getElem? (i := 5) rfl)) (hw _ (List.mem_of_getElem? (i := 3) rfl)) (hw _ (List.mem_of_getElem? (i := 6) rfl)) (by decide) (rm_Qpi l Z a0 hw [] b28 uu h28 n0 Z30 A28 f29 gn_b28) (by decide) (by decide) e28 (a := b28) (g := (mkF m 84 #[.val (.long x1), .second, .val (.int x2), .val (.long cc), .second, .val (.int rr), .val (.int off), .val (.long uu), .second, .val (.int (0 : Int32))] [(.long uu), (.ref b28), (.ref b28)])) rfl (by rw [hml]; rfl) (argsL := [(.long uu)]) (rest := [(.ref b28)]) rfl (lenOf pd_J__V rfl) rfl (by show 2 * 0 + _ ≤ _; exact Nat.le_of_eq rfl) (hb hby at_84) (by decide) (by decide)
        obtain ⟨rfl, N31q, K31q, E31q, F31q0⟩ := hQ31
        have N31 := Fr.app N19 N31q
        have f32 := A28.keep K31q
        have Z33 : n0 ≤ T31.heap.size := Nat.le_trans Z30 K31q.1
        have K33 := K30.trans K31q (allS (Or.inr sz_b28) all0)
        refine own_via (U' := T31.setTop (mkF m 87 #[.val (.long x1), .second, .val (.int x2), .val (.long cc), .second, .val (.int rr), .val (.int off), .val (.long uu), .second, .val (.int (0 : Int32))] [(.ref b28)])) (fun t k => st31 t k) ?_
        obtain ⟨_, T34, L34, X34, hQ34, st34⟩ := own_callV X31 hx hZ (y := (⟨"com/example/docketline/docketline/model/Price", "isPositiveWholeCents", "()Z"⟩ : MethodName)) (W := 0) (C := "com/example/docketline/docketline/model/Price") hown (hw _ (List.mem_of_getElem? (i := 17) rfl)) (hw _ (List.mem_of_getElem? (i := 18) rfl)) (hw _ (List.mem_of_getElem? (i := 20) rfl)) (hw _ (List.mem_of_getElem? (i := 19) rfl)) (hw _ (List.mem_of_getElem? (i := 3) rfl)) (hw _ (List.mem_of_getElem? (i := 21) rfl)) (by decide) (rm_Qpw l Z a0 hw [] b28 uu T31.heap n0 Z33 F31q0) (by decide) (by decide) rfl E31q (g := (mkF m 87 #[.val (.long x1), .second, .val (.int x2), .val (.long cc), .second, .val (.int rr), .val (.int off), .val (.long uu), .second, .val (.int (0 : Int32))] [(.ref b28)])) rfl (by rw [hml]; rfl) (argsL := []) (rest := []) rfl (lenOf pd___Z rfl) rfl (by show 2 * 0 + _ ≤ _; exact Nat.le_of_eq rfl) (hb hby at_87) (by decide) (by decide)
        obtain ⟨rfl, N34q, e34⟩ := hQ34
        have N34 := Fr.app N31 N34q
        refine own_via (U' := T34.setTop (mkF m 90 #[.val (.long x1), .second, .val (.int x2), .val (.long cc), .second, .val (.int rr), .val (.int off), .val (.long uu), .second, .val (.int (0 : Int32))] [(.int (if (0 : Int64) < uu then (if (uu - uu / (100 : Int64) * (100 : Int64)) = (0 : Int64) then (1 : Int32) else (0 : Int32)) else (0 : Int32)))])) (fun t k => st34 t k) ?_
        refine own_via (U' := T34.setTop (mkF m 92 #[.val (.long x1), .second, .val (.int x2), .val (.long cc), .second, .val (.int rr), .val (.int off), .val (.long uu), .second, .val (.int (0 : Int32))] [(.int (0 : Int32)), (.int (if (0 : Int64) < uu then (if (uu - uu / (100 : Int64) * (100 : Int64)) = (0 : Int64) then (1 : Int32) else (0 : Int32)) else (0 : Int32)))])) (fun t k => XS.iload X34.here hx rfl (hb hby at_90) rfl k) ?_
        refine own_via (U' := T34.setTop (mkF m 95 #[.val (.long x1), .second, .val (.int x2), .val (.long cc), .second, .val (.int rr), .val (.int off), .val (.long uu), .second, .val (.int (0 : Int32))] [])) (fun t k => XS.icmpNo X34.here hx rfl (hb hby at_92) rfl (teq (own_B0 uu cc off huu hof hc20)).2 k) ?_
        refine own_via (U' := T34.setTop (mkF m 96 #[.val (.long x1), .second, .val (.int x2), .val (.long cc), .second, .val (.int rr), .val (.int off), .val (.long uu), .second, .val (.int (0 : Int32))] [(.int (1 : Int32))])) (fun t k => XS.iconst X34.here hx rfl (hb hby at_95) k) ?_
        refine own_via (U' := T34.setTop (mkF m 100 #[.val (.long x1), .second, .val (.int x2), .val (.long cc), .second, .val (.int rr), .val (.int off), .val (.long uu), .second, .val (.int (0 : Int32))] [(.int (1 : Int32))])) (fun t k => XS.goto X34.here hx rfl (pc0 := 96) (pc' := 100) rfl (hb hby at_96) (by decide) (by decide) k) ?_
        exact own_ret X34 (v := some (.int (1 : Int32))) (fun h => by rw [Bd.returns] at h; cases h) hlk (fun fs hr => retN X34 hx (t := .boolean) Bd.returns (by simp) (hb hby at_100) hr) (by rw [e34]; exact ⟨rfl, N34⟩) (by decide) (by decide)
    case neg =>
      refine own_via (U' := s₁.setTop (mkF m 45 #[.val (.long x1), .second, .val (.int x2), .val (.long cc), .second, .val (.int rr), .unset, .unset, .unset, .unset] [])) (fun t k => XS.ifYes X0.here hx rfl (pc0 := 32) (pc' := 45) rfl (hb hby at_32) rfl (own_jnlt hc18).2 (by decide) (by decide) k) ?_
      refine own_via (U' := s₁.setTop (mkF m 47 #[.val (.long x1), .second, .val (.int x2), .val (.long cc), .second, .val (.int rr), .unset, .unset, .unset, .unset] [(.int rr)])) (fun t k => XS.iload X0.here hx rfl (hb hby at_45) rfl k) ?_
      refine own_via (U' := s₁.setTop (mkF m 49 #[.val (.long x1), .second, .val (.int x2), .val (.long cc), .second, .val (.int rr), .val (.int rr), .unset, .unset, .unset] [])) (fun t k => XS.istore X0.here hx rfl (hb hby at_47) rfl (l' := #[.val (.long x1), .second, .val (.int x2), .val (.long cc), .second, .val (.int rr), .val (.int rr), .unset, .unset, .unset]) rfl k) ?_
      have hof : own_OK cc rr := own_ok3 cc rr hc1 hc18 hrr
      obtain ⟨off, hoff⟩ : ∃ z, z = rr := ⟨_, rfl⟩
      rw [← hoff] at hof ⊢
      refine own_via (U' := s₁.setTop (mkF m 50 #[.val (.long x1), .second, .val (.int x2), .val (.long cc), .second, .val (.int off), .val (.int off), .unset, .unset, .unset] [(.long cc)])) (fun t k => XS.lloadN X0.here hx rfl (hb hby at_49) rfl k) ?_
      refine own_via (U' := s₁.setTop (mkF m 53 #[.val (.long x1), .second, .val (.int x2), .val (.long cc), .second, .val (.int off), .val (.int off), .unset, .unset, .unset] [(.long (100 : Int64)), (.long cc)])) (fun t k => X0.ldc2Long hx hown (mvT hZ (hw _ (List.mem_of_getElem? (i := 0) rfl))) (g := (mkF m 50 #[.val (.long x1), .second, .val (.int x2), .val (.long cc), .second, .val (.int off), .val (.int off), .unset, .unset, .unset] [(.long cc)])) rfl (hb hby at_50) _ k) ?_
      refine own_via (U' := s₁.setTop (mkF m 54 #[.val (.long x1), .second, .val (.int x2), .val (.long cc), .second, .val (.int off), .val (.int off), .unset, .unset, .unset] [(.long (cc * (100 : Int64)))])) (fun t k => XS.lmul X0.here hx rfl (hb hby at_53) rfl k) ?_
      refine own_via (U' := s₁.setTop (mkF m 56 #[.val (.long x1), .second, .val (.int x2), .val (.long cc), .second, .val (.int off), .val (.int off), .unset, .unset, .unset] [(.int off), (.long (cc * (100 : Int64)))])) (fun t k => XS.iload X0.here hx rfl (hb hby at_54) rfl k) ?_
      refine own_via (U' := s₁.setTop (mkF m 57 #[.val (.long x1), .second, .val (.int x2), .val (.long cc), .second, .val (.int off), .val (.int off), .unset, .unset, .unset] [(.long (off.toInt64)), (.long (cc * (100 : Int64)))])) (fun t k => XS.i2l X0.here hx rfl (hb hby at_56) rfl k) ?_
      refine own_via (U' := s₁.setTop (mkF m 58 #[.val (.long x1), .second, .val (.int x2), .val (.long cc), .second, .val (.int off), .val (.int off), .unset, .unset, .unset] [(.long ((cc * (100 : Int64)) + (off.toInt64)))])) (fun t k => XS.ladd X0.here hx rfl (hb hby at_57) rfl k) ?_
      refine own_via (U' := s₁.setTop (mkF m 60 #[.val (.long x1), .second, .val (.int x2), .val (.long cc), .second, .val (.int off), .val (.int off), .val (.long ((cc * (100 : Int64)) + (off.toInt64))), .second, .unset] [])) (fun t k => XS.lstore X0.here hx rfl (hb hby at_58) rfl (l' := #[.val (.long x1), .second, .val (.int x2), .val (.long cc), .second, .val (.int off), .val (.int off), .val (.long ((cc * (100 : Int64)) + (off.toInt64))), .second, .unset]) rfl k) ?_
      have huu := own_u cc off hcc hof
      generalize ((cc * (100 : Int64)) + (off.toInt64)) = uu at huu ⊢
      refine own_via (U' := s₁.setTop (mkF m 62 #[.val (.long x1), .second, .val (.int x2), .val (.long cc), .second, .val (.int off), .val (.int off), .val (.long uu), .second, .unset] [(.int off)])) (fun t k => XS.iload X0.here hx rfl (hb hby at_60) rfl k) ?_
      by_cases hc35 : off = (0 : Int32)
      case pos =>
        refine own_via (U' := s₁.setTop (mkF m 65 #[.val (.long x1), .second, .val (.int x2), .val (.long cc), .second, .val (.int off), .val (.int off), .val (.long uu), .second, .unset] [])) (fun t k => XS.ifNo X0.here hx rfl (hb hby at_62) rfl ((if0 _ _).trans (teq hc35).2) k) ?_
        refine own_via (U' := s₁.setTop (mkF m 66 #[.val (.long x1), .second, .val (.int x2), .val (.long cc), .second, .val (.int off), .val (.int off), .val (.long uu), .second, .unset] [(.long cc)])) (fun t k => XS.lloadN X0.here hx rfl (hb hby at_65) rfl k) ?_
        refine own_via (U' := s₁.setTop (mkF m 67 #[.val (.long x1), .second, .val (.int x2), .val (.long cc), .second, .val (.int off), .val (.int off), .val (.long uu), .second, .unset] [(.long (0 : Int64)), (.long cc)])) (fun t k => XS.lconst X0.here hx rfl (hb hby at_66) k) ?_
        refine own_via (U' := s₁.setTop (mkF m 68 #[.val (.long x1), .second, .val (.int x2), .val (.long cc), .second, .val (.int off), .val (.int off), .val (.long uu), .second, .unset] [(.int (lcmpW cc (0 : Int64)))])) (fun t k => XS.lcmp X0.here hx rfl (hb hby at_67) rfl k) ?_
        refine own_via (U' := s₁.setTop (mkF m 75 #[.val (.long x1), .second, .val (.int x2), .val (.long cc), .second, .val (.int off), .val (.int off), .val (.long uu), .second, .unset] [])) (fun t k => XS.ifYes X0.here hx rfl (pc0 := 68) (pc' := 75) rfl (hb hby at_68) rfl (own_jngt hc1).2 (by decide) (by decide) k) ?_
        refine own_via (U' := s₁.setTop (mkF m 76 #[.val (.long x1), .second, .val (.int x2), .val (.long cc), .second, .val (.int off), .val (.int off), .val (.long uu), .second, .unset] [(.int (0 : Int32))])) (fun t k => XS.iconst X0.here hx rfl (hb hby at_75) k) ?_
        refine own_via (U' := s₁.setTop (mkF m 78 #[.val (.long x1), .second, .val (.int x2), .val (.long cc), .second, .val (.int off), .val (.int off), .val (.long uu), .second, .val (.int (0 : Int32))] [])) (fun t k => XS.istore X0.here hx rfl (hb hby at_76) rfl (l' := #[.val (.long x1), .second, .val (.int x2), .val (.long cc), .second, .val (.int off), .val (.int off), .val (.long uu), .second, .val (.int (0 : Int32))]) rfl k) ?_
        obtain ⟨T36, h36, X36, e36, E36, A36, D36, -, st36⟩ := newO X0 hx hZ hown (hw _ (List.mem_of_getElem? (i := 1) rfl)) (hw _ (List.mem_of_getElem? (i := 2) rfl)) (hw _ (List.mem_of_getElem? (i := 3) rfl)) e0 (g := (mkF m 78 #[.val (.long x1), .second, .val (.int x2), .val (.long cc), .second, .val (.int off), .val (.int off), .val (.long uu), .second, .val (.int (0 : Int32))] [])) rfl (hb hby at_78) (by decide) (by decide)
        obtain ⟨b36, g36⟩ : ∃ z, z = h0.size := ⟨_, rfl⟩
        rw [← g36] at A36 D36 st36
        have gn_b36 : n0 ≤ b36 := Nat.le_trans Z0 (Nat.le_of_eq g36.symm)
        have sz_b36 : h0.size ≤ b36 := Nat.le_trans K0.1 (Nat.le_of_eq g36.symm)
        have f37 : Fld Z h36 b36 "com/example/docketline/docketline/model/Price" "units" "J" (.long (0 : Int64)) := D36 (Or.inr (hw _ (List.mem_of_getElem? (i := 16) rfl))) (ty := .long) (by decide)
        have Z38 : n0 ≤ h36.size := Nat.le_trans Z0 E36.1
        have K38 := K0.ext E36
        refine own_via (U' := T36.setTop (mkF m 81 #[.val (.long x1), .second, .val (.int x2), .val (.long cc), .second, .val (.int off), .val (.int off), .val (.long uu), .second, .val (.int (0 : Int32))] [(.ref b36)])) (fun t k => st36 t k) ?_
        refine own_via (U' := T36.setTop (mkF m 82 #[.val (.long x1), .second, .val (.int x2), .val (.long cc), .second, .val (.int off), .val (.int off), .val (.long uu), .second, .val (.int (0 : Int32))] [(.ref b36), (.ref b36)])) (fun t k => XS.dup X36.here hx rfl (hb hby at_81) rfl rfl k) ?_
        refine own_via (U' := T36.setTop (mkF m 84 #[.val (.long x1), .second, .val (.int x2), .val (.long cc), .second, .val (.int off), .val (.int off), .val (.long uu), .second, .val (.int (0 : Int32))] [(.long uu), (.ref b36), (.ref b36)])) (fun t k => XS.lload X36.here hx rfl (hb hby at_82) rfl k) ?_
        obtain ⟨_, T39, L39, X39, hQ39, st39⟩ := own_callI X36 hx hZ (y := (⟨"com/example/docketline/docketline/model/Price", "<init>", "(J)V"⟩ : MethodName)) rfl (W := 1) hown (hw _ (List.mem_of_getElem? (i := 4) rfl)) (hw _ (List.mem_of_getElem? (i := 5) rfl)) (hw _ (List.mem_of_getElem? (i := 3) rfl)) (hw _ (List.mem_of_getElem? (i := 6) rfl)) (by decide) (rm_Qpi l Z a0 hw [] b36 uu h36 n0 Z38 A36 f37 gn_b36) (by decide) (by decide) e36 (a := b36) (g := (mkF m 84 #[.val (.long x1), .second, .val (.int x2), .val (.long cc), .second, .val (.int off), .val (.int off), .val (.long uu), .second, .val (.int (0 : Int32))] [(.long uu), (.ref b36), (.ref b36)])) rfl (by rw [hml]; rfl) (argsL := [(.long uu)]) (rest := [(.ref b36)]) rfl (lenOf pd_J__V rfl) rfl (by show 2 * 0 + _ ≤ _; exact Nat.le_of_eq rfl) (hb hby at_84) (by decide) (by decide)
        obtain ⟨rfl, N39q, K39q, E39q, F39q0⟩ := hQ39
        have N39 := Fr.app N0 N39q
        have f40 := A36.keep K39q
        have Z41 : n0 ≤ T39.heap.size := Nat.le_trans Z38 K39q.1
        have K41 := K38.trans K39q (allS (Or.inr sz_b36) all0)
        refine own_via (U' := T39.setTop (mkF m 87 #[.val (.long x1), .second, .val (.int x2), .val (.long cc), .second, .val (.int off), .val (.int off), .val (.long uu), .second, .val (.int (0 : Int32))] [(.ref b36)])) (fun t k => st39 t k) ?_
        obtain ⟨_, T42, L42, X42, hQ42, st42⟩ := own_callV X39 hx hZ (y := (⟨"com/example/docketline/docketline/model/Price", "isPositiveWholeCents", "()Z"⟩ : MethodName)) (W := 0) (C := "com/example/docketline/docketline/model/Price") hown (hw _ (List.mem_of_getElem? (i := 17) rfl)) (hw _ (List.mem_of_getElem? (i := 18) rfl)) (hw _ (List.mem_of_getElem? (i := 20) rfl)) (hw _ (List.mem_of_getElem? (i := 19) rfl)) (hw _ (List.mem_of_getElem? (i := 3) rfl)) (hw _ (List.mem_of_getElem? (i := 21) rfl)) (by decide) (rm_Qpw l Z a0 hw [] b36 uu T39.heap n0 Z41 F39q0) (by decide) (by decide) rfl E39q (g := (mkF m 87 #[.val (.long x1), .second, .val (.int x2), .val (.long cc), .second, .val (.int off), .val (.int off), .val (.long uu), .second, .val (.int (0 : Int32))] [(.ref b36)])) rfl (by rw [hml]; rfl) (argsL := []) (rest := []) rfl (lenOf pd___Z rfl) rfl (by show 2 * 0 + _ ≤ _; exact Nat.le_of_eq rfl) (hb hby at_87) (by decide) (by decide)
        obtain ⟨rfl, N42q, e42⟩ := hQ42
        have N42 := Fr.app N39 N42q
        refine own_via (U' := T42.setTop (mkF m 90 #[.val (.long x1), .second, .val (.int x2), .val (.long cc), .second, .val (.int off), .val (.int off), .val (.long uu), .second, .val (.int (0 : Int32))] [(.int (if (0 : Int64) < uu then (if (uu - uu / (100 : Int64) * (100 : Int64)) = (0 : Int64) then (1 : Int32) else (0 : Int32)) else (0 : Int32)))])) (fun t k => st42 t k) ?_
        refine own_via (U' := T42.setTop (mkF m 92 #[.val (.long x1), .second, .val (.int x2), .val (.long cc), .second, .val (.int off), .val (.int off), .val (.long uu), .second, .val (.int (0 : Int32))] [(.int (0 : Int32)), (.int (if (0 : Int64) < uu then (if (uu - uu / (100 : Int64) * (100 : Int64)) = (0 : Int64) then (1 : Int32) else (0 : Int32)) else (0 : Int32)))])) (fun t k => XS.iload X42.here hx rfl (hb hby at_90) rfl k) ?_
        refine own_via (U' := T42.setTop (mkF m 95 #[.val (.long x1), .second, .val (.int x2), .val (.long cc), .second, .val (.int off), .val (.int off), .val (.long uu), .second, .val (.int (0 : Int32))] [])) (fun t k => XS.icmpNo X42.here hx rfl (hb hby at_92) rfl (teq (own_B2 uu cc off huu hc35 hc1)).2 k) ?_
        refine own_via (U' := T42.setTop (mkF m 96 #[.val (.long x1), .second, .val (.int x2), .val (.long cc), .second, .val (.int off), .val (.int off), .val (.long uu), .second, .val (.int (0 : Int32))] [(.int (1 : Int32))])) (fun t k => XS.iconst X42.here hx rfl (hb hby at_95) k) ?_
        refine own_via (U' := T42.setTop (mkF m 100 #[.val (.long x1), .second, .val (.int x2), .val (.long cc), .second, .val (.int off), .val (.int off), .val (.long uu), .second, .val (.int (0 : Int32))] [(.int (1 : Int32))])) (fun t k => XS.goto X42.here hx rfl (pc0 := 96) (pc' := 100) rfl (hb hby at_96) (by decide) (by decide) k) ?_
        exact own_ret X42 (v := some (.int (1 : Int32))) (fun h => by rw [Bd.returns] at h; cases h) hlk (fun fs hr => retN X42 hx (t := .boolean) Bd.returns (by simp) (hb hby at_100) hr) (by rw [e42]; exact ⟨rfl, N42⟩) (by decide) (by decide)
      case neg =>
        refine own_via (U' := s₁.setTop (mkF m 75 #[.val (.long x1), .second, .val (.int x2), .val (.long cc), .second, .val (.int off), .val (.int off), .val (.long uu), .second, .unset] [])) (fun t k => XS.ifYes X0.here hx rfl (pc0 := 62) (pc' := 75) rfl (hb hby at_62) rfl ((if0 _ _).trans (feq hc35).2) (by decide) (by decide) k) ?_
        refine own_via (U' := s₁.setTop (mkF m 76 #[.val (.long x1), .second, .val (.int x2), .val (.long cc), .second, .val (.int off), .val (.int off), .val (.long uu), .second, .unset] [(.int (0 : Int32))])) (fun t k => XS.iconst X0.here hx rfl (hb hby at_75) k) ?_
        refine own_via (U' := s₁.setTop (mkF m 78 #[.val (.long x1), .second, .val (.int x2), .val (.long cc), .second, .val (.int off), .val (.int off), .val (.long uu), .second, .val (.int (0 : Int32))] [])) (fun t k => XS.istore X0.here hx rfl (hb hby at_76) rfl (l' := #[.val (.long x1), .second, .val (.int x2), .val (.long cc), .second, .val (.int off), .val (.int off), .val (.long uu), .second, .val (.int (0 : Int32))]) rfl k) ?_
        obtain ⟨T43, h43, X43, e43, E43, A43, D43, -, st43⟩ := newO X0 hx hZ hown (hw _ (List.mem_of_getElem? (i := 1) rfl)) (hw _ (List.mem_of_getElem? (i := 2) rfl)) (hw _ (List.mem_of_getElem? (i := 3) rfl)) e0 (g := (mkF m 78 #[.val (.long x1), .second, .val (.int x2), .val (.long cc), .second, .val (.int off), .val (.int off), .val (.long uu), .second, .val (.int (0 : Int32))] [])) rfl (hb hby at_78) (by decide) (by decide)
        obtain ⟨b43, g43⟩ : ∃ z, z = h0.size := ⟨_, rfl⟩
        rw [← g43] at A43 D43 st43
        have gn_b43 : n0 ≤ b43 := Nat.le_trans Z0 (Nat.le_of_eq g43.symm)
        have sz_b43 : h0.size ≤ b43 := Nat.le_trans K0.1 (Nat.le_of_eq g43.symm)
        have f44 : Fld Z h43 b43 "com/example/docketline/docketline/model/Price" "units" "J" (.long (0 : Int64)) := D43 (Or.inr (hw _ (List.mem_of_getElem? (i := 16) rfl))) (ty := .long) (by decide)
        have Z45 : n0 ≤ h43.size := Nat.le_trans Z0 E43.1
        have K45 := K0.ext E43
        refine own_via (U' := T43.setTop (mkF m 81 #[.val (.long x1), .second, .val (.int x2), .val (.long cc), .second, .val (.int off), .val (.int off), .val (.long uu), .second, .val (.int (0 : Int32))] [(.ref b43)])) (fun t k => st43 t k) ?_
        refine own_via (U' := T43.setTop (mkF m 82 #[.val (.long x1), .second, .val (.int x2), .val (.long cc), .second, .val (.int off), .val (.int off), .val (.long uu), .second, .val (.int (0 : Int32))] [(.ref b43), (.ref b43)])) (fun t k => XS.dup X43.here hx rfl (hb hby at_81) rfl rfl k) ?_
        refine own_via (U' := T43.setTop (mkF m 84 #[.val (.long x1), .second, .val (.int x2), .val (.long cc), .second, .val (.int off), .val (.int off), .val (.long uu), .second, .val (.int (0 : Int32))] [(.long uu), (.ref b43), (.ref b43)])) (fun t k => XS.lload X43.here hx rfl (hb hby at_82) rfl k) ?_
        obtain ⟨_, T46, L46, X46, hQ46, st46⟩ := own_callI X43 hx hZ (y := (⟨"com/example/docketline/docketline/model/Price", "<init>", "(J)V"⟩ : MethodName)) rfl (W := 1) hown (hw _ (List.mem_of_getElem? (i := 4) rfl)) (hw _ (List.mem_of_getElem? (i := 5) rfl)) (hw _ (List.mem_of_getElem? (i := 3) rfl)) (hw _ (List.mem_of_getElem? (i := 6) rfl)) (by decide) (rm_Qpi l Z a0 hw [] b43 uu h43 n0 Z45 A43 f44 gn_b43) (by decide) (by decide) e43 (a := b43) (g := (mkF m 84 #[.val (.long x1), .second, .val (.int x2), .val (.long cc), .second, .val (.int off), .val (.int off), .val (.long uu), .second, .val (.int (0 : Int32))] [(.long uu), (.ref b43), (.ref b43)])) rfl (by rw [hml]; rfl) (argsL := [(.long uu)]) (rest := [(.ref b43)]) rfl (lenOf pd_J__V rfl) rfl (by show 2 * 0 + _ ≤ _; exact Nat.le_of_eq rfl) (hb hby at_84) (by decide) (by decide)
        obtain ⟨rfl, N46q, K46q, E46q, F46q0⟩ := hQ46
        have N46 := Fr.app N0 N46q
        have f47 := A43.keep K46q
        have Z48 : n0 ≤ T46.heap.size := Nat.le_trans Z45 K46q.1
        have K48 := K45.trans K46q (allS (Or.inr sz_b43) all0)
        refine own_via (U' := T46.setTop (mkF m 87 #[.val (.long x1), .second, .val (.int x2), .val (.long cc), .second, .val (.int off), .val (.int off), .val (.long uu), .second, .val (.int (0 : Int32))] [(.ref b43)])) (fun t k => st46 t k) ?_
        obtain ⟨_, T49, L49, X49, hQ49, st49⟩ := own_callV X46 hx hZ (y := (⟨"com/example/docketline/docketline/model/Price", "isPositiveWholeCents", "()Z"⟩ : MethodName)) (W := 0) (C := "com/example/docketline/docketline/model/Price") hown (hw _ (List.mem_of_getElem? (i := 17) rfl)) (hw _ (List.mem_of_getElem? (i := 18) rfl)) (hw _ (List.mem_of_getElem? (i := 20) rfl)) (hw _ (List.mem_of_getElem? (i := 19) rfl)) (hw _ (List.mem_of_getElem? (i := 3) rfl)) (hw _ (List.mem_of_getElem? (i := 21) rfl)) (by decide) (rm_Qpw l Z a0 hw [] b43 uu T46.heap n0 Z48 F46q0) (by decide) (by decide) rfl E46q (g := (mkF m 87 #[.val (.long x1), .second, .val (.int x2), .val (.long cc), .second, .val (.int off), .val (.int off), .val (.long uu), .second, .val (.int (0 : Int32))] [(.ref b43)])) rfl (by rw [hml]; rfl) (argsL := []) (rest := []) rfl (lenOf pd___Z rfl) rfl (by show 2 * 0 + _ ≤ _; exact Nat.le_of_eq rfl) (hb hby at_87) (by decide) (by decide)
        obtain ⟨rfl, N49q, e49⟩ := hQ49
        have N49 := Fr.app N46 N49q
        refine own_via (U' := T49.setTop (mkF m 90 #[.val (.long x1), .second, .val (.int x2), .val (.long cc), .second, .val (.int off), .val (.int off), .val (.long uu), .second, .val (.int (0 : Int32))] [(.int (if (0 : Int64) < uu then (if (uu - uu / (100 : Int64) * (100 : Int64)) = (0 : Int64) then (1 : Int32) else (0 : Int32)) else (0 : Int32)))])) (fun t k => st49 t k) ?_
        refine own_via (U' := T49.setTop (mkF m 92 #[.val (.long x1), .second, .val (.int x2), .val (.long cc), .second, .val (.int off), .val (.int off), .val (.long uu), .second, .val (.int (0 : Int32))] [(.int (0 : Int32)), (.int (if (0 : Int64) < uu then (if (uu - uu / (100 : Int64) * (100 : Int64)) = (0 : Int64) then (1 : Int32) else (0 : Int32)) else (0 : Int32)))])) (fun t k => XS.iload X49.here hx rfl (hb hby at_90) rfl k) ?_
        refine own_via (U' := T49.setTop (mkF m 95 #[.val (.long x1), .second, .val (.int x2), .val (.long cc), .second, .val (.int off), .val (.int off), .val (.long uu), .second, .val (.int (0 : Int32))] [])) (fun t k => XS.icmpNo X49.here hx rfl (hb hby at_92) rfl (teq (own_B0 uu cc off huu hof hc35)).2 k) ?_
        refine own_via (U' := T49.setTop (mkF m 96 #[.val (.long x1), .second, .val (.int x2), .val (.long cc), .second, .val (.int off), .val (.int off), .val (.long uu), .second, .val (.int (0 : Int32))] [(.int (1 : Int32))])) (fun t k => XS.iconst X49.here hx rfl (hb hby at_95) k) ?_
        refine own_via (U' := T49.setTop (mkF m 100 #[.val (.long x1), .second, .val (.int x2), .val (.long cc), .second, .val (.int off), .val (.int off), .val (.long uu), .second, .val (.int (0 : Int32))] [(.int (1 : Int32))])) (fun t k => XS.goto X49.here hx rfl (pc0 := 96) (pc' := 100) rfl (hb hby at_96) (by decide) (by decide) k) ?_
        exact own_ret X49 (v := some (.int (1 : Int32))) (fun h => by rw [Bd.returns] at h; cases h) hlk (fun fs hr => retN X49 hx (t := .boolean) Bd.returns (by simp) (hb hby at_100) hr) (by rw [e49]; exact ⟨rfl, N49⟩) (by decide) (by decide)
set_option maxRecDepth 65536 in
set_option maxHeartbeats 40000000 in
theorem comes_1 {Post : Tables → Env → Array Value → State → Outcome → State → Prop} (hpost : ∀ tb e args s v u, (limb_1_1.after args s (.returned v) u = true ∧ limb_1_2.after args s (.returned v) u = true ∧ True) → FrameEnd s (.returned v) u (Jvm.fieldLocs frame_1_writes args s ++ Jvm.arrayLocs frame_1_arrays args s ++ Jvm.staticLocs frame_1_statics s) 16 128 → Post tb e args s (.returned v) u) :
    ArmFor flags0 classFile x code maxLocals ret World_1 tables_1 room_1 Calls_1 rest_1 Pre_1 Post := by
  intro l hfl _ _ p e ha hc hk s m args below hf hA hF happ hP
  obtain ⟨hcalls, hrest, hpre⟩ := hP
  obtain ⟨-, -, -, hnamed, -, -, -, hat⟩ := (Spec.applies_iff hf).mp happ
  obtain ⟨hg, hn⟩ := and_e (Cond.before_iff.mp (show (Jvm.Cond.and given_1 narrow_1).before args s = true from hpre))
  obtain ⟨hcount, r0⟩ := and_e hg
  obtain ⟨k0, r1⟩ := and_e r0
  obtain ⟨w0, w1, rfl⟩ : ∃ w0 w1 : Value, args = #[w0, w1] := by
    have hs : args.size = 2 := by simpa [Cond.value, given_1] using hcount
    obtain ⟨L⟩ := args
    match L, hs with
    | [w0, w1], _ => exact ⟨w0, w1, rfl⟩
  have hw := fun d (hd : d ∈ tables_1) => atoms_spec (ws := Jvm.Cond.code x code maxLocals ret :: tables_1) hat d (List.mem_cons_of_mem _ hd)
  have hfit : Fit s := fun {y c} hc i hi => by
    obtain ⟨ha, rfl⟩ := Array.getElem?_eq_some_iff.mp hc
    have q := List.all_eq_true.mp ((Array.all_eq_true_iff_forall_mem.mp hF) _ (Array.getElem_mem ha)) i (List.mem_range.mpr hi)
    simpa [Array.getElem?_eq_getElem hi] using q
  obtain ⟨i0, ei0⟩ := isL_v k0
  obtain rfl : w0 = (.long i0) := Option.some.inj ei0
  obtain ⟨i1, ei1⟩ := is_v r1
  obtain rfl : w1 = (.int i1) := Option.some.inj ei1
  obtain ⟨n, o, h1, h2, h3, _, L, rfl, ⟨rfl, N⟩, hq⟩ := rm_Q0 l s _ hw tables_1 i0 i1 s.heap s.heap.size (Nat.le_refl _) p e ha hc hk s m _ below hf ((Spec.applies_iff_loose hf).mp happ).1 ⟨rfl, State.Warmed39.refl s, rfl⟩ trivial
  refine ⟨n, _, h1, h2, h3, hpost _ _ _ _ _ _ ⟨Cond.after_iff.mpr rfl, Cond.after_iff.mpr (eq_i res_at (Term.int_eval (1)) rfl), trivial⟩ ⟨hq.1, hq.2.1, (hq.2.2.sift fun y hy => Or.inr (N y hy)).mono (by decide) (by decide)⟩⟩
theorem main_1_1 : Claimed_1_1 := comes_1 fun _ _ _ _ _ _ h hF => ⟨h.1, hF⟩
theorem main_1_2 : Claimed_1_2 := comes_1 fun _ _ _ _ _ _ h hF => ⟨h.2.1, hF⟩
end Jvm.Pilot.@@N@@
namespace Jvm.Pilot.@@N@@
open Jvm Jvm.ClassFile Sem Op Lib Jvm.Free Jvm.Stand Jvm.Pilot.@@N@@.Jvm.D
/-! MADE BY PROGRAM (witnessworld.py) out of the Statement's table words and the real class files: 12 classes; the members and pool entries that the words name. The judged class is class 1, her method 1. -/
namespace start1
open Jvm.ClassFile
def u (s : String) : CpInfo := .utf8 (stringToUtf16 s)
/-- a pool by its gaps: so many unusable entries, then the entry; so many at the end -/
def gap : Nat → List CpInfo → List CpInfo
  | 0, r => r
  | n + 1, r => .unusable :: gap n r
def poolList (es : List (Nat × CpInfo)) (last : Nat) : List CpInfo := es.foldr (fun e r => gap e.1 (e.2 :: r)) (gap last [])
def pool (es : List (Nat × CpInfo)) (last : Nat) : Array CpInfo := ⟨poolList es last⟩
def fileOf (pool : Array CpInfo) (this : Nat) (attrs : Array Attribute := #[]) (ms : Array MethodInfo := #[]) (fl : Nat := 33) (sup : Nat := 0) (ifs : Array Nat := #[]) (fds : Array FieldInfo := #[]) : ClassFile where
  minorVersion := 0
  majorVersion := 65
  constantPool := pool
  accessFlags := fl
  thisClass := this
  superClass := sup
  interfaces := ifs
  fields := fds
  methods := ms
  attributes := attrs
def plain (name : String) (sup : Option ClassId) : Class where
  name := name
  kind := .ordinary
  loader := none
  accessFlags := 33
  super := sup
  interfaces := #[]
  cf := none
  fields := #[]
  methods := #[]
  instanceTypes := #[]
  staticTypes := #[]
  resolved := #[]
  callSites := []
  init := .initialized
  statics := none
  mirror := none

def pool0 : Array CpInfo := pool [(5, u "<init>"), (0, u "()V"), (1, .class_ 10), (1, u "java/lang/Object")] 113

def k0c0 : Code := { maxStack := 0, maxLocals := 1, code := object_method_1_code, exceptionTable := #[], attributes := #[] }
def k0m0 : Method := { name := "<init>", desc := "()V", sig := { parameters := [], returnType := none }, accessFlags := 1, code := some k0c0 }
/-- java/lang/Object -/
def k0 : Class := { plain "java/lang/Object" none with
  accessFlags := 33
  interfaces := #[]
  cf := some (fileOf pool0 8 #[] #[{ accessFlags := 1, nameIndex := 5, descriptorIndex := 6, attributes := #[] }] 33 0 #[] #[])
  fields := #[]
  methods := #[k0m0]
  instanceTypes := #[]
  staticTypes := #[]
  resolved := Array.replicate 124 none
  statics := none }

def pool1 : Array CpInfo := pool [(2, .class_ 4), (1, u "java/lang/Object"), (0, u "<init>"), (0, u "()V"), (0, .long 100), (1, .methodref 10 11), (0, .class_ 12), (0, .nameAndType 13 14), (0, u "java/lang/Math"), (0, u "abs"), (0, u "(I)I"), (0, .class_ 16), (0, u "com/example/docketline/docketline/model/Price"), (0, .methodref 15 18), (0, .nameAndType 5 19), (0, u "(J)V"), (0, .methodref 15 21), (0, .nameAndType 22 23), (0, u "isPositiveWholeCents"), (0, u "()Z"), (0, .class_ 25), (0, u "com/example/docketline/docketline/model/PriceIsPositiveWholeCentsPinLaw"), (2, u "law"), (0, u "(JI)Z")] 3

def k1m0 : Method := { name := "<init>", desc := "()V", sig := { parameters := [], returnType := none }, accessFlags := 2, code := none }
def k1c1 : Code := { maxStack := 4, maxLocals := 10, code := code, exceptionTable := #[], attributes := #[] }
def k1m1 : Method := { name := "law", desc := "(JI)Z", sig := { parameters := [.long, .int], returnType := some .boolean }, accessFlags := 9, code := some k1c1 }
/-- com/example/docketline/docketline/model/PriceIsPositiveWholeCentsPinLaw -/
def k1 : Class := { plain "com/example/docketline/docketline/model/PriceIsPositiveWholeCentsPinLaw" (some 0) with
  accessFlags := 49
  interfaces := #[]
  cf := some (fileOf pool1 24 #[] #[{ accessFlags := 2, nameIndex := 5, descriptorIndex := 6, attributes := #[] }, { accessFlags := 9, nameIndex := 28, descriptorIndex := 29, attributes := #[] }] 49 2 #[] #[])
  fields := #[]
  methods := #[k1m0, k1m1]
  instanceTypes := #[]
  staticTypes := #[]
  resolved := Array.replicate 33 none
  statics := none }

def pool2 : Array CpInfo := pool [(1, .methodref 2 3), (0, .class_ 4), (0, .nameAndType 5 6), (0, u "java/lang/Object"), (0, u "<init>"), (0, u "()V"), (0, .class_ 8), (0, u "java/lang/Record")] 13

def k2c0 : Code := { maxStack := 1, maxLocals := 1, code := jdk_30_method_1_code, exceptionTable := #[], attributes := #[] }
def k2m0 : Method := { name := "<init>", desc := "()V", sig := { parameters := [], returnType := none }, accessFlags := 4, code := some k2c0 }
/-- java/lang/Record -/
def k2 : Class := { plain "java/lang/Record" (some 0) with
  accessFlags := 1057
  interfaces := #[]
  cf := some (fileOf pool2 7 #[] #[{ accessFlags := 4, nameIndex := 5, descriptorIndex := 6, attributes := #[] }] 1057 2 #[] #[])
  fields := #[]
  methods := #[k2m0]
  instanceTypes := #[]
  staticTypes := #[]
  resolved := Array.replicate 22 none
  statics := none }

def pool3 : Array CpInfo := pool [(1, .class_ 2), (0, u "java/lang/Comparable"), (0, .class_ 4), (0, u "java/lang/Object")] 7

/-- java/lang/Comparable -/
def k3 : Class := { plain "java/lang/Comparable" (some 0) with
  accessFlags := 1537
  interfaces := #[]
  cf := some (fileOf pool3 1 #[] #[] 1537 3 #[] #[])
  fields := #[]
  methods := #[]
  instanceTypes := #[]
  staticTypes := #[]
  resolved := Array.replicate 12 none
  statics := none }

def pool4 : Array CpInfo := pool [(1, .methodref 2 3), (0, .class_ 4), (0, .nameAndType 5 6), (0, u "java/lang/Record"), (0, u "<init>"), (0, u "()V"), (0, .fieldref 8 9), (0, .class_ 10), (0, .nameAndType 11 12), (0, u "com/example/docketline/docketline/model/Price"), (0, u "units"), (0, u "J"), (12, u "(J)V"), (23, .long 100), (46, .class_ 97), (0, u "java/lang/Comparable"), (0, u "DECIMALS"), (0, u "I"), (2, u "PRINTED_DECIMALS"), (1, u "UNITS_PER_CENT"), (8, u "isPositiveWholeCents"), (0, u "()Z")] 32

def k4c0 : Code := { maxStack := 3, maxLocals := 3, code := prog_56_method_1_code, exceptionTable := #[], attributes := #[] }
def k4m0 : Method := { name := "<init>", desc := "(J)V", sig := { parameters := [.long], returnType := none }, accessFlags := 1, code := some k4c0 }
def k4c1 : Code := { maxStack := 4, maxLocals := 1, code := prog_56_method_4_code, exceptionTable := #[], attributes := #[] }
def k4m1 : Method := { name := "isPositiveWholeCents", desc := "()Z", sig := { parameters := [], returnType := some .boolean }, accessFlags := 1, code := some k4c1 }
/-- com/example/docketline/docketline/model/Price -/
def k4 : Class := { plain "com/example/docketline/docketline/model/Price" (some 2) with
  accessFlags := 49
  interfaces := #[3]
  cf := some (fileOf pool4 8 #[] #[{ accessFlags := 1, nameIndex := 5, descriptorIndex := 25, attributes := #[] }, { accessFlags := 1, nameIndex := 113, descriptorIndex := 114, attributes := #[] }] 49 2 #[96] #[{ accessFlags := 18, nameIndex := 11, descriptorIndex := 12, attributes := #[] }, { accessFlags := 25, nameIndex := 98, descriptorIndex := 99, attributes := #[] }, { accessFlags := 26, nameIndex := 102, descriptorIndex := 99, attributes := #[] }, { accessFlags := 25, nameIndex := 104, descriptorIndex := 12, attributes := #[] }])
  fields := #[{ name := "units", type := .long, accessFlags := 18, slot := 0, constantValue := 0 }, { name := "DECIMALS", type := .int, accessFlags := 25, slot := 0, constantValue := 0 }, { name := "PRINTED_DECIMALS", type := .int, accessFlags := 26, slot := 1, constantValue := 0 }, { name := "UNITS_PER_CENT", type := .long, accessFlags := 25, slot := 2, constantValue := 0 }]
  methods := #[k4m0, k4m1]
  instanceTypes := #[.long]
  staticTypes := #[.int, .int, .long]
  resolved := Array.replicate 147 none
  statics := none }

def pool5 : Array CpInfo := pool [(1, .class_ 2), (0, u "java/lang/Math"), (1, .class_ 6), (1, u "java/lang/Object"), (0, u "<init>"), (0, u "()V"), (89, .class_ 100), (1, u "java/lang/Math$RandomNumberGeneratorHolder"), (23, u "abs"), (34, u "(I)I"), (12, u "negativeZeroFloatBits"), (0, u "J"), (2, u "negativeZeroDoubleBits"), (68, u "$assertionsDisabled"), (0, u "Z"), (91, u "twoToTheDoubleScaleDown"), (0, u "D"), (4, u "twoToTheDoubleScaleUp"), (9, u "E"), (3, u "PI"), (2, u "TAU"), (2, u "DEGREES_TO_RADIANS"), (0, u "RADIANS_TO_DEGREES")] 94

def k5m0 : Method := { name := "<init>", desc := "()V", sig := { parameters := [], returnType := none }, accessFlags := 2, code := none }
def k5c1 : Code := { maxStack := 1, maxLocals := 1, code := jdk_29_method_59_code, exceptionTable := #[], attributes := #[] }
def k5m1 : Method := { name := "abs", desc := "(I)I", sig := { parameters := [.int], returnType := some .int }, accessFlags := 9, code := some k5c1 }
/-- java/lang/Math -/
def k5 : Class := { plain "java/lang/Math" (some 0) with
  accessFlags := 49
  interfaces := #[]
  cf := some (fileOf pool5 1 #[.nestMembers #[98]] #[{ accessFlags := 2, nameIndex := 7, descriptorIndex := 8, attributes := #[] }, { accessFlags := 9, nameIndex := 124, descriptorIndex := 159, attributes := #[] }] 49 4 #[] #[{ accessFlags := 25, nameIndex := 354, descriptorIndex := 339, attributes := #[] }, { accessFlags := 25, nameIndex := 358, descriptorIndex := 339, attributes := #[] }, { accessFlags := 25, nameIndex := 361, descriptorIndex := 339, attributes := #[] }, { accessFlags := 26, nameIndex := 364, descriptorIndex := 339, attributes := #[] }, { accessFlags := 26, nameIndex := 365, descriptorIndex := 339, attributes := #[] }, { accessFlags := 26, nameIndex := 172, descriptorIndex := 173, attributes := #[] }, { accessFlags := 26, nameIndex := 176, descriptorIndex := 173, attributes := #[] }, { accessFlags := 8, nameIndex := 344, descriptorIndex := 339, attributes := #[] }, { accessFlags := 8, nameIndex := 338, descriptorIndex := 339, attributes := #[] }, { accessFlags := 4120, nameIndex := 245, descriptorIndex := 246, attributes := #[] }])
  fields := #[{ name := "E", type := .double, accessFlags := 25, slot := 0, constantValue := 0 }, { name := "PI", type := .double, accessFlags := 25, slot := 1, constantValue := 0 }, { name := "TAU", type := .double, accessFlags := 25, slot := 2, constantValue := 0 }, { name := "DEGREES_TO_RADIANS", type := .double, accessFlags := 26, slot := 3, constantValue := 0 }, { name := "RADIANS_TO_DEGREES", type := .double, accessFlags := 26, slot := 4, constantValue := 0 }, { name := "negativeZeroFloatBits", type := .long, accessFlags := 26, slot := 5, constantValue := 0 }, { name := "negativeZeroDoubleBits", type := .long, accessFlags := 26, slot := 6, constantValue := 0 }, { name := "twoToTheDoubleScaleUp", type := .double, accessFlags := 8, slot := 7, constantValue := 0 }, { name := "twoToTheDoubleScaleDown", type := .double, accessFlags := 8, slot := 8, constantValue := 0 }, { name := "$assertionsDisabled", type := .boolean, accessFlags := 4120, slot := 9, constantValue := 0 }]
  methods := #[k5m0, k5m1]
  instanceTypes := #[]
  staticTypes := #[.double, .double, .double, .double, .double, .long, .long, .double, .double, .boolean]
  resolved := Array.replicate 460 none
  statics := none }

def pool6 : Array CpInfo := pool [(1, u "java/lang/Cloneable"), (0, .class_ 1), (0, u "java/lang/Object"), (0, .class_ 3)] 3

/-- java/lang/Cloneable -/
def k6 : Class := { plain "java/lang/Cloneable" (some 0) with
  accessFlags := 1537
  interfaces := #[]
  cf := some (fileOf pool6 2 #[] #[] 1537 4 #[] #[])
  fields := #[]
  methods := #[]
  instanceTypes := #[]
  staticTypes := #[]
  resolved := Array.replicate 8 none
  statics := none }

def pool7 : Array CpInfo := pool [(1, u "java/io/Serializable"), (0, .class_ 1), (0, u "java/lang/Object"), (0, .class_ 3)] 3

/-- java/io/Serializable -/
def k7 : Class := { plain "java/io/Serializable" (some 0) with
  accessFlags := 1537
  interfaces := #[]
  cf := some (fileOf pool7 2 #[] #[] 1537 4 #[] #[])
  fields := #[]
  methods := #[]
  instanceTypes := #[]
  staticTypes := #[]
  resolved := Array.replicate 8 none
  statics := none }

/-- the primitive byte -/
def k8 : Class := { plain "byte" none with kind := .primitive 'B', accessFlags := 0x411 }
/-- [B -/
def k9 : Class := { plain "[B" (some 0) with kind := .array 8 .byte, interfaces := #[6, 7], accessFlags := 1041 }

/-- the primitive int -/
def k10 : Class := { plain "int" none with kind := .primitive 'I', accessFlags := 0x411 }
/-- [I -/
def k11 : Class := { plain "[I" (some 0) with kind := .array 10 .int, interfaces := #[6, 7], accessFlags := 1041 }

def heap : Heap := #[]
def classes : Array Class := #[k0, k1, k2, k3, k4, k5, k6, k7, k8, k9, k10, k11]
def interned : List (Array UInt16 × Addr) := []
def slotsUsed : Nat := 0
def theMethod : MethodId := ⟨1, 1⟩
def args0 : Array Value := #[.long 500, .int 7]
def aboutOver (below : List Frame) : State where
  vm := { classes := classes, interned := interned.toArray }
  heap := heap
  slotsUsed := slotsUsed
  threads := #[{ frames := .invoking theMethod args0 :: below }]
def below0 : List Frame := [.native { method := ⟨0, 0⟩, args := #[] }]
def about1 : State := aboutOver below0
def p0 : Program := .bare "" "" ""
def e0 : Env := launch0.env 0 0 0
theorem w_frames : about1.frames = Frame.invoking theMethod args0 :: below0 := rfl
set_option maxRecDepth 65536 in
theorem w_args : argsFit about1.vm theMethod args0 = true := by decide +kernel
set_option maxRecDepth 65536 in
theorem w_heap : heapFits about1 = true := by decide +kernel
set_option maxRecDepth 65536 in
theorem w_runnable : about1.curStatus? = some .runnable := by decide +kernel
set_option maxRecDepth 65536 in
theorem w_alone : about1.alone = true := by decide +kernel
set_option maxRecDepth 65536 in
theorem w_named : about1.methodNamed? x = some theMethod := by decide +kernel
set_option maxRecDepth 65536 in
theorem w_hears : about1.hears theMethod below0 = true := by decide +kernel
set_option maxRecDepth 65536 in
theorem w_ripe : about1.ripe theMethod args0 below0 = true := by decide +kernel
theorem w_running : about1.status = .running := rfl
set_option maxRecDepth 65536 in
theorem w_room : about1.hasRoom e0.platform room_1 = true :=
  launch0.hasRoom_least _ room_1 (by decide +kernel) (by decide +kernel) (by decide +kernel) (by decide +kernel) (by decide +kernel) (by decide +kernel)
theorem allAtoms_all (ts : List Jvm.Cond) (a : Array Jvm.Value) (st : Jvm.State) : (allAtoms ts).before a st = ts.all (fun c => c.before a st) := by
  induction ts with
  | nil => rfl
  | cons c t ih =>
    show (Jvm.Cond.and c (allAtoms t)).before a st = _
    rw [Jvm.Cond.before_and, ih, List.all_cons]
def words1 : List Jvm.Cond := Jvm.Cond.code x code maxLocals ret :: tables_1
/-- a 'code' word, met by the world's own term for the bytes: nothing is compared byte by byte -/
theorem code_word {y : MethodName} {bytes : ByteArray} {mx : Nat} {rt : Option FieldType} {a : Array Value} {s : State} {m : MethodId} {meth : Method} {c : Code} (h1 : s.methodNamed? y = some m) (h2 : s.vm.method? m = some meth) (h3 : meth.code = some c) (h4 : c.code = bytes)
    (h5 : (c.maxLocals == mx && c.exceptionTable.isEmpty && decide (c.maxStack ≤ mostOperands) && decide (meth.sig.returnType = rt) && !meth.locks && decide (parseMethodDescriptor y.desc = some meth.sig)) = true) : (Jvm.Cond.code y bytes mx rt).before a s = true := by
  simp only [Bool.and_eq_true, beq_iff_eq, Bool.not_eq_true', decide_eq_true_eq] at h5
  obtain ⟨⟨⟨⟨⟨g1, g2⟩, g3⟩, g4⟩, g5⟩, g6⟩ := h5
  simp [Cond.before, Cond.holds, Cond.value, h1, h2, h3, h4, g1, g2, g3, g4, g5, g6]
def isCode : Jvm.Cond → Bool
  | .code _ _ _ _ => true
  | _ => false
theorem all_split {L : List Jvm.Cond} {P : Jvm.Cond → Bool} (h1 : L.all (fun c => isCode c || P c) = true) (h2 : ∀ c ∈ L.filter isCode, P c = true) : L.all P = true := by
  refine List.all_eq_true.mpr fun c hc => ?_
  have h := List.all_eq_true.mp h1 c hc
  rcases Bool.eq_false_or_eq_true (isCode c) with hi | hi
  · exact h2 c (List.mem_filter.mpr ⟨hc, hi⟩)
  · simpa [hi] using h
set_option maxRecDepth 65536 in
theorem w_c0 : (Jvm.Cond.code x code maxLocals ret).before args0 about1 = true := code_word (m := ⟨1, 1⟩) (meth := k1m1) (c := k1c1) (by decide +kernel) rfl rfl rfl (by decide +kernel)
set_option maxRecDepth 65536 in
theorem w_c1 : (Jvm.Cond.code ({ cls := "com/example/docketline/docketline/model/Price", name := "<init>", desc := "(J)V" } : Jvm.MethodName) prog_56_method_1_code (3 : Nat) (Option.none : Option Jvm.ClassFile.FieldType)).before args0 about1 = true := code_word (m := ⟨4, 0⟩) (meth := k4m0) (c := k4c0) (by decide +kernel) rfl rfl rfl (by decide +kernel)
set_option maxRecDepth 65536 in
theorem w_c2 : (Jvm.Cond.code ({ cls := "java/lang/Record", name := "<init>", desc := "()V" } : Jvm.MethodName) jdk_30_method_1_code (1 : Nat) (Option.none : Option Jvm.ClassFile.FieldType)).before args0 about1 = true := code_word (m := ⟨2, 0⟩) (meth := k2m0) (c := k2c0) (by decide +kernel) rfl rfl rfl (by decide +kernel)
set_option maxRecDepth 65536 in
theorem w_c3 : (Jvm.Cond.code ({ cls := "java/lang/Object", name := "<init>", desc := "()V" } : Jvm.MethodName) object_method_1_code (1 : Nat) (Option.none : Option Jvm.ClassFile.FieldType)).before args0 about1 = true := code_word (m := ⟨0, 0⟩) (meth := k0m0) (c := k0c0) (by decide +kernel) rfl rfl rfl (by decide +kernel)
set_option maxRecDepth 65536 in
theorem w_c4 : (Jvm.Cond.code ({ cls := "com/example/docketline/docketline/model/Price", name := "isPositiveWholeCents", desc := "()Z" } : Jvm.MethodName) prog_56_method_4_code (1 : Nat) (Option.some Jvm.ClassFile.FieldType.boolean)).before args0 about1 = true := code_word (m := ⟨4, 1⟩) (meth := k4m1) (c := k4c1) (by decide +kernel) rfl rfl rfl (by decide +kernel)
set_option maxRecDepth 65536 in
theorem w_c5 : (Jvm.Cond.code ({ cls := "java/lang/Math", name := "abs", desc := "(I)I" } : Jvm.MethodName) jdk_29_method_59_code (1 : Nat) (Option.some Jvm.ClassFile.FieldType.int)).before args0 about1 = true := code_word (m := ⟨5, 1⟩) (meth := k5m1) (c := k5c1) (by decide +kernel) rfl rfl rfl (by decide +kernel)
def codes1 : List Jvm.Cond := [Jvm.Cond.code x code maxLocals ret, Jvm.Cond.code ({ cls := "com/example/docketline/docketline/model/Price", name := "<init>", desc := "(J)V" } : Jvm.MethodName) prog_56_method_1_code (3 : Nat) (Option.none : Option Jvm.ClassFile.FieldType), Jvm.Cond.code ({ cls := "java/lang/Record", name := "<init>", desc := "()V" } : Jvm.MethodName) jdk_30_method_1_code (1 : Nat) (Option.none : Option Jvm.ClassFile.FieldType), Jvm.Cond.code ({ cls := "java/lang/Object", name := "<init>", desc := "()V" } : Jvm.MethodName) object_method_1_code (1 : Nat) (Option.none : Option Jvm.ClassFile.FieldType), Jvm.Cond.code ({ cls := "com/example/docketline/docketline/model/Price", name := "isPositiveWholeCents", desc := "()Z" } : Jvm.MethodName) prog_56_method_4_code (1 : Nat) (Option.some Jvm.ClassFile.FieldType.boolean), Jvm.Cond.code ({ cls := "java/lang/Math", name := "abs", desc := "(I)I" } : Jvm.MethodName) jdk_29_method_59_code (1 : Nat) (Option.some Jvm.ClassFile.FieldType.int)]
set_option maxRecDepth 65536 in
theorem codes_eq : words1.filter isCode = codes1 := rfl
theorem w_codes : ∀ c ∈ words1.filter isCode, c.before args0 about1 = true := by
  rw [codes_eq]
  intro c hc
  simp only [codes1, List.mem_cons, List.not_mem_nil, or_false] at hc
  rcases hc with rfl | rfl | rfl | rfl | rfl | rfl
  · exact w_c0
  · exact w_c1
  · exact w_c2
  · exact w_c3
  · exact w_c4
  · exact w_c5
set_option maxRecDepth 65536 in
theorem w_t1 : (words1.take 24).all (fun c => isCode c || c.before args0 about1) = true := by decide +kernel
set_option maxRecDepth 65536 in
theorem w_t2 : (words1.drop 24).all (fun c => isCode c || c.before args0 about1) = true := by decide +kernel
theorem w_tables : (allAtoms (Jvm.Cond.code x code maxLocals ret :: tables_1)).before args0 about1 = true := by
  rw [allAtoms_all]
  show words1.all (fun c => c.before args0 about1) = true
  refine all_split ?_ w_codes
  rw [← List.take_append_drop 24 words1, List.all_append, w_t1, w_t2]
  rfl
set_option maxRecDepth 65536 in
theorem w_case : (Jvm.Cond.and given_1 narrow_1).before args0 about1 = true := by decide +kernel
theorem w_applies : (headSpec (Jvm.Cond.code x code maxLocals ret :: tables_1) room_1).applies x e0.platform about1 = true :=
  (Spec.applies_iff w_frames).mpr ⟨w_running, w_runnable, w_alone, w_named, w_hears, w_ripe, w_room, w_tables⟩
theorem atStart : AtStart classFile x code maxLocals ret World_1 tables_1 room_1 Calls_1 rest_1 Pre_1 launch0 p0 e0 about1 theMethod args0 below0 :=
  ⟨lists_1, trivial, launch0.admits_env _ _ _, launch0.least_env, fairChoices_fair.cas, fairChoices_fair.clock, w_frames, w_args, w_heap, w_applies, trivial, trivial, w_case⟩
end start1
theorem witness_1 : WitnessClaimed_1 := ⟨start1.p0, start1.e0, start1.about1, start1.theMethod, start1.args0, start1.below0, start1.atStart⟩
end Jvm.Pilot.@@N@@
