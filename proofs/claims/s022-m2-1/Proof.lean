import JvmDerived
import JvmDerived.Pilot.@@N@@Statement
import JvmDerived.Pilot.@@N@@Code
set_option linter.unusedVariables false
set_option linter.unusedSimpArgs false
namespace Jvm.Pilot.@@N@@
open Jvm Jvm.ClassFile Sem Op Lib Jvm.Free Jvm.Stand Jvm.LawKit Jvm.RoadKit Bundle Jvm.Pilot.@@N@@.Jvm.D
/-! own laws: the run from a state to the return, in continuation form -/
section OwnG
variable {p : Program} {l : Launch} {e : Env} {R : Room} {s : State} {m : MethodId} {args : Array Value} {below : List Frame} {meth : Method} {c : Code} {T : State} {locs : List Loc} {cells slots : Nat} {Z : State} {a0 : Array Value} {h : Heap} {Q : Option Value → Heap → List Loc → Prop} {ck sk : Nat}
def own_G (p : Program) (e : Env) (below : List Frame) (s : State) (Q : Option Value → Heap → List Loc → Prop) (ck sk : Nat) (U : State) : Prop :=
  ∃ s₂ o, Steps p.tables e below U s₂ ∧ s₂.status = .running ∧ Ended s₂ below o ∧ ∃ v L, o = .returned v ∧ Q v s₂.heap L ∧ FrameEnd s o s₂ L ck sk
theorem own_via {U U' : State} (k : ∀ t, Steps p.tables e below U' t → Steps p.tables e below U t) (g : own_G p e below s Q ck sk U') : own_G p e below s Q ck sk U := by
  obtain ⟨s2, o, h1, r⟩ := g
  exact ⟨s2, o, k _ h1, r⟩
theorem own_mono {Q' : Option Value → Heap → List Loc → Prop} {U : State} (k : ∀ v h L, Q v h L → Q' v h L) (g : own_G p e below s Q ck sk U) : own_G p e below s Q' ck sk U := by
  obtain ⟨s2, o, h1, h2, h3, v, L, h4, h5, h6⟩ := g
  exact ⟨s2, o, h1, h2, h3, v, L, h4, k _ _ _ h5, h6⟩
theorem own_ret (X : Stand p l e R s m args below meth c T locs cells slots) {v : Option Value} (hv : meth.sig.returnType = none → v = none) (hlk : meth.locks = false) {f : JFrame}
    (st : ∀ fs, (∀ (f : JFrame) (acts : List Action), f.method = m → f.locked = none → f.entered = [] → (doReturn e (T.setTop f) acts v).1 = T.setFrames fs) → Steps p.tables e below (T.setTop f) (T.setFrames fs))
    (hQ : Q v T.heap locs) (hc : cells ≤ ck) (hs : slots ≤ sk) : own_G p e below s Q ck sk (T.setTop f) := by
  obtain ⟨fs, hr, hrun, hended, hW, hsame⟩ := X.leave (v := v) hv hlk
  exact ⟨_, _, st fs hr, hrun, hended, _, _, rfl, hQ, ⟨_, rfl⟩, hW, hsame.mono hc hs⟩
theorem own_callS (X : Stand p l e R s m args below meth c T locs cells slots) (hx : p.tables.exec = Jvm.exec) (hZ : Z.Warmed39 s.vm) {own : String} {index : Nat} {y : MethodName} {bytes : ByteArray} {maxL : Nat} {ret : Option FieldType} {rm : Room} {as' : Array Value} {W : Nat}
    (hown : s.vm.findClass own = some m.cls) (w1 : (Jvm.Cond.methodLink own index y).before a0 Z = true) (w2 : (Jvm.Cond.static y).before a0 Z = true) (w3 : (Jvm.Cond.initialized y.cls).before a0 Z = true) (w4 : (Jvm.Cond.code y bytes maxL ret).before a0 Z = true)
    (hy : y.cls ≠ "java/lang/invoke/MethodHandle" ∧ y.cls ≠ "java/lang/invoke/VarHandle")
    (hM : MetFree l y (head1 [Jvm.Cond.code y bytes maxL ret] rm) (fun a U => a = as' ∧ Z.Warmed39 U.vm ∧ U.heap = h) (fun _ _ _ _ _ => True) (fun _ U o U' => ∃ v L, o = .returned v ∧ Q v U'.heap L ∧ FrameEnd U o U' L rm.cells rm.slots))
    (hf : rm.frames + 1 ≤ R.frames) (hl : W + (maxL + 11) + rm.locals ≤ R.locals) (eT : T.heap = h)
    {g : JFrame} (hg : g.method = m) (hsize : g.locals.size = c.maxLocals) {argsL rest : List Value} (has : argsL.toArray = as') (hlen : ∀ sig, parseMethodDescriptor y.desc = some sig → argsL.length = sig.parameters.length)
    (hstack : g.stack = argsL.reverse ++ rest) (hW : 2 * g.monitorRoom + (rest.map fun v => v.category).sum ≤ W) (hdg : decode c.code g.pc = .ok (.invokestatic index, 3))
    (hcells : cells + rm.cells ≤ R.cells) (hslots : slots + rm.slots ≤ R.slots) :
    ∃ v T' L', Stand p l e R s m args below meth c T' (locs ++ L') (cells + rm.cells) (slots + rm.slots) ∧ Q v T'.heap L' ∧ ∀ t, Steps p.tables e below (T'.setTop { g with pc := g.pc + 3, stack := v.toList ++ rest }) t → Steps p.tables e below (T.setTop g) t := by
  obtain ⟨v, vm1, ⟨T', L', k', n'⟩, -, X', ⟨Lc, hQ, q1, q2, q3⟩, st⟩ := Jvm.LawKit.callS X hx hown (mvT hZ w1) (mvT hZ w2) (mvT hZ w3) (mvT hZ w4) hy (backOf (W := W) hM hZ w4 w3 hf hl) hg hsize hlen hstack hW hdg (fun _ _ => ⟨has, eT, hcells, hslots⟩)
  dsimp only [Pt.U, Pt.locs, Pt.cells, Pt.slots] at X' q1 q2 q3 st hQ
  subst q1 q2 q3
  exact ⟨v, T', Lc, X', hQ, st⟩
theorem own_callI (X : Stand p l e R s m args below meth c T locs cells slots) (hx : p.tables.exec = Jvm.exec) (hZ : Z.Warmed39 s.vm) {own : String} {index : Nat} {y : MethodName} (hy1 : y.name = "<init>") {bytes : ByteArray} {maxL : Nat} {rm : Room} {as' : Array Value} {W : Nat}
    (hown : s.vm.findClass own = some m.cls) (w1 : (Jvm.Cond.methodLink own index y).before a0 Z = true) (w2 : (Jvm.Cond.instanceMethod y).before a0 Z = true) (w3 : (Jvm.Cond.initialized y.cls).before a0 Z = true) (w4 : (Jvm.Cond.code y bytes maxL none).before a0 Z = true)
    (hy : y.cls ≠ "java/lang/invoke/MethodHandle" ∧ y.cls ≠ "java/lang/invoke/VarHandle")
    (hM : MetFree l y (head1 [Jvm.Cond.code y bytes maxL none] rm) (fun a U => a = as' ∧ Z.Warmed39 U.vm ∧ U.heap = h) (fun _ _ _ _ _ => True) (fun _ U o U' => ∃ v L, o = .returned v ∧ Q v U'.heap L ∧ FrameEnd U o U' L rm.cells rm.slots))
    (hf : rm.frames + 1 ≤ R.frames) (hl : W + (maxL + 11) + rm.locals ≤ R.locals) (eT : T.heap = h)
    {g : JFrame} (hg : g.method = m) (hsize : g.locals.size = c.maxLocals) {a : Addr} {argsL rest : List Value} (has : (.ref a :: argsL).toArray = as') (hlen : ∀ sig, parseMethodDescriptor y.desc = some sig → argsL.length = sig.parameters.length)
    (hstack : g.stack = argsL.reverse ++ .ref a :: rest) (hW : 2 * g.monitorRoom + (rest.map fun v => v.category).sum ≤ W) (hdg : decode c.code g.pc = .ok (.invokespecial index, 3))
    (hcells : cells + rm.cells ≤ R.cells) (hslots : slots + rm.slots ≤ R.slots) :
    ∃ v T' L', Stand p l e R s m args below meth c T' (locs ++ L') (cells + rm.cells) (slots + rm.slots) ∧ Q v T'.heap L' ∧ ∀ t, Steps p.tables e below (T'.setTop { g with pc := g.pc + 3, stack := v.toList ++ rest }) t → Steps p.tables e below (T.setTop g) t := by
  obtain ⟨v, vm1, ⟨T', L', k', n'⟩, -, X', ⟨Lc, hQ, q1, q2, q3⟩, st⟩ := X.specialBack hx hy1 hown (mvT hZ w1) (mvT hZ w2) (mvT hZ w4) hy (backOf (W := W) hM hZ w4 w3 hf hl) hg hsize (Steps.refl _) hlen hstack hW hdg (fun _ _ => ⟨has, eT, hcells, hslots⟩)
  dsimp only [Pt.U, Pt.locs, Pt.cells, Pt.slots] at X' q1 q2 q3 st hQ
  subst q1 q2 q3
  exact ⟨v, T', Lc, X', hQ, fun t k => st.trans k⟩
theorem own_callV (X : Stand p l e R s m args below meth c T locs cells slots) (hx : p.tables.exec = Jvm.exec) (hZ : Z.Warmed39 s.vm) {own : String} {index : Nat} {y : MethodName} {bytes : ByteArray} {maxL : Nat} {ret : Option FieldType} {rm : Room} {as' : Array Value} {W : Nat} {C : String}
    (hown : s.vm.findClass own = some m.cls) (w1 : (Jvm.Cond.methodLink own index y).before a0 Z = true) (w2 : (Jvm.Cond.declares y).before a0 Z = true) (w5 : (Jvm.Cond.selects C y y).before a0 Z = true) (w6 : (Jvm.Cond.instanceMethod y).before a0 Z = true) (w3 : (Jvm.Cond.initialized y.cls).before a0 Z = true) (w4 : (Jvm.Cond.code y bytes maxL ret).before a0 Z = true)
    (hy : y.cls ≠ "java/lang/invoke/MethodHandle" ∧ y.cls ≠ "java/lang/invoke/VarHandle")
    (hM : MetFree l y (head1 [Jvm.Cond.code y bytes maxL ret] rm) (fun a U => a = as' ∧ Z.Warmed39 U.vm ∧ U.heap = h) (fun _ _ _ _ _ => True) (fun _ U o U' => ∃ v L, o = .returned v ∧ Q v U'.heap L ∧ FrameEnd U o U' L rm.cells rm.slots))
    (hf : rm.frames + 1 ≤ R.frames) (hl : W + (maxL + 11) + rm.locals ≤ R.locals) (eT : T.heap = h) {b : Addr} (E : Exa Z h b C)
    {g : JFrame} (hg : g.method = m) (hsize : g.locals.size = c.maxLocals) {argsL rest : List Value} (has : (.ref b :: argsL).toArray = as') (hlen : ∀ sig, parseMethodDescriptor y.desc = some sig → argsL.length = sig.parameters.length)
    (hstack : g.stack = argsL.reverse ++ .ref b :: rest) (hW : 2 * g.monitorRoom + (rest.map fun v => v.category).sum ≤ W) (hdg : decode c.code g.pc = .ok (.invokevirtual index, 3))
    (hcells : cells + rm.cells ≤ R.cells) (hslots : slots + rm.slots ≤ R.slots) :
    ∃ v T' L', Stand p l e R s m args below meth c T' (locs ++ L') (cells + rm.cells) (slots + rm.slots) ∧ Q v T'.heap L' ∧ ∀ t, Steps p.tables e below (T'.setTop { g with pc := g.pc + 3, stack := v.toList ++ rest }) t → Steps p.tables e below (T.setTop g) t := by
  obtain ⟨cq, kq, qa, qb, qc⟩ := isOf hZ eT E
  obtain ⟨v, vm1, ⟨T', L', k', n'⟩, -, X', ⟨Lc, hQ, q1, q2, q3⟩, st⟩ := X.virtualBack hx hown (mvT hZ w1) (mvT hZ w2) (notFace_of_selects (args := #[]) (mvT hZ w5)) (mvT hZ w5) (mvT hZ w6) hy (backOf (W := W) hM hZ w4 w3 hf hl) qa qc hg hsize (Steps.refl _) hlen hstack hW hdg (fun _ _ => ⟨has, eT, hcells, hslots⟩)
  dsimp only [Pt.U, Pt.locs, Pt.cells, Pt.slots] at X' q1 q2 q3 st hQ
  subst q1 q2 q3
  exact ⟨v, T', Lc, X', hQ, fun t k => st.trans k⟩
end OwnG
theorem own_jlt {x y : Int64} (h : x < y) : ifCond.holds .lt (lcmpW x y) = true ∧ ifCond.holds .ge (lcmpW x y) = false := by
  have q := (lw_lt x y).mpr h
  exact ⟨(if0 _ _).trans (tlt q).1, (if0 _ _).trans (tlt q).2.1⟩
theorem own_jnlt {x y : Int64} (h : ¬ x < y) : ifCond.holds .lt (lcmpW x y) = false ∧ ifCond.holds .ge (lcmpW x y) = true := by
  have q := fun z => h ((lw_lt x y).mp z)
  exact ⟨(if0 _ _).trans (flt q).1, (if0 _ _).trans (flt q).2.1⟩
theorem own_jgt {x y : Int64} (h : y < x) : ifCond.holds .gt (lcmpW x y) = true ∧ ifCond.holds .le (lcmpW x y) = false := by
  have q := (lw_gt x y).mpr h
  exact ⟨(if0 _ _).trans (tlt q).2.2.1, (if0 _ _).trans (tlt q).2.2.2⟩
theorem own_jngt {x y : Int64} (h : ¬ y < x) : ifCond.holds .gt (lcmpW x y) = false ∧ ifCond.holds .le (lcmpW x y) = true := by
  have q := fun z => h ((lw_gt x y).mp z)
  exact ⟨(if0 _ _).trans (flt q).2.2.1, (if0 _ _).trans (flt q).2.2.2⟩
theorem own_jeq {x y : Int64} (h : x = y) : ifCond.holds .eq (lcmpW x y) = true ∧ ifCond.holds .ne (lcmpW x y) = false := by
  have q := (lw_eq x y).mpr h
  exact ⟨(if0 _ _).trans (teq q).1, (if0 _ _).trans (teq q).2⟩
theorem own_jne {x y : Int64} (h : ¬ x = y) : ifCond.holds .eq (lcmpW x y) = false ∧ ifCond.holds .ne (lcmpW x y) = true := by
  have q := fun z => h ((lw_eq x y).mp z)
  exact ⟨(if0 _ _).trans (feq q).1, (if0 _ _).trans (feq q).2⟩
theorem own_sta_keep {Z : State} {h h' : Heap} {C n d : String} {v : Value} {ws : List Addr} (F : Sta Z h C n d v) (K : Keep h h' ws) (q : ∀ x ∈ ws, ∃ cell : Cell, h[x]? = some cell ∧ cell.vm.isStatics = false) : Sta Z h' C n d v := by
  obtain ⟨cf, i, k, f, st, cell, h1, h2, h3, h4, h5, h6, h7⟩ := F
  refine ⟨cf, i, k, f, st, cell, h1, h2, h3, h4, K.2.1 st cell h5 (fun hm => ?_), h6, h7⟩
  obtain ⟨c', e1, e2⟩ := q st hm
  cases h5.symm.trans e1
  rw [e2] at h6; cases h6
theorem own_exa_ns {Z : State} {h : Heap} {a : Addr} {C : String} (E : Exa Z h a C) : ∃ cell : Cell, h[a]? = some cell ∧ cell.vm.isStatics = false := by
  obtain ⟨cell, k, h1, -, -, h4, -⟩ := E
  exact ⟨cell, h1, h4⟩
theorem own_arv_ns {Z : State} {h : Heap} {a : Addr} {k : ClassId} {ty : FieldType} {z : Int32} {vs : List Value} {dv : Value} (F : Arv Z h a k ty z vs dv) : ∃ cell : Cell, h[a]? = some cell ∧ cell.vm.isStatics = false := by
  obtain ⟨c, A, -⟩ := F
  exact ⟨c, A.1, A.plain⟩
theorem own_seg {tb : Tables} {e : Env} {below : List Frame} {U U' t : State} (a : Steps tb e below U' t → Steps tb e below U t) (b : Steps tb e below U' t) : Steps tb e below U t := a b
theorem own_NSroot {Z : State} {a0 : Array Value} {O K : String} {n : Nat} (w : (Jvm.Cond.noSuperclass O).before a0 Z = true) (wk : (Jvm.Cond.instantiable K n).before a0 Z = true) (hn : O ≠ K) : NS Z O K := by
  obtain ⟨c, k, h1, h2, h3, -, -⟩ := Cond.noSuperclass_spec w
  obtain ⟨t, kt, g1, -⟩ := Cond.instantiable_spec wk
  refine ⟨c, t, h1, g1, fun fuel => ?_⟩
  have ne := ids_ne h1 g1 hn
  cases fuel <;> simp [Vm.isSubclassAux, ne, h2, h3]
theorem own_NSno {Z : State} {a0 : Array Value} {C S K : String} {n : Nat} (w : (Jvm.Cond.superclass C S).before a0 Z = true) (wk : (Jvm.Cond.instantiable K n).before a0 Z = true) (nn : NS Z C K) (hn : C ≠ K) : ∃ c t, Z.vm.findClass C = some c ∧ Z.vm.findClass K = some t ∧ Z.vm.assignable c t = false := by
  obtain ⟨c, t, h0, g0, n3⟩ := nn
  obtain ⟨p, k, kp, h1, h2, h3, h4, h5, -, h7⟩ := Cond.superclass_spec h0 w
  obtain ⟨t', kt, g1, g2, g3, g4, -⟩ := Cond.instantiable_spec wk
  cases g0.symm.trans g1
  have g7 : kt.isInterface = false := by cases q : kt.isInterface <;> simp [q] at g4 ⊢
  have ne := ids_ne h0 g0 hn
  refine ⟨c, t, h0, g0, ?_⟩
  show Z.vm.assignableAux (255 + 1) c t = false
  simp [Vm.assignableAux, ne, h2, g2, h5, g3, g7, Vm.isSubclass, n3]
theorem own_p1 (m : Int32) : 0 < ((((m.toUInt32 >>> ((1 : Int32) &&& 31).toUInt32).toInt32) &&& (7 : Int32)) + (1 : Int32)).toInt := by
  have h1 := c_mask ((m.toUInt32 >>> ((1 : Int32) &&& 31).toUInt32).toInt32) 7 3 (by decide) (by decide)
  have h2 := c_iadd (((m.toUInt32 >>> ((1 : Int32) &&& 31).toUInt32).toInt32) &&& (7 : Int32)) 1
  have h3 := rng32 ((((m.toUInt32 >>> ((1 : Int32) &&& 31).toUInt32).toInt32) &&& (7 : Int32)) + (1 : Int32))
  have h4 : (1 : Int32).toInt = 1 := by decide
  omega
theorem own_p2 (m : Int32) : 0 < (if (1 : Int32) < (m &&& (2147483647 : Int32)) then (m &&& (2147483647 : Int32)) else (1 : Int32)).toInt := by
  split
  · rename_i h; rw [Int32.lt_iff_toInt_lt] at h; have h4 : (1 : Int32).toInt = 1 := by decide
    omega
  · decide
theorem own_q1 (q : Int32) (P : Prop) [Decidable P] : 0 ≤ (if P then (q &&& (2147483647 : Int32)) else (((q.toUInt32 >>> ((1 : Int32) &&& 31).toUInt32).toInt32) &&& (15 : Int32))).toInt := by
  split
  · rw [c_mask q 2147483647 31 (by decide) (by decide)]; omega
  · rw [c_mask _ 15 4 (by decide) (by decide)]; omega
theorem own_pl (p P : Int32) (hP : 0 < P.toInt) : 0 ≤ ((p &&& (2147483647 : Int32)) % P).toInt ∧ ((p &&& (2147483647 : Int32)) % P).toInt < P.toInt := by
  have h1 := c_mask p 2147483647 31 (by decide) (by decide)
  have h2 := (c_irem (p &&& (2147483647 : Int32)) P P.toInt rfl).1 (by omega)
  rw [h2]
  exact ⟨Int.emod_nonneg _ (by omega), Int.emod_lt_of_pos _ hP⟩
theorem own_nz {P : Int32} (hP : 0 < P.toInt) : P ≠ 0 := fun h => by rw [h] at hP; exact absurd hP (by decide)
theorem own_sh (a q P : Int32) (hP : 0 < P.toInt) (hq : 0 ≤ q.toInt) (ha : 0 ≤ a.toInt) (haP : a.toInt < P.toInt) (r : Int32) (hr : r = if a < (q % P) then ((q / P) + (1 : Int32)) else (q / P)) :
    0 ≤ r.toInt ∧ r.toInt * P.toInt ≤ q.toInt - a.toInt + P.toInt - 1 ∧ q.toInt - a.toInt + P.toInt - 1 < r.toInt * P.toInt + P.toInt := by
  have hne : P ≠ -1 := fun h => by rw [h] at hP; exact absurd hP (by decide)
  have h1 := (c_idiv q P P.toInt rfl hne).1 hq
  have h2 := (c_irem q P P.toInt rfl).1 hq
  have h3 := Int.emod_add_mul_ediv q.toInt P.toInt
  have h4 := Int.emod_lt_of_pos q.toInt hP
  have h5 := Int.emod_nonneg q.toInt (show P.toInt ≠ 0 by omega)
  have h6 : 0 ≤ q.toInt / P.toInt := Int.ediv_nonneg hq (by omega)
  have h7 : q.toInt / P.toInt ≤ q.toInt := Int.ediv_le_self _ hq
  have h8 := rng32 q
  rw [Int.mul_comm] at h3
  generalize hd : q.toInt / P.toInt = d at *
  generalize hm : q.toInt % P.toInt = e at *
  subst hr
  split
  · rename_i h
    rw [Int32.lt_iff_toInt_lt, h2] at h
    have h9 := c_iadd (q / P) 1
    have h10 := rng32 (q / P + 1)
    have h11 : (1 : Int32).toInt = 1 := by decide
    have h12 : d + 1 ≤ q.toInt := by
      rcases Int.lt_or_le 0 d with hd | hd
      · have : d * 2 ≤ d * P.toInt := Int.mul_le_mul_of_nonneg_left (by omega) (by omega)
        omega
      · have : d = 0 := by omega
        subst this; omega
    have h13 : (q / P + 1).toInt = d + 1 := by omega
    rw [h13, Int.add_mul]
    omega
  · rename_i h
    rw [Int32.lt_iff_toInt_lt, h2] at h
    rw [h1]
    omega
theorem own_fin (a q P r : Int32) (hP : 0 < P.toInt) (hq : 0 ≤ q.toInt) (ha : 0 ≤ a.toInt) (haP : a.toInt < P.toInt)
   (hr : 0 ≤ r.toInt ∧ r.toInt * P.toInt ≤ q.toInt - a.toInt + P.toInt - 1 ∧ q.toInt - a.toInt + P.toInt - 1 < r.toInt * P.toInt + P.toInt) :
   ¬ (r.toInt64 < (0 : Int64)) ∧ ¬ ((((q.toInt64 - a.toInt64) + P.toInt64) - (1 : Int64)) < (r.toInt64 * P.toInt64)) ∧ ((((q.toInt64 - a.toInt64) + P.toInt64) - (1 : Int64)) < ((r.toInt64 + (1 : Int64)) * P.toInt64)) := by
  simp only [Int64.lt_iff_toInt_lt]
  have e0 : (0 : Int64).toInt = 0 := by decide
  have e1 : (1 : Int64).toInt = 1 := by decide
  have h1 := c_lsub q.toInt64 a.toInt64
  have h2 := c_ladd (q.toInt64 - a.toInt64) P.toInt64
  have h3 := c_lsub (q.toInt64 - a.toInt64 + P.toInt64) 1
  have h4 := c_lmul r.toInt64 P.toInt64
  have h5 := c_ladd r.toInt64 1
  have h6 := c_lmul (r.toInt64 + 1) P.toInt64
  simp only [c_i2l, e0, e1] at *
  have k1 := rng64 (q.toInt64 - a.toInt64)
  have k2 := rng64 (q.toInt64 - a.toInt64 + P.toInt64)
  have k3 := rng64 (q.toInt64 - a.toInt64 + P.toInt64 - 1)
  have k4 := rng64 (r.toInt64 * P.toInt64)
  have k5 := rng64 (r.toInt64 + 1)
  have k6 := rng64 ((r.toInt64 + 1) * P.toInt64)
  have r1 := rng32 q
  have r2 := rng32 a
  have r3 := rng32 P
  have r4 := rng32 r
  have h7 : (r.toInt64 + 1).toInt = r.toInt + 1 := by omega
  rw [h7, Int.add_mul] at h6
  have h8 : 0 ≤ r.toInt * P.toInt := Int.mul_nonneg hr.1 (by omega)
  generalize r.toInt * P.toInt = rp at *
  omega

def Qmax (Z : State) (x1 x2 : Int32) (h0 : Heap) (n0 : Nat) (v : Option Value) (h : Heap) (L : List Loc) : Prop := v = some (.int (if x1 < x2 then x2 else x1)) ∧ Fr n0 L ∧ h = h0
theorem d_jdk_29_method_65_0 : decode jdk_29_method_65_code 0 = .ok (.iload_n 0, 1) := by decide +kernel
theorem d_jdk_29_method_65_1 : decode jdk_29_method_65_code 1 = .ok (.iload_n 1, 1) := by decide +kernel
theorem d_jdk_29_method_65_2 : decode jdk_29_method_65_code 2 = .ok (.if_icmp .lt 7, 3) := by decide +kernel
theorem d_jdk_29_method_65_9 : decode jdk_29_method_65_code 9 = .ok (.iload_n 1, 1) := by decide +kernel
theorem d_jdk_29_method_65_10 : decode jdk_29_method_65_code 10 = .ok (.ireturn, 1) := by decide +kernel
theorem d_jdk_29_method_65_5 : decode jdk_29_method_65_code 5 = .ok (.iload_n 0, 1) := by decide +kernel
theorem d_jdk_29_method_65_6 : decode jdk_29_method_65_code 6 = .ok (.goto 4, 3) := by decide +kernel
theorem ef_rm_Qmax (m : MethodId) (x0 : Int32) (x1 : Int32) : entryFrame m #[(.int x0), (.int x1)] 2 = mkF m 0 #[.val (.int x0), .val (.int x1)] [] := by first | (simp [entryFrame, mkF, argsToLocals, Value.category]; done) | rfl
set_option maxRecDepth 65536 in
set_option maxHeartbeats 40000000 in
theorem rm_Qmax (l : Launch) (Z : State) (a0 : Array Value) (hw : ∀ d ∈ tables_1, d.before a0 Z = true) (ws : List Jvm.Cond) (x1 x2 : Int32) (h0 : Heap) (n0 : Nat) (Z0 : n0 ≤ h0.size) :
    MetFree l (⟨"java/lang/Math", "max", "(II)I"⟩ : MethodName) (head1 (Jvm.Cond.code (⟨"java/lang/Math", "max", "(II)I"⟩ : MethodName) jdk_29_method_65_code 2 (some .int) :: ws) ({ frames := 0, cells := 0, slots := 0, locals := 0 } : Room)) (fun aa_ UU_ => aa_ = #[(.int x1), (.int x2)] ∧ Z.Warmed39 UU_.vm ∧ UU_.heap = h0) (fun _ _ _ _ _ => True) (fun _ UU_ oo_ VV_ => ∃ vv_ LL_, oo_ = .returned vv_ ∧ Qmax Z x1 x2 h0 n0 vv_ VV_.heap LL_ ∧ FrameEnd UU_ oo_ VV_ LL_ ({ frames := 0, cells := 0, slots := 0, locals := 0 } : Room).cells ({ frames := 0, cells := 0, slots := 0, locals := 0 } : Room).slots) := by
  refine MetFree.of_bodySF (Jvm.Free.JP.mathPlain rfl (by decide +kernel)) hisR ?_
  intro p e s m args below meth c s₁ Bd hml0 hP hK
  obtain ⟨rfl, hZ, hh⟩ := hP
  have hx := Bd.exec
  have hby := Bd.bytes
  have hml : c.maxLocals = 2 := hml0
  have hown : s.vm.findClass "java/lang/Math" = some m.cls := findClass_of_methodNamed Bd.named
  have hnm := (name_of_methodNamed Bd.named Bd.method).1
  have hlk : meth.locks = false := Bd.notSynchronized
  have X0 : Stand p l e ({ frames := 0, cells := 0, slots := 0, locals := 0 } : Room) s m #[(.int x1), (.int x2)] below meth c s₁ [] 0 0 := Stand.of_body Bd
  have e0 : s₁.heap = h0 := by rw [← hh, Bd.state]; rfl
  have N0 := Fr.nil n0
  have K0 := Keep.refl h0 []
  show own_G p e below s (Qmax Z x1 x2 h0 n0) _ _ (s₁.setTop (entryFrame m #[(.int x1), (.int x2)] 2))
  rw [ef_rm_Qmax m x1 x2]
  refine own_via (U' := s₁.setTop (mkF m 1 #[.val (.int x1), .val (.int x2)] [(.int x1)])) (fun t k => XS.iloadN X0.here hx rfl (hb hby d_jdk_29_method_65_0) rfl k) ?_
  refine own_via (U' := s₁.setTop (mkF m 2 #[.val (.int x1), .val (.int x2)] [(.int x2), (.int x1)])) (fun t k => XS.iloadN X0.here hx rfl (hb hby d_jdk_29_method_65_1) rfl k) ?_
  by_cases hc1 : x1 < x2
  case pos =>
    refine own_via (U' := s₁.setTop (mkF m 9 #[.val (.int x1), .val (.int x2)] [])) (fun t k => XS.icmpYes X0.here hx rfl (pc0 := 2) (pc' := 9) rfl (hb hby d_jdk_29_method_65_2) rfl (tlt hc1).1 (by decide) (by decide) k) ?_
    refine own_via (U' := s₁.setTop (mkF m 10 #[.val (.int x1), .val (.int x2)] [(.int x2)])) (fun t k => XS.iloadN X0.here hx rfl (hb hby d_jdk_29_method_65_9) rfl k) ?_
    exact own_ret X0 (v := some (.int x2)) (fun h => by rw [Bd.returns] at h; cases h) hlk (fun fs hr => retOut X0 hx (t := .int) Bd.returns rfl (Or.inl ⟨rfl, Or.inl rfl, _, rfl⟩) (hb hby d_jdk_29_method_65_10) hr) (by rw [e0]; exact ⟨by first | rfl | (simp only [if_pos hc1]), N0, rfl⟩) (by decide) (by decide)
  case neg =>
    refine own_via (U' := s₁.setTop (mkF m 5 #[.val (.int x1), .val (.int x2)] [])) (fun t k => XS.icmpNo X0.here hx rfl (hb hby d_jdk_29_method_65_2) rfl (flt hc1).1 k) ?_
    refine own_via (U' := s₁.setTop (mkF m 6 #[.val (.int x1), .val (.int x2)] [(.int x1)])) (fun t k => XS.iloadN X0.here hx rfl (hb hby d_jdk_29_method_65_5) rfl k) ?_
    refine own_via (U' := s₁.setTop (mkF m 10 #[.val (.int x1), .val (.int x2)] [(.int x1)])) (fun t k => XS.goto X0.here hx rfl (pc0 := 6) (pc' := 10) rfl (hb hby d_jdk_29_method_65_6) (by decide) (by decide) k) ?_
    exact own_ret X0 (v := some (.int x1)) (fun h => by rw [Bd.returns] at h; cases h) hlk (fun fs hr => retOut X0 hx (t := .int) Bd.returns rfl (Or.inl ⟨rfl, Or.inl rfl, _, rfl⟩) (hb hby d_jdk_29_method_65_10) hr) (by rw [e0]; exact ⟨by first | rfl | (simp only [if_neg hc1]), N0, rfl⟩) (by decide) (by decide)
def Qsh (Z : State) (x1 x2 x3 : Int32) (h0 : Heap) (n0 : Nat) (v : Option Value) (h : Heap) (L : List Loc) : Prop := v = some (.int (if x1 < (x2 % x3) then ((x2 / x3) + (1 : Int32)) else (x2 / x3))) ∧ Fr n0 L ∧ h = h0
theorem d_prog_19_method_2_0 : decode prog_19_method_2_code 0 = .ok (.iload_n 1, 1) := by decide +kernel
theorem d_prog_19_method_2_1 : decode prog_19_method_2_code 1 = .ok (.iload_n 2, 1) := by decide +kernel
theorem d_prog_19_method_2_2 : decode prog_19_method_2_code 2 = .ok (.idiv, 1) := by decide +kernel
theorem d_prog_19_method_2_3 : decode prog_19_method_2_code 3 = .ok (.istore_n 3, 1) := by decide +kernel
theorem d_prog_19_method_2_4 : decode prog_19_method_2_code 4 = .ok (.iload_n 0, 1) := by decide +kernel
theorem d_prog_19_method_2_5 : decode prog_19_method_2_code 5 = .ok (.iload_n 1, 1) := by decide +kernel
theorem d_prog_19_method_2_6 : decode prog_19_method_2_code 6 = .ok (.iload_n 2, 1) := by decide +kernel
theorem d_prog_19_method_2_7 : decode prog_19_method_2_code 7 = .ok (.irem, 1) := by decide +kernel
theorem d_prog_19_method_2_8 : decode prog_19_method_2_code 8 = .ok (.if_icmp .ge 9, 3) := by decide +kernel
theorem d_prog_19_method_2_11 : decode prog_19_method_2_code 11 = .ok (.iload_n 3, 1) := by decide +kernel
theorem d_prog_19_method_2_12 : decode prog_19_method_2_code 12 = .ok (.iconst 1, 1) := by decide +kernel
theorem d_prog_19_method_2_13 : decode prog_19_method_2_code 13 = .ok (.iadd, 1) := by decide +kernel
theorem d_prog_19_method_2_14 : decode prog_19_method_2_code 14 = .ok (.goto 4, 3) := by decide +kernel
theorem d_prog_19_method_2_18 : decode prog_19_method_2_code 18 = .ok (.ireturn, 1) := by decide +kernel
theorem d_prog_19_method_2_17 : decode prog_19_method_2_code 17 = .ok (.iload_n 3, 1) := by decide +kernel
theorem ef_rm_Qsh (m : MethodId) (x0 : Int32) (x1 : Int32) (x2 : Int32) : entryFrame m #[(.int x0), (.int x1), (.int x2)] 4 = mkF m 0 #[.val (.int x0), .val (.int x1), .val (.int x2), .unset] [] := by first | (simp [entryFrame, mkF, argsToLocals, Value.category]; done) | rfl
theorem pn_com_example_assignor_assignor_core_EvenSplit : plainName "com/example/assignor/assignor/core/EvenSplit" = true := by first | (simp [plainName, overriddenIn]; done) | decide +kernel
set_option maxRecDepth 65536 in
set_option maxHeartbeats 40000000 in
theorem rm_Qsh (l : Launch) (Z : State) (a0 : Array Value) (hw : ∀ d ∈ tables_1, d.before a0 Z = true) (ws : List Jvm.Cond) (x1 x2 x3 : Int32) (h0 : Heap) (n0 : Nat) (Z0 : n0 ≤ h0.size) (hnz : x3 ≠ 0) :
    MetFree l (⟨"com/example/assignor/assignor/core/EvenSplit", "share", "(III)I"⟩ : MethodName) (head1 (Jvm.Cond.code (⟨"com/example/assignor/assignor/core/EvenSplit", "share", "(III)I"⟩ : MethodName) prog_19_method_2_code 4 (some .int) :: ws) ({ frames := 0, cells := 0, slots := 0, locals := 0 } : Room)) (fun aa_ UU_ => aa_ = #[(.int x1), (.int x2), (.int x3)] ∧ Z.Warmed39 UU_.vm ∧ UU_.heap = h0) (fun _ _ _ _ _ => True) (fun _ UU_ oo_ VV_ => ∃ vv_ LL_, oo_ = .returned vv_ ∧ Qsh Z x1 x2 x3 h0 n0 vv_ VV_.heap LL_ ∧ FrameEnd UU_ oo_ VV_ LL_ ({ frames := 0, cells := 0, slots := 0, locals := 0 } : Room).cells ({ frames := 0, cells := 0, slots := 0, locals := 0 } : Room).slots) := by
  refine MetFree.of_bodySF (plainFor_of_name pn_com_example_assignor_assignor_core_EvenSplit) hisR ?_
  intro p e s m args below meth c s₁ Bd hml0 hP hK
  obtain ⟨rfl, hZ, hh⟩ := hP
  have hx := Bd.exec
  have hby := Bd.bytes
  have hml : c.maxLocals = 4 := hml0
  have hown : s.vm.findClass "com/example/assignor/assignor/core/EvenSplit" = some m.cls := findClass_of_methodNamed Bd.named
  have hnm := (name_of_methodNamed Bd.named Bd.method).1
  have hlk : meth.locks = false := Bd.notSynchronized
  have X0 : Stand p l e ({ frames := 0, cells := 0, slots := 0, locals := 0 } : Room) s m #[(.int x1), (.int x2), (.int x3)] below meth c s₁ [] 0 0 := Stand.of_body Bd
  have e0 : s₁.heap = h0 := by rw [← hh, Bd.state]; rfl
  have N0 := Fr.nil n0
  have K0 := Keep.refl h0 []
  show own_G p e below s (Qsh Z x1 x2 x3 h0 n0) _ _ (s₁.setTop (entryFrame m #[(.int x1), (.int x2), (.int x3)] 4))
  rw [ef_rm_Qsh m x1 x2 x3]
  refine own_via (U' := s₁.setTop (mkF m 1 #[.val (.int x1), .val (.int x2), .val (.int x3), .unset] [(.int x2)])) (fun t k => XS.iloadN X0.here hx rfl (hb hby d_prog_19_method_2_0) rfl k) ?_
  refine own_via (U' := s₁.setTop (mkF m 2 #[.val (.int x1), .val (.int x2), .val (.int x3), .unset] [(.int x3), (.int x2)])) (fun t k => XS.iloadN X0.here hx rfl (hb hby d_prog_19_method_2_1) rfl k) ?_
  refine own_via (U' := s₁.setTop (mkF m 3 #[.val (.int x1), .val (.int x2), .val (.int x3), .unset] [(.int (x2 / x3))])) (fun t k => XS.idiv X0.here hx rfl (hb hby d_prog_19_method_2_2) rfl hnz k) ?_
  refine own_via (U' := s₁.setTop (mkF m 4 #[.val (.int x1), .val (.int x2), .val (.int x3), .val (.int (x2 / x3))] [])) (fun t k => XS.istoreN X0.here hx rfl (hb hby d_prog_19_method_2_3) rfl (l' := #[.val (.int x1), .val (.int x2), .val (.int x3), .val (.int (x2 / x3))]) rfl k) ?_
  refine own_via (U' := s₁.setTop (mkF m 5 #[.val (.int x1), .val (.int x2), .val (.int x3), .val (.int (x2 / x3))] [(.int x1)])) (fun t k => XS.iloadN X0.here hx rfl (hb hby d_prog_19_method_2_4) rfl k) ?_
  refine own_via (U' := s₁.setTop (mkF m 6 #[.val (.int x1), .val (.int x2), .val (.int x3), .val (.int (x2 / x3))] [(.int x2), (.int x1)])) (fun t k => XS.iloadN X0.here hx rfl (hb hby d_prog_19_method_2_5) rfl k) ?_
  refine own_via (U' := s₁.setTop (mkF m 7 #[.val (.int x1), .val (.int x2), .val (.int x3), .val (.int (x2 / x3))] [(.int x3), (.int x2), (.int x1)])) (fun t k => XS.iloadN X0.here hx rfl (hb hby d_prog_19_method_2_6) rfl k) ?_
  refine own_via (U' := s₁.setTop (mkF m 8 #[.val (.int x1), .val (.int x2), .val (.int x3), .val (.int (x2 / x3))] [(.int (x2 % x3)), (.int x1)])) (fun t k => iremM X0 hx rfl (hb hby d_prog_19_method_2_7) rfl hnz k) ?_
  by_cases hc1 : x1 < (x2 % x3)
  case pos =>
    refine own_via (U' := s₁.setTop (mkF m 11 #[.val (.int x1), .val (.int x2), .val (.int x3), .val (.int (x2 / x3))] [])) (fun t k => XS.icmpNo X0.here hx rfl (hb hby d_prog_19_method_2_8) rfl (tlt hc1).2.1 k) ?_
    refine own_via (U' := s₁.setTop (mkF m 12 #[.val (.int x1), .val (.int x2), .val (.int x3), .val (.int (x2 / x3))] [(.int (x2 / x3))])) (fun t k => XS.iloadN X0.here hx rfl (hb hby d_prog_19_method_2_11) rfl k) ?_
    refine own_via (U' := s₁.setTop (mkF m 13 #[.val (.int x1), .val (.int x2), .val (.int x3), .val (.int (x2 / x3))] [(.int (1 : Int32)), (.int (x2 / x3))])) (fun t k => XS.iconst X0.here hx rfl (hb hby d_prog_19_method_2_12) k) ?_
    refine own_via (U' := s₁.setTop (mkF m 14 #[.val (.int x1), .val (.int x2), .val (.int x3), .val (.int (x2 / x3))] [(.int ((x2 / x3) + (1 : Int32)))])) (fun t k => XS.iadd X0.here hx rfl (hb hby d_prog_19_method_2_13) rfl k) ?_
    refine own_via (U' := s₁.setTop (mkF m 18 #[.val (.int x1), .val (.int x2), .val (.int x3), .val (.int (x2 / x3))] [(.int ((x2 / x3) + (1 : Int32)))])) (fun t k => XS.goto X0.here hx rfl (pc0 := 14) (pc' := 18) rfl (hb hby d_prog_19_method_2_14) (by decide) (by decide) k) ?_
    exact own_ret X0 (v := some (.int ((x2 / x3) + (1 : Int32)))) (fun h => by rw [Bd.returns] at h; cases h) hlk (fun fs hr => retOut X0 hx (t := .int) Bd.returns rfl (Or.inl ⟨rfl, Or.inl rfl, _, rfl⟩) (hb hby d_prog_19_method_2_18) hr) (by rw [e0]; exact ⟨by first | rfl | (simp only [if_pos hc1]), N0, rfl⟩) (by decide) (by decide)
  case neg =>
    refine own_via (U' := s₁.setTop (mkF m 17 #[.val (.int x1), .val (.int x2), .val (.int x3), .val (.int (x2 / x3))] [])) (fun t k => XS.icmpYes X0.here hx rfl (pc0 := 8) (pc' := 17) rfl (hb hby d_prog_19_method_2_8) rfl (flt hc1).2.1 (by decide) (by decide) k) ?_
    refine own_via (U' := s₁.setTop (mkF m 18 #[.val (.int x1), .val (.int x2), .val (.int x3), .val (.int (x2 / x3))] [(.int (x2 / x3))])) (fun t k => XS.iloadN X0.here hx rfl (hb hby d_prog_19_method_2_17) rfl k) ?_
    exact own_ret X0 (v := some (.int (x2 / x3))) (fun h => by rw [Bd.returns] at h; cases h) hlk (fun fs hr => retOut X0 hx (t := .int) Bd.returns rfl (Or.inl ⟨rfl, Or.inl rfl, _, rfl⟩) (hb hby d_prog_19_method_2_18) hr) (by rw [e0]; exact ⟨by first | rfl | (simp only [if_neg hc1]), N0, rfl⟩) (by decide) (by decide)
def Q0 (Z : State) (x1 x2 x3 : Int32) (h0 : Heap) (n0 : Nat) (v : Option Value) (h : Heap) (L : List Loc) : Prop := v = some (.int 1) ∧ Fr n0 L
theorem pd_II__I : parseMethodDescriptor "(II)I" = some ⟨[.int, .int], some .int⟩ := by decide +kernel
theorem pd_III__I : parseMethodDescriptor "(III)I" = some ⟨[.int, .int, .int], some .int⟩ := by decide +kernel
theorem ef_rm_Q0 (m : MethodId) (x0 : Int32) (x1 : Int32) (x2 : Int32) : entryFrame m #[(.int x0), (.int x1), (.int x2)] maxLocals = mkF m 0 #[.val (.int x0), .val (.int x1), .val (.int x2), .unset, .unset, .unset, .unset, .unset, .unset, .unset, .unset, .unset, .unset] [] := by first | (simp [entryFrame, mkF, argsToLocals, Value.category, maxLocals]; done) | rfl
theorem pn_com_example_assignor_assignor_core_EvenSplitSharePinLaw : plainName "com/example/assignor/assignor/core/EvenSplitSharePinLaw" = true := by first | (simp [plainName, overriddenIn]; done) | decide +kernel
set_option maxRecDepth 65536 in
set_option maxHeartbeats 40000000 in
theorem rm_Q0 (l : Launch) (Z : State) (a0 : Array Value) (hw : ∀ d ∈ tables_1, d.before a0 Z = true) (ws : List Jvm.Cond) (x1 x2 x3 : Int32) (h0 : Heap) (n0 : Nat) (Z0 : n0 ≤ h0.size) :
    MetFree l x (head1 (Jvm.Cond.code x code maxLocals ret :: ws) room_1) (fun aa_ UU_ => aa_ = #[(.int x1), (.int x2), (.int x3)] ∧ Z.Warmed39 UU_.vm ∧ UU_.heap = h0) (fun _ _ _ _ _ => True) (fun _ UU_ oo_ VV_ => ∃ vv_ LL_, oo_ = .returned vv_ ∧ Q0 Z x1 x2 x3 h0 n0 vv_ VV_.heap LL_ ∧ FrameEnd UU_ oo_ VV_ LL_ room_1.cells room_1.slots) := by
  refine MetFree.of_bodySF (plainFor_of_name pn_com_example_assignor_assignor_core_EvenSplitSharePinLaw) hisR ?_
  intro p e s m args below meth c s₁ Bd hml0 hP hK
  obtain ⟨rfl, hZ, hh⟩ := hP
  have hx := Bd.exec
  have hby := Bd.bytes
  have hml : c.maxLocals = 13 := hml0
  have hown : s.vm.findClass "com/example/assignor/assignor/core/EvenSplitSharePinLaw" = some m.cls := findClass_of_methodNamed Bd.named
  have hnm := (name_of_methodNamed Bd.named Bd.method).1
  have hlk : meth.locks = false := Bd.notSynchronized
  have X0 : Stand p l e room_1 s m #[(.int x1), (.int x2), (.int x3)] below meth c s₁ [] 0 0 := Stand.of_body Bd
  have e0 : s₁.heap = h0 := by rw [← hh, Bd.state]; rfl
  have N0 := Fr.nil n0
  have K0 := Keep.refl h0 []
  show own_G p e below s (Q0 Z x1 x2 x3 h0 n0) _ _ (s₁.setTop (entryFrame m #[(.int x1), (.int x2), (.int x3)] maxLocals))
  rw [ef_rm_Q0 m x1 x2 x3]
  refine own_via (U' := s₁.setTop (mkF m 1 #[.val (.int x1), .val (.int x2), .val (.int x3), .unset, .unset, .unset, .unset, .unset, .unset, .unset, .unset, .unset, .unset] [(.int x3)])) (fun t k => XS.iloadN X0.here hx rfl (hb hby at_0) rfl k) ?_
  refine own_via (U' := s₁.setTop (mkF m 2 #[.val (.int x1), .val (.int x2), .val (.int x3), .unset, .unset, .unset, .unset, .unset, .unset, .unset, .unset, .unset, .unset] [(.int (1 : Int32)), (.int x3)])) (fun t k => XS.iconst X0.here hx rfl (hb hby at_1) k) ?_
  refine own_via (U' := s₁.setTop (mkF m 3 #[.val (.int x1), .val (.int x2), .val (.int x3), .unset, .unset, .unset, .unset, .unset, .unset, .unset, .unset, .unset, .unset] [(.int (x3 &&& (1 : Int32)))])) (fun t k => XS.iand X0.here hx rfl (hb hby at_2) rfl k) ?_
  by_cases hc1 : (x3 &&& (1 : Int32)) = (0 : Int32)
  case pos =>
    refine own_via (U' := s₁.setTop (mkF m 18 #[.val (.int x1), .val (.int x2), .val (.int x3), .unset, .unset, .unset, .unset, .unset, .unset, .unset, .unset, .unset, .unset] [])) (fun t k => XS.ifYes X0.here hx rfl (pc0 := 3) (pc' := 18) rfl (hb hby at_3) rfl ((if0 _ _).trans (teq hc1).1) (by decide) (by decide) k) ?_
    refine own_via (U' := s₁.setTop (mkF m 19 #[.val (.int x1), .val (.int x2), .val (.int x3), .unset, .unset, .unset, .unset, .unset, .unset, .unset, .unset, .unset, .unset] [(.int (1 : Int32))])) (fun t k => XS.iconst X0.here hx rfl (hb hby at_18) k) ?_
    refine own_via (U' := s₁.setTop (mkF m 20 #[.val (.int x1), .val (.int x2), .val (.int x3), .unset, .unset, .unset, .unset, .unset, .unset, .unset, .unset, .unset, .unset] [(.int x3), (.int (1 : Int32))])) (fun t k => XS.iloadN X0.here hx rfl (hb hby at_19) rfl k) ?_
    refine own_via (U' := s₁.setTop (mkF m 22 #[.val (.int x1), .val (.int x2), .val (.int x3), .unset, .unset, .unset, .unset, .unset, .unset, .unset, .unset, .unset, .unset] [(.int (2147483647 : Int32)), (.int x3), (.int (1 : Int32))])) (fun t k => X0.ldcInt hx hown (mvT hZ (hw _ (List.mem_of_getElem? (i := 0) rfl))) (g := (mkF m 20 #[.val (.int x1), .val (.int x2), .val (.int x3), .unset, .unset, .unset, .unset, .unset, .unset, .unset, .unset, .unset, .unset] [(.int x3), (.int (1 : Int32))])) rfl (hb hby at_20) _ k) ?_
    refine own_via (U' := s₁.setTop (mkF m 23 #[.val (.int x1), .val (.int x2), .val (.int x3), .unset, .unset, .unset, .unset, .unset, .unset, .unset, .unset, .unset, .unset] [(.int (x3 &&& (2147483647 : Int32))), (.int (1 : Int32))])) (fun t k => XS.iand X0.here hx rfl (hb hby at_22) rfl k) ?_
    obtain ⟨_, T2, L2, X2, hQ2, st2⟩ := own_callS X0 hx hZ (y := (⟨"java/lang/Math", "max", "(II)I"⟩ : MethodName)) (W := 0) hown (hw _ (List.mem_of_getElem? (i := 1) rfl)) (hw _ (List.mem_of_getElem? (i := 2) rfl)) (hw _ (List.mem_of_getElem? (i := 3) rfl)) (hw _ (List.mem_of_getElem? (i := 4) rfl)) (by decide) (rm_Qmax l Z a0 hw [] (1 : Int32) (x3 &&& (2147483647 : Int32)) h0 n0 Z0) (by decide) (by decide) e0 (g := (mkF m 23 #[.val (.int x1), .val (.int x2), .val (.int x3), .unset, .unset, .unset, .unset, .unset, .unset, .unset, .unset, .unset, .unset] [(.int (x3 &&& (2147483647 : Int32))), (.int (1 : Int32))])) rfl (by rw [hml]; rfl) (argsL := [(.int (1 : Int32)), (.int (x3 &&& (2147483647 : Int32)))]) (rest := []) rfl (lenOf pd_II__I rfl) rfl (by show 2 * 0 + _ ≤ _; exact Nat.le_of_eq rfl) (hb hby at_23) (by decide) (by decide)
    obtain ⟨rfl, N2q, e2⟩ := hQ2
    have N2 := Fr.app N0 N2q
    refine own_via (U' := T2.setTop (mkF m 26 #[.val (.int x1), .val (.int x2), .val (.int x3), .unset, .unset, .unset, .unset, .unset, .unset, .unset, .unset, .unset, .unset] [(.int (if (1 : Int32) < (x3 &&& (2147483647 : Int32)) then (x3 &&& (2147483647 : Int32)) else (1 : Int32)))])) (fun t k => st2 t k) ?_
    refine own_via (U' := T2.setTop (mkF m 27 #[.val (.int x1), .val (.int x2), .val (.int x3), .val (.int (if (1 : Int32) < (x3 &&& (2147483647 : Int32)) then (x3 &&& (2147483647 : Int32)) else (1 : Int32))), .unset, .unset, .unset, .unset, .unset, .unset, .unset, .unset, .unset] [])) (fun t k => XS.istoreN X2.here hx rfl (hb hby at_26) rfl (l' := #[.val (.int x1), .val (.int x2), .val (.int x3), .val (.int (if (1 : Int32) < (x3 &&& (2147483647 : Int32)) then (x3 &&& (2147483647 : Int32)) else (1 : Int32))), .unset, .unset, .unset, .unset, .unset, .unset, .unset, .unset, .unset]) rfl k) ?_
    have hP : 0 < (if (1 : Int32) < (x3 &&& (2147483647 : Int32)) then (x3 &&& (2147483647 : Int32)) else (1 : Int32)).toInt := (own_p2 _)
    generalize (if (1 : Int32) < (x3 &&& (2147483647 : Int32)) then (x3 &&& (2147483647 : Int32)) else (1 : Int32)) = P at hP ⊢
    refine own_via (U' := T2.setTop (mkF m 28 #[.val (.int x1), .val (.int x2), .val (.int x3), .val (.int P), .unset, .unset, .unset, .unset, .unset, .unset, .unset, .unset, .unset] [(.int x2)])) (fun t k => XS.iloadN X2.here hx rfl (hb hby at_27) rfl k) ?_
    refine own_via (U' := T2.setTop (mkF m 29 #[.val (.int x1), .val (.int x2), .val (.int x3), .val (.int P), .unset, .unset, .unset, .unset, .unset, .unset, .unset, .unset, .unset] [(.int (1 : Int32)), (.int x2)])) (fun t k => XS.iconst X2.here hx rfl (hb hby at_28) k) ?_
    refine own_via (U' := T2.setTop (mkF m 30 #[.val (.int x1), .val (.int x2), .val (.int x3), .val (.int P), .unset, .unset, .unset, .unset, .unset, .unset, .unset, .unset, .unset] [(.int (x2 &&& (1 : Int32)))])) (fun t k => XS.iand X2.here hx rfl (hb hby at_29) rfl k) ?_
    refine own_via (U' := T2.setTop (mkF m 50 #[.val (.int x1), .val (.int x2), .val (.int x3), .val (.int P), .val (.int (if (x2 &&& (1 : Int32)) = (0 : Int32) then (x2 &&& (2147483647 : Int32)) else (((x2.toUInt32 >>> ((1 : Int32) &&& 31).toUInt32).toInt32) &&& (15 : Int32)))), .unset, .unset, .unset, .unset, .unset, .unset, .unset, .unset] [])) (fun t k => ?_) ?_
    · by_cases hc3 : (x2 &&& (1 : Int32)) = (0 : Int32)
      case pos =>
        simp only [if_pos hc3] at k
        refine XS.ifYes X2.here hx rfl (pc0 := 30) (pc' := 44) rfl (hb hby at_30) rfl ((if0 _ _).trans (teq hc3).1) (by decide) (by decide) ?_
        show Steps p.tables e below (T2.setTop (mkF m 44 #[.val (.int x1), .val (.int x2), .val (.int x3), .val (.int P), .unset, .unset, .unset, .unset, .unset, .unset, .unset, .unset, .unset] [])) _
        refine XS.iloadN X2.here hx rfl (hb hby at_44) rfl ?_
        show Steps p.tables e below (T2.setTop (mkF m 45 #[.val (.int x1), .val (.int x2), .val (.int x3), .val (.int P), .unset, .unset, .unset, .unset, .unset, .unset, .unset, .unset, .unset] [(.int x2)])) _
        refine X2.ldcInt hx hown (mvT hZ (hw _ (List.mem_of_getElem? (i := 0) rfl))) (g := (mkF m 45 #[.val (.int x1), .val (.int x2), .val (.int x3), .val (.int P), .unset, .unset, .unset, .unset, .unset, .unset, .unset, .unset, .unset] [(.int x2)])) rfl (hb hby at_45) _ ?_
        show Steps p.tables e below (T2.setTop (mkF m 47 #[.val (.int x1), .val (.int x2), .val (.int x3), .val (.int P), .unset, .unset, .unset, .unset, .unset, .unset, .unset, .unset, .unset] [(.int (2147483647 : Int32)), (.int x2)])) _
        refine XS.iand X2.here hx rfl (hb hby at_47) rfl ?_
        show Steps p.tables e below (T2.setTop (mkF m 48 #[.val (.int x1), .val (.int x2), .val (.int x3), .val (.int P), .unset, .unset, .unset, .unset, .unset, .unset, .unset, .unset, .unset] [(.int (x2 &&& (2147483647 : Int32)))])) _
        refine XS.istore X2.here hx rfl (hb hby at_48) rfl (l' := #[.val (.int x1), .val (.int x2), .val (.int x3), .val (.int P), .val (.int (x2 &&& (2147483647 : Int32))), .unset, .unset, .unset, .unset, .unset, .unset, .unset, .unset]) rfl ?_
        show Steps p.tables e below (T2.setTop (mkF m 50 #[.val (.int x1), .val (.int x2), .val (.int x3), .val (.int P), .val (.int (x2 &&& (2147483647 : Int32))), .unset, .unset, .unset, .unset, .unset, .unset, .unset, .unset] [])) _
        exact k
      case neg =>
        simp only [if_neg hc3] at k
        refine XS.ifNo X2.here hx rfl (hb hby at_30) rfl ((if0 _ _).trans (feq hc3).1) ?_
        show Steps p.tables e below (T2.setTop (mkF m 33 #[.val (.int x1), .val (.int x2), .val (.int x3), .val (.int P), .unset, .unset, .unset, .unset, .unset, .unset, .unset, .unset, .unset] [])) _
        refine XS.iloadN X2.here hx rfl (hb hby at_33) rfl ?_
        show Steps p.tables e below (T2.setTop (mkF m 34 #[.val (.int x1), .val (.int x2), .val (.int x3), .val (.int P), .unset, .unset, .unset, .unset, .unset, .unset, .unset, .unset, .unset] [(.int x2)])) _
        refine XS.iconst X2.here hx rfl (hb hby at_34) ?_
        show Steps p.tables e below (T2.setTop (mkF m 35 #[.val (.int x1), .val (.int x2), .val (.int x3), .val (.int P), .unset, .unset, .unset, .unset, .unset, .unset, .unset, .unset, .unset] [(.int (1 : Int32)), (.int x2)])) _
        refine XS.iushr X2.here hx rfl (hb hby at_35) rfl ?_
        show Steps p.tables e below (T2.setTop (mkF m 36 #[.val (.int x1), .val (.int x2), .val (.int x3), .val (.int P), .unset, .unset, .unset, .unset, .unset, .unset, .unset, .unset, .unset] [(.int ((x2.toUInt32 >>> ((1 : Int32) &&& 31).toUInt32).toInt32))])) _
        refine XS.bipush X2.here hx rfl (hb hby at_36) ?_
        show Steps p.tables e below (T2.setTop (mkF m 38 #[.val (.int x1), .val (.int x2), .val (.int x3), .val (.int P), .unset, .unset, .unset, .unset, .unset, .unset, .unset, .unset, .unset] [(.int (15 : Int32)), (.int ((x2.toUInt32 >>> ((1 : Int32) &&& 31).toUInt32).toInt32))])) _
        refine XS.iand X2.here hx rfl (hb hby at_38) rfl ?_
        show Steps p.tables e below (T2.setTop (mkF m 39 #[.val (.int x1), .val (.int x2), .val (.int x3), .val (.int P), .unset, .unset, .unset, .unset, .unset, .unset, .unset, .unset, .unset] [(.int (((x2.toUInt32 >>> ((1 : Int32) &&& 31).toUInt32).toInt32) &&& (15 : Int32)))])) _
        refine XS.istore X2.here hx rfl (hb hby at_39) rfl (l' := #[.val (.int x1), .val (.int x2), .val (.int x3), .val (.int P), .val (.int (((x2.toUInt32 >>> ((1 : Int32) &&& 31).toUInt32).toInt32) &&& (15 : Int32))), .unset, .unset, .unset, .unset, .unset, .unset, .unset, .unset]) rfl ?_
        show Steps p.tables e below (T2.setTop (mkF m 41 #[.val (.int x1), .val (.int x2), .val (.int x3), .val (.int P), .val (.int (((x2.toUInt32 >>> ((1 : Int32) &&& 31).toUInt32).toInt32) &&& (15 : Int32))), .unset, .unset, .unset, .unset, .unset, .unset, .unset, .unset] [])) _
        refine XS.goto X2.here hx rfl (pc0 := 41) (pc' := 50) rfl (hb hby at_41) (by decide) (by decide) ?_
        show Steps p.tables e below (T2.setTop (mkF m 50 #[.val (.int x1), .val (.int x2), .val (.int x3), .val (.int P), .val (.int (((x2.toUInt32 >>> ((1 : Int32) &&& 31).toUInt32).toInt32) &&& (15 : Int32))), .unset, .unset, .unset, .unset, .unset, .unset, .unset, .unset] [])) _
        exact k
    have hq : 0 ≤ (if (x2 &&& (1 : Int32)) = (0 : Int32) then (x2 &&& (2147483647 : Int32)) else (((x2.toUInt32 >>> ((1 : Int32) &&& 31).toUInt32).toInt32) &&& (15 : Int32))).toInt := own_q1 _ _
    generalize (if (x2 &&& (1 : Int32)) = (0 : Int32) then (x2 &&& (2147483647 : Int32)) else (((x2.toUInt32 >>> ((1 : Int32) &&& 31).toUInt32).toInt32) &&& (15 : Int32))) = q at hq ⊢
    refine own_via (U' := T2.setTop (mkF m 51 #[.val (.int x1), .val (.int x2), .val (.int x3), .val (.int P), .val (.int q), .unset, .unset, .unset, .unset, .unset, .unset, .unset, .unset] [(.int x1)])) (fun t k => XS.iloadN X2.here hx rfl (hb hby at_50) rfl k) ?_
    refine own_via (U' := T2.setTop (mkF m 53 #[.val (.int x1), .val (.int x2), .val (.int x3), .val (.int P), .val (.int q), .unset, .unset, .unset, .unset, .unset, .unset, .unset, .unset] [(.int (2147483647 : Int32)), (.int x1)])) (fun t k => X2.ldcInt hx hown (mvT hZ (hw _ (List.mem_of_getElem? (i := 0) rfl))) (g := (mkF m 51 #[.val (.int x1), .val (.int x2), .val (.int x3), .val (.int P), .val (.int q), .unset, .unset, .unset, .unset, .unset, .unset, .unset, .unset] [(.int x1)])) rfl (hb hby at_51) _ k) ?_
    refine own_via (U' := T2.setTop (mkF m 54 #[.val (.int x1), .val (.int x2), .val (.int x3), .val (.int P), .val (.int q), .unset, .unset, .unset, .unset, .unset, .unset, .unset, .unset] [(.int (x1 &&& (2147483647 : Int32)))])) (fun t k => XS.iand X2.here hx rfl (hb hby at_53) rfl k) ?_
    refine own_via (U' := T2.setTop (mkF m 55 #[.val (.int x1), .val (.int x2), .val (.int x3), .val (.int P), .val (.int q), .unset, .unset, .unset, .unset, .unset, .unset, .unset, .unset] [(.int P), (.int (x1 &&& (2147483647 : Int32)))])) (fun t k => XS.iloadN X2.here hx rfl (hb hby at_54) rfl k) ?_
    refine own_via (U' := T2.setTop (mkF m 56 #[.val (.int x1), .val (.int x2), .val (.int x3), .val (.int P), .val (.int q), .unset, .unset, .unset, .unset, .unset, .unset, .unset, .unset] [(.int ((x1 &&& (2147483647 : Int32)) % P))])) (fun t k => iremM X2 hx rfl (hb hby at_55) rfl (own_nz hP) k) ?_
    refine own_via (U' := T2.setTop (mkF m 58 #[.val (.int x1), .val (.int x2), .val (.int x3), .val (.int P), .val (.int q), .val (.int ((x1 &&& (2147483647 : Int32)) % P)), .unset, .unset, .unset, .unset, .unset, .unset, .unset] [])) (fun t k => XS.istore X2.here hx rfl (hb hby at_56) rfl (l' := #[.val (.int x1), .val (.int x2), .val (.int x3), .val (.int P), .val (.int q), .val (.int ((x1 &&& (2147483647 : Int32)) % P)), .unset, .unset, .unset, .unset, .unset, .unset, .unset]) rfl k) ?_
    have hpl : 0 ≤ ((x1 &&& (2147483647 : Int32)) % P).toInt ∧ ((x1 &&& (2147483647 : Int32)) % P).toInt < P.toInt := own_pl _ _ hP
    generalize ((x1 &&& (2147483647 : Int32)) % P) = pl at hpl ⊢
    refine own_via (U' := T2.setTop (mkF m 60 #[.val (.int x1), .val (.int x2), .val (.int x3), .val (.int P), .val (.int q), .val (.int pl), .unset, .unset, .unset, .unset, .unset, .unset, .unset] [(.int pl)])) (fun t k => XS.iload X2.here hx rfl (hb hby at_58) rfl k) ?_
    refine own_via (U' := T2.setTop (mkF m 62 #[.val (.int x1), .val (.int x2), .val (.int x3), .val (.int P), .val (.int q), .val (.int pl), .unset, .unset, .unset, .unset, .unset, .unset, .unset] [(.int q), (.int pl)])) (fun t k => XS.iload X2.here hx rfl (hb hby at_60) rfl k) ?_
    refine own_via (U' := T2.setTop (mkF m 63 #[.val (.int x1), .val (.int x2), .val (.int x3), .val (.int P), .val (.int q), .val (.int pl), .unset, .unset, .unset, .unset, .unset, .unset, .unset] [(.int P), (.int q), (.int pl)])) (fun t k => XS.iloadN X2.here hx rfl (hb hby at_62) rfl k) ?_
    obtain ⟨_, T4, L4, X4, hQ4, st4⟩ := own_callS X2 hx hZ (y := (⟨"com/example/assignor/assignor/core/EvenSplit", "share", "(III)I"⟩ : MethodName)) (W := 0) hown (hw _ (List.mem_of_getElem? (i := 5) rfl)) (hw _ (List.mem_of_getElem? (i := 6) rfl)) (hw _ (List.mem_of_getElem? (i := 7) rfl)) (hw _ (List.mem_of_getElem? (i := 8) rfl)) (by decide) (rm_Qsh l Z a0 hw [] pl q P h0 n0 Z0 (own_nz hP)) (by decide) (by decide) e2 (g := (mkF m 63 #[.val (.int x1), .val (.int x2), .val (.int x3), .val (.int P), .val (.int q), .val (.int pl), .unset, .unset, .unset, .unset, .unset, .unset, .unset] [(.int P), (.int q), (.int pl)])) rfl (by rw [hml]; rfl) (argsL := [(.int pl), (.int q), (.int P)]) (rest := []) rfl (lenOf pd_III__I rfl) rfl (by show 2 * 0 + _ ≤ _; exact Nat.le_of_eq rfl) (hb hby at_63) (by decide) (by decide)
    obtain ⟨rfl, N4q, e4⟩ := hQ4
    have N4 := Fr.app N2 N4q
    refine own_via (U' := T4.setTop (mkF m 66 #[.val (.int x1), .val (.int x2), .val (.int x3), .val (.int P), .val (.int q), .val (.int pl), .unset, .unset, .unset, .unset, .unset, .unset, .unset] [(.int (if pl < (q % P) then ((q / P) + (1 : Int32)) else (q / P)))])) (fun t k => st4 t k) ?_
    refine own_via (U' := T4.setTop (mkF m 68 #[.val (.int x1), .val (.int x2), .val (.int x3), .val (.int P), .val (.int q), .val (.int pl), .val (.int (if pl < (q % P) then ((q / P) + (1 : Int32)) else (q / P))), .unset, .unset, .unset, .unset, .unset, .unset] [])) (fun t k => XS.istore X4.here hx rfl (hb hby at_66) rfl (l' := #[.val (.int x1), .val (.int x2), .val (.int x3), .val (.int P), .val (.int q), .val (.int pl), .val (.int (if pl < (q % P) then ((q / P) + (1 : Int32)) else (q / P))), .unset, .unset, .unset, .unset, .unset, .unset]) rfl k) ?_
    have hsh := own_sh pl q P hP hq hpl.1 hpl.2 (if pl < (q % P) then ((q / P) + (1 : Int32)) else (q / P)) rfl
    generalize (if pl < (q % P) then ((q / P) + (1 : Int32)) else (q / P)) = r at hsh ⊢
    have hfin := own_fin pl q P r hP hq hpl.1 hpl.2 hsh
    refine own_via (U' := T4.setTop (mkF m 70 #[.val (.int x1), .val (.int x2), .val (.int x3), .val (.int P), .val (.int q), .val (.int pl), .val (.int r), .unset, .unset, .unset, .unset, .unset, .unset] [(.int r)])) (fun t k => XS.iload X4.here hx rfl (hb hby at_68) rfl k) ?_
    refine own_via (U' := T4.setTop (mkF m 71 #[.val (.int x1), .val (.int x2), .val (.int x3), .val (.int P), .val (.int q), .val (.int pl), .val (.int r), .unset, .unset, .unset, .unset, .unset, .unset] [(.long (r.toInt64))])) (fun t k => XS.i2l X4.here hx rfl (hb hby at_70) rfl k) ?_
    refine own_via (U' := T4.setTop (mkF m 73 #[.val (.int x1), .val (.int x2), .val (.int x3), .val (.int P), .val (.int q), .val (.int pl), .val (.int r), .val (.long (r.toInt64)), .second, .unset, .unset, .unset, .unset] [])) (fun t k => XS.lstore X4.here hx rfl (hb hby at_71) rfl (l' := #[.val (.int x1), .val (.int x2), .val (.int x3), .val (.int P), .val (.int q), .val (.int pl), .val (.int r), .val (.long (r.toInt64)), .second, .unset, .unset, .unset, .unset]) rfl k) ?_
    refine own_via (U' := T4.setTop (mkF m 74 #[.val (.int x1), .val (.int x2), .val (.int x3), .val (.int P), .val (.int q), .val (.int pl), .val (.int r), .val (.long (r.toInt64)), .second, .unset, .unset, .unset, .unset] [(.int P)])) (fun t k => XS.iloadN X4.here hx rfl (hb hby at_73) rfl k) ?_
    refine own_via (U' := T4.setTop (mkF m 75 #[.val (.int x1), .val (.int x2), .val (.int x3), .val (.int P), .val (.int q), .val (.int pl), .val (.int r), .val (.long (r.toInt64)), .second, .unset, .unset, .unset, .unset] [(.long (P.toInt64))])) (fun t k => XS.i2l X4.here hx rfl (hb hby at_74) rfl k) ?_
    refine own_via (U' := T4.setTop (mkF m 77 #[.val (.int x1), .val (.int x2), .val (.int x3), .val (.int P), .val (.int q), .val (.int pl), .val (.int r), .val (.long (r.toInt64)), .second, .val (.long (P.toInt64)), .second, .unset, .unset] [])) (fun t k => XS.lstore X4.here hx rfl (hb hby at_75) rfl (l' := #[.val (.int x1), .val (.int x2), .val (.int x3), .val (.int P), .val (.int q), .val (.int pl), .val (.int r), .val (.long (r.toInt64)), .second, .val (.long (P.toInt64)), .second, .unset, .unset]) rfl k) ?_
    refine own_via (U' := T4.setTop (mkF m 79 #[.val (.int x1), .val (.int x2), .val (.int x3), .val (.int P), .val (.int q), .val (.int pl), .val (.int r), .val (.long (r.toInt64)), .second, .val (.long (P.toInt64)), .second, .unset, .unset] [(.int q)])) (fun t k => XS.iload X4.here hx rfl (hb hby at_77) rfl k) ?_
    refine own_via (U' := T4.setTop (mkF m 80 #[.val (.int x1), .val (.int x2), .val (.int x3), .val (.int P), .val (.int q), .val (.int pl), .val (.int r), .val (.long (r.toInt64)), .second, .val (.long (P.toInt64)), .second, .unset, .unset] [(.long (q.toInt64))])) (fun t k => XS.i2l X4.here hx rfl (hb hby at_79) rfl k) ?_
    refine own_via (U' := T4.setTop (mkF m 82 #[.val (.int x1), .val (.int x2), .val (.int x3), .val (.int P), .val (.int q), .val (.int pl), .val (.int r), .val (.long (r.toInt64)), .second, .val (.long (P.toInt64)), .second, .unset, .unset] [(.int pl), (.long (q.toInt64))])) (fun t k => XS.iload X4.here hx rfl (hb hby at_80) rfl k) ?_
    refine own_via (U' := T4.setTop (mkF m 83 #[.val (.int x1), .val (.int x2), .val (.int x3), .val (.int P), .val (.int q), .val (.int pl), .val (.int r), .val (.long (r.toInt64)), .second, .val (.long (P.toInt64)), .second, .unset, .unset] [(.long (pl.toInt64)), (.long (q.toInt64))])) (fun t k => XS.i2l X4.here hx rfl (hb hby at_82) rfl k) ?_
    refine own_via (U' := T4.setTop (mkF m 84 #[.val (.int x1), .val (.int x2), .val (.int x3), .val (.int P), .val (.int q), .val (.int pl), .val (.int r), .val (.long (r.toInt64)), .second, .val (.long (P.toInt64)), .second, .unset, .unset] [(.long ((q.toInt64) - (pl.toInt64)))])) (fun t k => XS.lsub X4.here hx rfl (hb hby at_83) rfl k) ?_
    refine own_via (U' := T4.setTop (mkF m 86 #[.val (.int x1), .val (.int x2), .val (.int x3), .val (.int P), .val (.int q), .val (.int pl), .val (.int r), .val (.long (r.toInt64)), .second, .val (.long (P.toInt64)), .second, .unset, .unset] [(.long (P.toInt64)), (.long ((q.toInt64) - (pl.toInt64)))])) (fun t k => XS.lload X4.here hx rfl (hb hby at_84) rfl k) ?_
    refine own_via (U' := T4.setTop (mkF m 87 #[.val (.int x1), .val (.int x2), .val (.int x3), .val (.int P), .val (.int q), .val (.int pl), .val (.int r), .val (.long (r.toInt64)), .second, .val (.long (P.toInt64)), .second, .unset, .unset] [(.long (((q.toInt64) - (pl.toInt64)) + (P.toInt64)))])) (fun t k => XS.ladd X4.here hx rfl (hb hby at_86) rfl k) ?_
    refine own_via (U' := T4.setTop (mkF m 88 #[.val (.int x1), .val (.int x2), .val (.int x3), .val (.int P), .val (.int q), .val (.int pl), .val (.int r), .val (.long (r.toInt64)), .second, .val (.long (P.toInt64)), .second, .unset, .unset] [(.long (1 : Int64)), (.long (((q.toInt64) - (pl.toInt64)) + (P.toInt64)))])) (fun t k => XS.lconst X4.here hx rfl (hb hby at_87) k) ?_
    refine own_via (U' := T4.setTop (mkF m 89 #[.val (.int x1), .val (.int x2), .val (.int x3), .val (.int P), .val (.int q), .val (.int pl), .val (.int r), .val (.long (r.toInt64)), .second, .val (.long (P.toInt64)), .second, .unset, .unset] [(.long ((((q.toInt64) - (pl.toInt64)) + (P.toInt64)) - (1 : Int64)))])) (fun t k => XS.lsub X4.here hx rfl (hb hby at_88) rfl k) ?_
    refine own_via (U' := T4.setTop (mkF m 91 #[.val (.int x1), .val (.int x2), .val (.int x3), .val (.int P), .val (.int q), .val (.int pl), .val (.int r), .val (.long (r.toInt64)), .second, .val (.long (P.toInt64)), .second, .val (.long ((((q.toInt64) - (pl.toInt64)) + (P.toInt64)) - (1 : Int64))), .second] [])) (fun t k => XS.lstore X4.here hx rfl (hb hby at_89) rfl (l' := #[.val (.int x1), .val (.int x2), .val (.int x3), .val (.int P), .val (.int q), .val (.int pl), .val (.int r), .val (.long (r.toInt64)), .second, .val (.long (P.toInt64)), .second, .val (.long ((((q.toInt64) - (pl.toInt64)) + (P.toInt64)) - (1 : Int64))), .second]) rfl k) ?_
    refine own_via (U' := T4.setTop (mkF m 93 #[.val (.int x1), .val (.int x2), .val (.int x3), .val (.int P), .val (.int q), .val (.int pl), .val (.int r), .val (.long (r.toInt64)), .second, .val (.long (P.toInt64)), .second, .val (.long ((((q.toInt64) - (pl.toInt64)) + (P.toInt64)) - (1 : Int64))), .second] [(.long (r.toInt64))])) (fun t k => XS.lload X4.here hx rfl (hb hby at_91) rfl k) ?_
    refine own_via (U' := T4.setTop (mkF m 94 #[.val (.int x1), .val (.int x2), .val (.int x3), .val (.int P), .val (.int q), .val (.int pl), .val (.int r), .val (.long (r.toInt64)), .second, .val (.long (P.toInt64)), .second, .val (.long ((((q.toInt64) - (pl.toInt64)) + (P.toInt64)) - (1 : Int64))), .second] [(.long (0 : Int64)), (.long (r.toInt64))])) (fun t k => XS.lconst X4.here hx rfl (hb hby at_93) k) ?_
    refine own_via (U' := T4.setTop (mkF m 95 #[.val (.int x1), .val (.int x2), .val (.int x3), .val (.int P), .val (.int q), .val (.int pl), .val (.int r), .val (.long (r.toInt64)), .second, .val (.long (P.toInt64)), .second, .val (.long ((((q.toInt64) - (pl.toInt64)) + (P.toInt64)) - (1 : Int64))), .second] [(.int (lcmpW (r.toInt64) (0 : Int64)))])) (fun t k => XS.lcmp X4.here hx rfl (hb hby at_94) rfl k) ?_
    refine own_via (U' := T4.setTop (mkF m 98 #[.val (.int x1), .val (.int x2), .val (.int x3), .val (.int P), .val (.int q), .val (.int pl), .val (.int r), .val (.long (r.toInt64)), .second, .val (.long (P.toInt64)), .second, .val (.long ((((q.toInt64) - (pl.toInt64)) + (P.toInt64)) - (1 : Int64))), .second] [])) (fun t k => XS.ifNo X4.here hx rfl (hb hby at_95) rfl (own_jnlt hfin.1).1 k) ?_
    refine own_via (U' := T4.setTop (mkF m 100 #[.val (.int x1), .val (.int x2), .val (.int x3), .val (.int P), .val (.int q), .val (.int pl), .val (.int r), .val (.long (r.toInt64)), .second, .val (.long (P.toInt64)), .second, .val (.long ((((q.toInt64) - (pl.toInt64)) + (P.toInt64)) - (1 : Int64))), .second] [(.long (r.toInt64))])) (fun t k => XS.lload X4.here hx rfl (hb hby at_98) rfl k) ?_
    refine own_via (U' := T4.setTop (mkF m 102 #[.val (.int x1), .val (.int x2), .val (.int x3), .val (.int P), .val (.int q), .val (.int pl), .val (.int r), .val (.long (r.toInt64)), .second, .val (.long (P.toInt64)), .second, .val (.long ((((q.toInt64) - (pl.toInt64)) + (P.toInt64)) - (1 : Int64))), .second] [(.long (P.toInt64)), (.long (r.toInt64))])) (fun t k => XS.lload X4.here hx rfl (hb hby at_100) rfl k) ?_
    refine own_via (U' := T4.setTop (mkF m 103 #[.val (.int x1), .val (.int x2), .val (.int x3), .val (.int P), .val (.int q), .val (.int pl), .val (.int r), .val (.long (r.toInt64)), .second, .val (.long (P.toInt64)), .second, .val (.long ((((q.toInt64) - (pl.toInt64)) + (P.toInt64)) - (1 : Int64))), .second] [(.long ((r.toInt64) * (P.toInt64)))])) (fun t k => XS.lmul X4.here hx rfl (hb hby at_102) rfl k) ?_
    refine own_via (U' := T4.setTop (mkF m 105 #[.val (.int x1), .val (.int x2), .val (.int x3), .val (.int P), .val (.int q), .val (.int pl), .val (.int r), .val (.long (r.toInt64)), .second, .val (.long (P.toInt64)), .second, .val (.long ((((q.toInt64) - (pl.toInt64)) + (P.toInt64)) - (1 : Int64))), .second] [(.long ((((q.toInt64) - (pl.toInt64)) + (P.toInt64)) - (1 : Int64))), (.long ((r.toInt64) * (P.toInt64)))])) (fun t k => XS.lload X4.here hx rfl (hb hby at_103) rfl k) ?_
    refine own_via (U' := T4.setTop (mkF m 106 #[.val (.int x1), .val (.int x2), .val (.int x3), .val (.int P), .val (.int q), .val (.int pl), .val (.int r), .val (.long (r.toInt64)), .second, .val (.long (P.toInt64)), .second, .val (.long ((((q.toInt64) - (pl.toInt64)) + (P.toInt64)) - (1 : Int64))), .second] [(.int (lcmpW ((r.toInt64) * (P.toInt64)) ((((q.toInt64) - (pl.toInt64)) + (P.toInt64)) - (1 : Int64))))])) (fun t k => XS.lcmp X4.here hx rfl (hb hby at_105) rfl k) ?_
    refine own_via (U' := T4.setTop (mkF m 109 #[.val (.int x1), .val (.int x2), .val (.int x3), .val (.int P), .val (.int q), .val (.int pl), .val (.int r), .val (.long (r.toInt64)), .second, .val (.long (P.toInt64)), .second, .val (.long ((((q.toInt64) - (pl.toInt64)) + (P.toInt64)) - (1 : Int64))), .second] [])) (fun t k => XS.ifNo X4.here hx rfl (hb hby at_106) rfl (own_jngt hfin.2.1).1 k) ?_
    refine own_via (U' := T4.setTop (mkF m 111 #[.val (.int x1), .val (.int x2), .val (.int x3), .val (.int P), .val (.int q), .val (.int pl), .val (.int r), .val (.long (r.toInt64)), .second, .val (.long (P.toInt64)), .second, .val (.long ((((q.toInt64) - (pl.toInt64)) + (P.toInt64)) - (1 : Int64))), .second] [(.long ((((q.toInt64) - (pl.toInt64)) + (P.toInt64)) - (1 : Int64)))])) (fun t k => XS.lload X4.here hx rfl (hb hby at_109) rfl k) ?_
    refine own_via (U' := T4.setTop (mkF m 113 #[.val (.int x1), .val (.int x2), .val (.int x3), .val (.int P), .val (.int q), .val (.int pl), .val (.int r), .val (.long (r.toInt64)), .second, .val (.long (P.toInt64)), .second, .val (.long ((((q.toInt64) - (pl.toInt64)) + (P.toInt64)) - (1 : Int64))), .second] [(.long (r.toInt64)), (.long ((((q.toInt64) - (pl.toInt64)) + (P.toInt64)) - (1 : Int64)))])) (fun t k => XS.lload X4.here hx rfl (hb hby at_111) rfl k) ?_
    refine own_via (U' := T4.setTop (mkF m 114 #[.val (.int x1), .val (.int x2), .val (.int x3), .val (.int P), .val (.int q), .val (.int pl), .val (.int r), .val (.long (r.toInt64)), .second, .val (.long (P.toInt64)), .second, .val (.long ((((q.toInt64) - (pl.toInt64)) + (P.toInt64)) - (1 : Int64))), .second] [(.long (1 : Int64)), (.long (r.toInt64)), (.long ((((q.toInt64) - (pl.toInt64)) + (P.toInt64)) - (1 : Int64)))])) (fun t k => XS.lconst X4.here hx rfl (hb hby at_113) k) ?_
    refine own_via (U' := T4.setTop (mkF m 115 #[.val (.int x1), .val (.int x2), .val (.int x3), .val (.int P), .val (.int q), .val (.int pl), .val (.int r), .val (.long (r.toInt64)), .second, .val (.long (P.toInt64)), .second, .val (.long ((((q.toInt64) - (pl.toInt64)) + (P.toInt64)) - (1 : Int64))), .second] [(.long ((r.toInt64) + (1 : Int64))), (.long ((((q.toInt64) - (pl.toInt64)) + (P.toInt64)) - (1 : Int64)))])) (fun t k => XS.ladd X4.here hx rfl (hb hby at_114) rfl k) ?_
    refine own_via (U' := T4.setTop (mkF m 117 #[.val (.int x1), .val (.int x2), .val (.int x3), .val (.int P), .val (.int q), .val (.int pl), .val (.int r), .val (.long (r.toInt64)), .second, .val (.long (P.toInt64)), .second, .val (.long ((((q.toInt64) - (pl.toInt64)) + (P.toInt64)) - (1 : Int64))), .second] [(.long (P.toInt64)), (.long ((r.toInt64) + (1 : Int64))), (.long ((((q.toInt64) - (pl.toInt64)) + (P.toInt64)) - (1 : Int64)))])) (fun t k => XS.lload X4.here hx rfl (hb hby at_115) rfl k) ?_
    refine own_via (U' := T4.setTop (mkF m 118 #[.val (.int x1), .val (.int x2), .val (.int x3), .val (.int P), .val (.int q), .val (.int pl), .val (.int r), .val (.long (r.toInt64)), .second, .val (.long (P.toInt64)), .second, .val (.long ((((q.toInt64) - (pl.toInt64)) + (P.toInt64)) - (1 : Int64))), .second] [(.long (((r.toInt64) + (1 : Int64)) * (P.toInt64))), (.long ((((q.toInt64) - (pl.toInt64)) + (P.toInt64)) - (1 : Int64)))])) (fun t k => XS.lmul X4.here hx rfl (hb hby at_117) rfl k) ?_
    refine own_via (U' := T4.setTop (mkF m 119 #[.val (.int x1), .val (.int x2), .val (.int x3), .val (.int P), .val (.int q), .val (.int pl), .val (.int r), .val (.long (r.toInt64)), .second, .val (.long (P.toInt64)), .second, .val (.long ((((q.toInt64) - (pl.toInt64)) + (P.toInt64)) - (1 : Int64))), .second] [(.int (lcmpW ((((q.toInt64) - (pl.toInt64)) + (P.toInt64)) - (1 : Int64)) (((r.toInt64) + (1 : Int64)) * (P.toInt64))))])) (fun t k => XS.lcmp X4.here hx rfl (hb hby at_118) rfl k) ?_
    refine own_via (U' := T4.setTop (mkF m 122 #[.val (.int x1), .val (.int x2), .val (.int x3), .val (.int P), .val (.int q), .val (.int pl), .val (.int r), .val (.long (r.toInt64)), .second, .val (.long (P.toInt64)), .second, .val (.long ((((q.toInt64) - (pl.toInt64)) + (P.toInt64)) - (1 : Int64))), .second] [])) (fun t k => XS.ifNo X4.here hx rfl (hb hby at_119) rfl (own_jlt hfin.2.2).2 k) ?_
    refine own_via (U' := T4.setTop (mkF m 123 #[.val (.int x1), .val (.int x2), .val (.int x3), .val (.int P), .val (.int q), .val (.int pl), .val (.int r), .val (.long (r.toInt64)), .second, .val (.long (P.toInt64)), .second, .val (.long ((((q.toInt64) - (pl.toInt64)) + (P.toInt64)) - (1 : Int64))), .second] [(.int (1 : Int32))])) (fun t k => XS.iconst X4.here hx rfl (hb hby at_122) k) ?_
    refine own_via (U' := T4.setTop (mkF m 127 #[.val (.int x1), .val (.int x2), .val (.int x3), .val (.int P), .val (.int q), .val (.int pl), .val (.int r), .val (.long (r.toInt64)), .second, .val (.long (P.toInt64)), .second, .val (.long ((((q.toInt64) - (pl.toInt64)) + (P.toInt64)) - (1 : Int64))), .second] [(.int (1 : Int32))])) (fun t k => XS.goto X4.here hx rfl (pc0 := 123) (pc' := 127) rfl (hb hby at_123) (by decide) (by decide) k) ?_
    exact own_ret X4 (v := some (.int (1 : Int32))) (fun h => by rw [Bd.returns] at h; cases h) hlk (fun fs hr => retN X4 hx (t := .boolean) Bd.returns (by simp) (hb hby at_127) hr) (by rw [e4]; exact ⟨rfl, N4⟩) (by decide) (by decide)
  case neg =>
    refine own_via (U' := s₁.setTop (mkF m 6 #[.val (.int x1), .val (.int x2), .val (.int x3), .unset, .unset, .unset, .unset, .unset, .unset, .unset, .unset, .unset, .unset] [])) (fun t k => XS.ifNo X0.here hx rfl (hb hby at_3) rfl ((if0 _ _).trans (feq hc1).1) k) ?_
    refine own_via (U' := s₁.setTop (mkF m 7 #[.val (.int x1), .val (.int x2), .val (.int x3), .unset, .unset, .unset, .unset, .unset, .unset, .unset, .unset, .unset, .unset] [(.int x3)])) (fun t k => XS.iloadN X0.here hx rfl (hb hby at_6) rfl k) ?_
    refine own_via (U' := s₁.setTop (mkF m 8 #[.val (.int x1), .val (.int x2), .val (.int x3), .unset, .unset, .unset, .unset, .unset, .unset, .unset, .unset, .unset, .unset] [(.int (1 : Int32)), (.int x3)])) (fun t k => XS.iconst X0.here hx rfl (hb hby at_7) k) ?_
    refine own_via (U' := s₁.setTop (mkF m 9 #[.val (.int x1), .val (.int x2), .val (.int x3), .unset, .unset, .unset, .unset, .unset, .unset, .unset, .unset, .unset, .unset] [(.int ((x3.toUInt32 >>> ((1 : Int32) &&& 31).toUInt32).toInt32))])) (fun t k => XS.iushr X0.here hx rfl (hb hby at_8) rfl k) ?_
    refine own_via (U' := s₁.setTop (mkF m 11 #[.val (.int x1), .val (.int x2), .val (.int x3), .unset, .unset, .unset, .unset, .unset, .unset, .unset, .unset, .unset, .unset] [(.int (7 : Int32)), (.int ((x3.toUInt32 >>> ((1 : Int32) &&& 31).toUInt32).toInt32))])) (fun t k => XS.bipush X0.here hx rfl (hb hby at_9) k) ?_
    refine own_via (U' := s₁.setTop (mkF m 12 #[.val (.int x1), .val (.int x2), .val (.int x3), .unset, .unset, .unset, .unset, .unset, .unset, .unset, .unset, .unset, .unset] [(.int (((x3.toUInt32 >>> ((1 : Int32) &&& 31).toUInt32).toInt32) &&& (7 : Int32)))])) (fun t k => XS.iand X0.here hx rfl (hb hby at_11) rfl k) ?_
    refine own_via (U' := s₁.setTop (mkF m 13 #[.val (.int x1), .val (.int x2), .val (.int x3), .unset, .unset, .unset, .unset, .unset, .unset, .unset, .unset, .unset, .unset] [(.int (1 : Int32)), (.int (((x3.toUInt32 >>> ((1 : Int32) &&& 31).toUInt32).toInt32) &&& (7 : Int32)))])) (fun t k => XS.iconst X0.here hx rfl (hb hby at_12) k) ?_
    refine own_via (U' := s₁.setTop (mkF m 14 #[.val (.int x1), .val (.int x2), .val (.int x3), .unset, .unset, .unset, .unset, .unset, .unset, .unset, .unset, .unset, .unset] [(.int ((((x3.toUInt32 >>> ((1 : Int32) &&& 31).toUInt32).toInt32) &&& (7 : Int32)) + (1 : Int32)))])) (fun t k => XS.iadd X0.here hx rfl (hb hby at_13) rfl k) ?_
    refine own_via (U' := s₁.setTop (mkF m 15 #[.val (.int x1), .val (.int x2), .val (.int x3), .val (.int ((((x3.toUInt32 >>> ((1 : Int32) &&& 31).toUInt32).toInt32) &&& (7 : Int32)) + (1 : Int32))), .unset, .unset, .unset, .unset, .unset, .unset, .unset, .unset, .unset] [])) (fun t k => XS.istoreN X0.here hx rfl (hb hby at_14) rfl (l' := #[.val (.int x1), .val (.int x2), .val (.int x3), .val (.int ((((x3.toUInt32 >>> ((1 : Int32) &&& 31).toUInt32).toInt32) &&& (7 : Int32)) + (1 : Int32))), .unset, .unset, .unset, .unset, .unset, .unset, .unset, .unset, .unset]) rfl k) ?_
    refine own_via (U' := s₁.setTop (mkF m 27 #[.val (.int x1), .val (.int x2), .val (.int x3), .val (.int ((((x3.toUInt32 >>> ((1 : Int32) &&& 31).toUInt32).toInt32) &&& (7 : Int32)) + (1 : Int32))), .unset, .unset, .unset, .unset, .unset, .unset, .unset, .unset, .unset] [])) (fun t k => XS.goto X0.here hx rfl (pc0 := 15) (pc' := 27) rfl (hb hby at_15) (by decide) (by decide) k) ?_
    have hP : 0 < ((((x3.toUInt32 >>> ((1 : Int32) &&& 31).toUInt32).toInt32) &&& (7 : Int32)) + (1 : Int32)).toInt := (own_p1 _)
    generalize ((((x3.toUInt32 >>> ((1 : Int32) &&& 31).toUInt32).toInt32) &&& (7 : Int32)) + (1 : Int32)) = P at hP ⊢
    refine own_via (U' := s₁.setTop (mkF m 28 #[.val (.int x1), .val (.int x2), .val (.int x3), .val (.int P), .unset, .unset, .unset, .unset, .unset, .unset, .unset, .unset, .unset] [(.int x2)])) (fun t k => XS.iloadN X0.here hx rfl (hb hby at_27) rfl k) ?_
    refine own_via (U' := s₁.setTop (mkF m 29 #[.val (.int x1), .val (.int x2), .val (.int x3), .val (.int P), .unset, .unset, .unset, .unset, .unset, .unset, .unset, .unset, .unset] [(.int (1 : Int32)), (.int x2)])) (fun t k => XS.iconst X0.here hx rfl (hb hby at_28) k) ?_
    refine own_via (U' := s₁.setTop (mkF m 30 #[.val (.int x1), .val (.int x2), .val (.int x3), .val (.int P), .unset, .unset, .unset, .unset, .unset, .unset, .unset, .unset, .unset] [(.int (x2 &&& (1 : Int32)))])) (fun t k => XS.iand X0.here hx rfl (hb hby at_29) rfl k) ?_
    refine own_via (U' := s₁.setTop (mkF m 50 #[.val (.int x1), .val (.int x2), .val (.int x3), .val (.int P), .val (.int (if (x2 &&& (1 : Int32)) = (0 : Int32) then (x2 &&& (2147483647 : Int32)) else (((x2.toUInt32 >>> ((1 : Int32) &&& 31).toUInt32).toInt32) &&& (15 : Int32)))), .unset, .unset, .unset, .unset, .unset, .unset, .unset, .unset] [])) (fun t k => ?_) ?_
    · by_cases hc5 : (x2 &&& (1 : Int32)) = (0 : Int32)
      case pos =>
        simp only [if_pos hc5] at k
        refine XS.ifYes X0.here hx rfl (pc0 := 30) (pc' := 44) rfl (hb hby at_30) rfl ((if0 _ _).trans (teq hc5).1) (by decide) (by decide) ?_
        show Steps p.tables e below (s₁.setTop (mkF m 44 #[.val (.int x1), .val (.int x2), .val (.int x3), .val (.int P), .unset, .unset, .unset, .unset, .unset, .unset, .unset, .unset, .unset] [])) _
        refine XS.iloadN X0.here hx rfl (hb hby at_44) rfl ?_
        show Steps p.tables e below (s₁.setTop (mkF m 45 #[.val (.int x1), .val (.int x2), .val (.int x3), .val (.int P), .unset, .unset, .unset, .unset, .unset, .unset, .unset, .unset, .unset] [(.int x2)])) _
        refine X0.ldcInt hx hown (mvT hZ (hw _ (List.mem_of_getElem? (i := 0) rfl))) (g := (mkF m 45 #[.val (.int x1), .val (.int x2), .val (.int x3), .val (.int P), .unset, .unset, .unset, .unset, .unset, .unset, .unset, .unset, .unset] [(.int x2)])) rfl (hb hby at_45) _ ?_
        show Steps p.tables e below (s₁.setTop (mkF m 47 #[.val (.int x1), .val (.int x2), .val (.int x3), .val (.int P), .unset, .unset, .unset, .unset, .unset, .unset, .unset, .unset, .unset] [(.int (2147483647 : Int32)), (.int x2)])) _
        refine XS.iand X0.here hx rfl (hb hby at_47) rfl ?_
        show Steps p.tables e below (s₁.setTop (mkF m 48 #[.val (.int x1), .val (.int x2), .val (.int x3), .val (.int P), .unset, .unset, .unset, .unset, .unset, .unset, .unset, .unset, .unset] [(.int (x2 &&& (2147483647 : Int32)))])) _
        refine XS.istore X0.here hx rfl (hb hby at_48) rfl (l' := #[.val (.int x1), .val (.int x2), .val (.int x3), .val (.int P), .val (.int (x2 &&& (2147483647 : Int32))), .unset, .unset, .unset, .unset, .unset, .unset, .unset, .unset]) rfl ?_
        show Steps p.tables e below (s₁.setTop (mkF m 50 #[.val (.int x1), .val (.int x2), .val (.int x3), .val (.int P), .val (.int (x2 &&& (2147483647 : Int32))), .unset, .unset, .unset, .unset, .unset, .unset, .unset, .unset] [])) _
        exact k
      case neg =>
        simp only [if_neg hc5] at k
        refine XS.ifNo X0.here hx rfl (hb hby at_30) rfl ((if0 _ _).trans (feq hc5).1) ?_
        show Steps p.tables e below (s₁.setTop (mkF m 33 #[.val (.int x1), .val (.int x2), .val (.int x3), .val (.int P), .unset, .unset, .unset, .unset, .unset, .unset, .unset, .unset, .unset] [])) _
        refine XS.iloadN X0.here hx rfl (hb hby at_33) rfl ?_
        show Steps p.tables e below (s₁.setTop (mkF m 34 #[.val (.int x1), .val (.int x2), .val (.int x3), .val (.int P), .unset, .unset, .unset, .unset, .unset, .unset, .unset, .unset, .unset] [(.int x2)])) _
        refine XS.iconst X0.here hx rfl (hb hby at_34) ?_
        show Steps p.tables e below (s₁.setTop (mkF m 35 #[.val (.int x1), .val (.int x2), .val (.int x3), .val (.int P), .unset, .unset, .unset, .unset, .unset, .unset, .unset, .unset, .unset] [(.int (1 : Int32)), (.int x2)])) _
        refine XS.iushr X0.here hx rfl (hb hby at_35) rfl ?_
        show Steps p.tables e below (s₁.setTop (mkF m 36 #[.val (.int x1), .val (.int x2), .val (.int x3), .val (.int P), .unset, .unset, .unset, .unset, .unset, .unset, .unset, .unset, .unset] [(.int ((x2.toUInt32 >>> ((1 : Int32) &&& 31).toUInt32).toInt32))])) _
        refine XS.bipush X0.here hx rfl (hb hby at_36) ?_
        show Steps p.tables e below (s₁.setTop (mkF m 38 #[.val (.int x1), .val (.int x2), .val (.int x3), .val (.int P), .unset, .unset, .unset, .unset, .unset, .unset, .unset, .unset, .unset] [(.int (15 : Int32)), (.int ((x2.toUInt32 >>> ((1 : Int32) &&& 31).toUInt32).toInt32))])) _
        refine XS.iand X0.here hx rfl (hb hby at_38) rfl ?_
        show Steps p.tables e below (s₁.setTop (mkF m 39 #[.val (.int x1), .val (.int x2), .val (.int x3), .val (.int P), .unset, .unset, .unset, .unset, .unset, .unset, .unset, .unset, .unset] [(.int (((x2.toUInt32 >>> ((1 : Int32) &&& 31).toUInt32).toInt32) &&& (15 : Int32)))])) _
        refine XS.istore X0.here hx rfl (hb hby at_39) rfl (l' := #[.val (.int x1), .val (.int x2), .val (.int x3), .val (.int P), .val (.int (((x2.toUInt32 >>> ((1 : Int32) &&& 31).toUInt32).toInt32) &&& (15 : Int32))), .unset, .unset, .unset, .unset, .unset, .unset, .unset, .unset]) rfl ?_
        show Steps p.tables e below (s₁.setTop (mkF m 41 #[.val (.int x1), .val (.int x2), .val (.int x3), .val (.int P), .val (.int (((x2.toUInt32 >>> ((1 : Int32) &&& 31).toUInt32).toInt32) &&& (15 : Int32))), .unset, .unset, .unset, .unset, .unset, .unset, .unset, .unset] [])) _
        refine XS.goto X0.here hx rfl (pc0 := 41) (pc' := 50) rfl (hb hby at_41) (by decide) (by decide) ?_
        show Steps p.tables e below (s₁.setTop (mkF m 50 #[.val (.int x1), .val (.int x2), .val (.int x3), .val (.int P), .val (.int (((x2.toUInt32 >>> ((1 : Int32) &&& 31).toUInt32).toInt32) &&& (15 : Int32))), .unset, .unset, .unset, .unset, .unset, .unset, .unset, .unset] [])) _
        exact k
    have hq : 0 ≤ (if (x2 &&& (1 : Int32)) = (0 : Int32) then (x2 &&& (2147483647 : Int32)) else (((x2.toUInt32 >>> ((1 : Int32) &&& 31).toUInt32).toInt32) &&& (15 : Int32))).toInt := own_q1 _ _
    generalize (if (x2 &&& (1 : Int32)) = (0 : Int32) then (x2 &&& (2147483647 : Int32)) else (((x2.toUInt32 >>> ((1 : Int32) &&& 31).toUInt32).toInt32) &&& (15 : Int32))) = q at hq ⊢
    refine own_via (U' := s₁.setTop (mkF m 51 #[.val (.int x1), .val (.int x2), .val (.int x3), .val (.int P), .val (.int q), .unset, .unset, .unset, .unset, .unset, .unset, .unset, .unset] [(.int x1)])) (fun t k => XS.iloadN X0.here hx rfl (hb hby at_50) rfl k) ?_
    refine own_via (U' := s₁.setTop (mkF m 53 #[.val (.int x1), .val (.int x2), .val (.int x3), .val (.int P), .val (.int q), .unset, .unset, .unset, .unset, .unset, .unset, .unset, .unset] [(.int (2147483647 : Int32)), (.int x1)])) (fun t k => X0.ldcInt hx hown (mvT hZ (hw _ (List.mem_of_getElem? (i := 0) rfl))) (g := (mkF m 51 #[.val (.int x1), .val (.int x2), .val (.int x3), .val (.int P), .val (.int q), .unset, .unset, .unset, .unset, .unset, .unset, .unset, .unset] [(.int x1)])) rfl (hb hby at_51) _ k) ?_
    refine own_via (U' := s₁.setTop (mkF m 54 #[.val (.int x1), .val (.int x2), .val (.int x3), .val (.int P), .val (.int q), .unset, .unset, .unset, .unset, .unset, .unset, .unset, .unset] [(.int (x1 &&& (2147483647 : Int32)))])) (fun t k => XS.iand X0.here hx rfl (hb hby at_53) rfl k) ?_
    refine own_via (U' := s₁.setTop (mkF m 55 #[.val (.int x1), .val (.int x2), .val (.int x3), .val (.int P), .val (.int q), .unset, .unset, .unset, .unset, .unset, .unset, .unset, .unset] [(.int P), (.int (x1 &&& (2147483647 : Int32)))])) (fun t k => XS.iloadN X0.here hx rfl (hb hby at_54) rfl k) ?_
    refine own_via (U' := s₁.setTop (mkF m 56 #[.val (.int x1), .val (.int x2), .val (.int x3), .val (.int P), .val (.int q), .unset, .unset, .unset, .unset, .unset, .unset, .unset, .unset] [(.int ((x1 &&& (2147483647 : Int32)) % P))])) (fun t k => iremM X0 hx rfl (hb hby at_55) rfl (own_nz hP) k) ?_
    refine own_via (U' := s₁.setTop (mkF m 58 #[.val (.int x1), .val (.int x2), .val (.int x3), .val (.int P), .val (.int q), .val (.int ((x1 &&& (2147483647 : Int32)) % P)), .unset, .unset, .unset, .unset, .unset, .unset, .unset] [])) (fun t k => XS.istore X0.here hx rfl (hb hby at_56) rfl (l' := #[.val (.int x1), .val (.int x2), .val (.int x3), .val (.int P), .val (.int q), .val (.int ((x1 &&& (2147483647 : Int32)) % P)), .unset, .unset, .unset, .unset, .unset, .unset, .unset]) rfl k) ?_
    have hpl : 0 ≤ ((x1 &&& (2147483647 : Int32)) % P).toInt ∧ ((x1 &&& (2147483647 : Int32)) % P).toInt < P.toInt := own_pl _ _ hP
    generalize ((x1 &&& (2147483647 : Int32)) % P) = pl at hpl ⊢
    refine own_via (U' := s₁.setTop (mkF m 60 #[.val (.int x1), .val (.int x2), .val (.int x3), .val (.int P), .val (.int q), .val (.int pl), .unset, .unset, .unset, .unset, .unset, .unset, .unset] [(.int pl)])) (fun t k => XS.iload X0.here hx rfl (hb hby at_58) rfl k) ?_
    refine own_via (U' := s₁.setTop (mkF m 62 #[.val (.int x1), .val (.int x2), .val (.int x3), .val (.int P), .val (.int q), .val (.int pl), .unset, .unset, .unset, .unset, .unset, .unset, .unset] [(.int q), (.int pl)])) (fun t k => XS.iload X0.here hx rfl (hb hby at_60) rfl k) ?_
    refine own_via (U' := s₁.setTop (mkF m 63 #[.val (.int x1), .val (.int x2), .val (.int x3), .val (.int P), .val (.int q), .val (.int pl), .unset, .unset, .unset, .unset, .unset, .unset, .unset] [(.int P), (.int q), (.int pl)])) (fun t k => XS.iloadN X0.here hx rfl (hb hby at_62) rfl k) ?_
    obtain ⟨_, T6, L6, X6, hQ6, st6⟩ := own_callS X0 hx hZ (y := (⟨"com/example/assignor/assignor/core/EvenSplit", "share", "(III)I"⟩ : MethodName)) (W := 0) hown (hw _ (List.mem_of_getElem? (i := 5) rfl)) (hw _ (List.mem_of_getElem? (i := 6) rfl)) (hw _ (List.mem_of_getElem? (i := 7) rfl)) (hw _ (List.mem_of_getElem? (i := 8) rfl)) (by decide) (rm_Qsh l Z a0 hw [] pl q P h0 n0 Z0 (own_nz hP)) (by decide) (by decide) e0 (g := (mkF m 63 #[.val (.int x1), .val (.int x2), .val (.int x3), .val (.int P), .val (.int q), .val (.int pl), .unset, .unset, .unset, .unset, .unset, .unset, .unset] [(.int P), (.int q), (.int pl)])) rfl (by rw [hml]; rfl) (argsL := [(.int pl), (.int q), (.int P)]) (rest := []) rfl (lenOf pd_III__I rfl) rfl (by show 2 * 0 + _ ≤ _; exact Nat.le_of_eq rfl) (hb hby at_63) (by decide) (by decide)
    obtain ⟨rfl, N6q, e6⟩ := hQ6
    have N6 := Fr.app N0 N6q
    refine own_via (U' := T6.setTop (mkF m 66 #[.val (.int x1), .val (.int x2), .val (.int x3), .val (.int P), .val (.int q), .val (.int pl), .unset, .unset, .unset, .unset, .unset, .unset, .unset] [(.int (if pl < (q % P) then ((q / P) + (1 : Int32)) else (q / P)))])) (fun t k => st6 t k) ?_
    refine own_via (U' := T6.setTop (mkF m 68 #[.val (.int x1), .val (.int x2), .val (.int x3), .val (.int P), .val (.int q), .val (.int pl), .val (.int (if pl < (q % P) then ((q / P) + (1 : Int32)) else (q / P))), .unset, .unset, .unset, .unset, .unset, .unset] [])) (fun t k => XS.istore X6.here hx rfl (hb hby at_66) rfl (l' := #[.val (.int x1), .val (.int x2), .val (.int x3), .val (.int P), .val (.int q), .val (.int pl), .val (.int (if pl < (q % P) then ((q / P) + (1 : Int32)) else (q / P))), .unset, .unset, .unset, .unset, .unset, .unset]) rfl k) ?_
    have hsh := own_sh pl q P hP hq hpl.1 hpl.2 (if pl < (q % P) then ((q / P) + (1 : Int32)) else (q / P)) rfl
    generalize (if pl < (q % P) then ((q / P) + (1 : Int32)) else (q / P)) = r at hsh ⊢
    have hfin := own_fin pl q P r hP hq hpl.1 hpl.2 hsh
    refine own_via (U' := T6.setTop (mkF m 70 #[.val (.int x1), .val (.int x2), .val (.int x3), .val (.int P), .val (.int q), .val (.int pl), .val (.int r), .unset, .unset, .unset, .unset, .unset, .unset] [(.int r)])) (fun t k => XS.iload X6.here hx rfl (hb hby at_68) rfl k) ?_
    refine own_via (U' := T6.setTop (mkF m 71 #[.val (.int x1), .val (.int x2), .val (.int x3), .val (.int P), .val (.int q), .val (.int pl), .val (.int r), .unset, .unset, .unset, .unset, .unset, .unset] [(.long (r.toInt64))])) (fun t k => XS.i2l X6.here hx rfl (hb hby at_70) rfl k) ?_
    refine own_via (U' := T6.setTop (mkF m 73 #[.val (.int x1), .val (.int x2), .val (.int x3), .val (.int P), .val (.int q), .val (.int pl), .val (.int r), .val (.long (r.toInt64)), .second, .unset, .unset, .unset, .unset] [])) (fun t k => XS.lstore X6.here hx rfl (hb hby at_71) rfl (l' := #[.val (.int x1), .val (.int x2), .val (.int x3), .val (.int P), .val (.int q), .val (.int pl), .val (.int r), .val (.long (r.toInt64)), .second, .unset, .unset, .unset, .unset]) rfl k) ?_
    refine own_via (U' := T6.setTop (mkF m 74 #[.val (.int x1), .val (.int x2), .val (.int x3), .val (.int P), .val (.int q), .val (.int pl), .val (.int r), .val (.long (r.toInt64)), .second, .unset, .unset, .unset, .unset] [(.int P)])) (fun t k => XS.iloadN X6.here hx rfl (hb hby at_73) rfl k) ?_
    refine own_via (U' := T6.setTop (mkF m 75 #[.val (.int x1), .val (.int x2), .val (.int x3), .val (.int P), .val (.int q), .val (.int pl), .val (.int r), .val (.long (r.toInt64)), .second, .unset, .unset, .unset, .unset] [(.long (P.toInt64))])) (fun t k => XS.i2l X6.here hx rfl (hb hby at_74) rfl k) ?_
    refine own_via (U' := T6.setTop (mkF m 77 #[.val (.int x1), .val (.int x2), .val (.int x3), .val (.int P), .val (.int q), .val (.int pl), .val (.int r), .val (.long (r.toInt64)), .second, .val (.long (P.toInt64)), .second, .unset, .unset] [])) (fun t k => XS.lstore X6.here hx rfl (hb hby at_75) rfl (l' := #[.val (.int x1), .val (.int x2), .val (.int x3), .val (.int P), .val (.int q), .val (.int pl), .val (.int r), .val (.long (r.toInt64)), .second, .val (.long (P.toInt64)), .second, .unset, .unset]) rfl k) ?_
    refine own_via (U' := T6.setTop (mkF m 79 #[.val (.int x1), .val (.int x2), .val (.int x3), .val (.int P), .val (.int q), .val (.int pl), .val (.int r), .val (.long (r.toInt64)), .second, .val (.long (P.toInt64)), .second, .unset, .unset] [(.int q)])) (fun t k => XS.iload X6.here hx rfl (hb hby at_77) rfl k) ?_
    refine own_via (U' := T6.setTop (mkF m 80 #[.val (.int x1), .val (.int x2), .val (.int x3), .val (.int P), .val (.int q), .val (.int pl), .val (.int r), .val (.long (r.toInt64)), .second, .val (.long (P.toInt64)), .second, .unset, .unset] [(.long (q.toInt64))])) (fun t k => XS.i2l X6.here hx rfl (hb hby at_79) rfl k) ?_
    refine own_via (U' := T6.setTop (mkF m 82 #[.val (.int x1), .val (.int x2), .val (.int x3), .val (.int P), .val (.int q), .val (.int pl), .val (.int r), .val (.long (r.toInt64)), .second, .val (.long (P.toInt64)), .second, .unset, .unset] [(.int pl), (.long (q.toInt64))])) (fun t k => XS.iload X6.here hx rfl (hb hby at_80) rfl k) ?_
    refine own_via (U' := T6.setTop (mkF m 83 #[.val (.int x1), .val (.int x2), .val (.int x3), .val (.int P), .val (.int q), .val (.int pl), .val (.int r), .val (.long (r.toInt64)), .second, .val (.long (P.toInt64)), .second, .unset, .unset] [(.long (pl.toInt64)), (.long (q.toInt64))])) (fun t k => XS.i2l X6.here hx rfl (hb hby at_82) rfl k) ?_
    refine own_via (U' := T6.setTop (mkF m 84 #[.val (.int x1), .val (.int x2), .val (.int x3), .val (.int P), .val (.int q), .val (.int pl), .val (.int r), .val (.long (r.toInt64)), .second, .val (.long (P.toInt64)), .second, .unset, .unset] [(.long ((q.toInt64) - (pl.toInt64)))])) (fun t k => XS.lsub X6.here hx rfl (hb hby at_83) rfl k) ?_
    refine own_via (U' := T6.setTop (mkF m 86 #[.val (.int x1), .val (.int x2), .val (.int x3), .val (.int P), .val (.int q), .val (.int pl), .val (.int r), .val (.long (r.toInt64)), .second, .val (.long (P.toInt64)), .second, .unset, .unset] [(.long (P.toInt64)), (.long ((q.toInt64) - (pl.toInt64)))])) (fun t k => XS.lload X6.here hx rfl (hb hby at_84) rfl k) ?_
    refine own_via (U' := T6.setTop (mkF m 87 #[.val (.int x1), .val (.int x2), .val (.int x3), .val (.int P), .val (.int q), .val (.int pl), .val (.int r), .val (.long (r.toInt64)), .second, .val (.long (P.toInt64)), .second, .unset, .unset] [(.long (((q.toInt64) - (pl.toInt64)) + (P.toInt64)))])) (fun t k => XS.ladd X6.here hx rfl (hb hby at_86) rfl k) ?_
    refine own_via (U' := T6.setTop (mkF m 88 #[.val (.int x1), .val (.int x2), .val (.int x3), .val (.int P), .val (.int q), .val (.int pl), .val (.int r), .val (.long (r.toInt64)), .second, .val (.long (P.toInt64)), .second, .unset, .unset] [(.long (1 : Int64)), (.long (((q.toInt64) - (pl.toInt64)) + (P.toInt64)))])) (fun t k => XS.lconst X6.here hx rfl (hb hby at_87) k) ?_
    refine own_via (U' := T6.setTop (mkF m 89 #[.val (.int x1), .val (.int x2), .val (.int x3), .val (.int P), .val (.int q), .val (.int pl), .val (.int r), .val (.long (r.toInt64)), .second, .val (.long (P.toInt64)), .second, .unset, .unset] [(.long ((((q.toInt64) - (pl.toInt64)) + (P.toInt64)) - (1 : Int64)))])) (fun t k => XS.lsub X6.here hx rfl (hb hby at_88) rfl k) ?_
    refine own_via (U' := T6.setTop (mkF m 91 #[.val (.int x1), .val (.int x2), .val (.int x3), .val (.int P), .val (.int q), .val (.int pl), .val (.int r), .val (.long (r.toInt64)), .second, .val (.long (P.toInt64)), .second, .val (.long ((((q.toInt64) - (pl.toInt64)) + (P.toInt64)) - (1 : Int64))), .second] [])) (fun t k => XS.lstore X6.here hx rfl (hb hby at_89) rfl (l' := #[.val (.int x1), .val (.int x2), .val (.int x3), .val (.int P), .val (.int q), .val (.int pl), .val (.int r), .val (.long (r.toInt64)), .second, .val (.long (P.toInt64)), .second, .val (.long ((((q.toInt64) - (pl.toInt64)) + (P.toInt64)) - (1 : Int64))), .second]) rfl k) ?_
    refine own_via (U' := T6.setTop (mkF m 93 #[.val (.int x1), .val (.int x2), .val (.int x3), .val (.int P), .val (.int q), .val (.int pl), .val (.int r), .val (.long (r.toInt64)), .second, .val (.long (P.toInt64)), .second, .val (.long ((((q.toInt64) - (pl.toInt64)) + (P.toInt64)) - (1 : Int64))), .second] [(.long (r.toInt64))])) (fun t k => XS.lload X6.here hx rfl (hb hby at_91) rfl k) ?_
    refine own_via (U' := T6.setTop (mkF m 94 #[.val (.int x1), .val (.int x2), .val (.int x3), .val (.int P), .val (.int q), .val (.int pl), .val (.int r), .val (.long (r.toInt64)), .second, .val (.long (P.toInt64)), .second, .val (.long ((((q.toInt64) - (pl.toInt64)) + (P.toInt64)) - (1 : Int64))), .second] [(.long (0 : Int64)), (.long (r.toInt64))])) (fun t k => XS.lconst X6.here hx rfl (hb hby at_93) k) ?_
    refine own_via (U' := T6.setTop (mkF m 95 #[.val (.int x1), .val (.int x2), .val (.int x3), .val (.int P), .val (.int q), .val (.int pl), .val (.int r), .val (.long (r.toInt64)), .second, .val (.long (P.toInt64)), .second, .val (.long ((((q.toInt64) - (pl.toInt64)) + (P.toInt64)) - (1 : Int64))), .second] [(.int (lcmpW (r.toInt64) (0 : Int64)))])) (fun t k => XS.lcmp X6.here hx rfl (hb hby at_94) rfl k) ?_
    refine own_via (U' := T6.setTop (mkF m 98 #[.val (.int x1), .val (.int x2), .val (.int x3), .val (.int P), .val (.int q), .val (.int pl), .val (.int r), .val (.long (r.toInt64)), .second, .val (.long (P.toInt64)), .second, .val (.long ((((q.toInt64) - (pl.toInt64)) + (P.toInt64)) - (1 : Int64))), .second] [])) (fun t k => XS.ifNo X6.here hx rfl (hb hby at_95) rfl (own_jnlt hfin.1).1 k) ?_
    refine own_via (U' := T6.setTop (mkF m 100 #[.val (.int x1), .val (.int x2), .val (.int x3), .val (.int P), .val (.int q), .val (.int pl), .val (.int r), .val (.long (r.toInt64)), .second, .val (.long (P.toInt64)), .second, .val (.long ((((q.toInt64) - (pl.toInt64)) + (P.toInt64)) - (1 : Int64))), .second] [(.long (r.toInt64))])) (fun t k => XS.lload X6.here hx rfl (hb hby at_98) rfl k) ?_
    refine own_via (U' := T6.setTop (mkF m 102 #[.val (.int x1), .val (.int x2), .val (.int x3), .val (.int P), .val (.int q), .val (.int pl), .val (.int r), .val (.long (r.toInt64)), .second, .val (.long (P.toInt64)), .second, .val (.long ((((q.toInt64) - (pl.toInt64)) + (P.toInt64)) - (1 : Int64))), .second] [(.long (P.toInt64)), (.long (r.toInt64))])) (fun t k => XS.lload X6.here hx rfl (hb hby at_100) rfl k) ?_
    refine own_via (U' := T6.setTop (mkF m 103 #[.val (.int x1), .val (.int x2), .val (.int x3), .val (.int P), .val (.int q), .val (.int pl), .val (.int r), .val (.long (r.toInt64)), .second, .val (.long (P.toInt64)), .second, .val (.long ((((q.toInt64) - (pl.toInt64)) + (P.toInt64)) - (1 : Int64))), .second] [(.long ((r.toInt64) * (P.toInt64)))])) (fun t k => XS.lmul X6.here hx rfl (hb hby at_102) rfl k) ?_
    refine own_via (U' := T6.setTop (mkF m 105 #[.val (.int x1), .val (.int x2), .val (.int x3), .val (.int P), .val (.int q), .val (.int pl), .val (.int r), .val (.long (r.toInt64)), .second, .val (.long (P.toInt64)), .second, .val (.long ((((q.toInt64) - (pl.toInt64)) + (P.toInt64)) - (1 : Int64))), .second] [(.long ((((q.toInt64) - (pl.toInt64)) + (P.toInt64)) - (1 : Int64))), (.long ((r.toInt64) * (P.toInt64)))])) (fun t k => XS.lload X6.here hx rfl (hb hby at_103) rfl k) ?_
    refine own_via (U' := T6.setTop (mkF m 106 #[.val (.int x1), .val (.int x2), .val (.int x3), .val (.int P), .val (.int q), .val (.int pl), .val (.int r), .val (.long (r.toInt64)), .second, .val (.long (P.toInt64)), .second, .val (.long ((((q.toInt64) - (pl.toInt64)) + (P.toInt64)) - (1 : Int64))), .second] [(.int (lcmpW ((r.toInt64) * (P.toInt64)) ((((q.toInt64) - (pl.toInt64)) + (P.toInt64)) - (1 : Int64))))])) (fun t k => XS.lcmp X6.here hx rfl (hb hby at_105) rfl k) ?_
    refine own_via (U' := T6.setTop (mkF m 109 #[.val (.int x1), .val (.int x2), .val (.int x3), .val (.int P), .val (.int q), .val (.int pl), .val (.int r), .val (.long (r.toInt64)), .second, .val (.long (P.toInt64)), .second, .val (.long ((((q.toInt64) - (pl.toInt64)) + (P.toInt64)) - (1 : Int64))), .second] [])) (fun t k => XS.ifNo X6.here hx rfl (hb hby at_106) rfl (own_jngt hfin.2.1).1 k) ?_
    refine own_via (U' := T6.setTop (mkF m 111 #[.val (.int x1), .val (.int x2), .val (.int x3), .val (.int P), .val (.int q), .val (.int pl), .val (.int r), .val (.long (r.toInt64)), .second, .val (.long (P.toInt64)), .second, .val (.long ((((q.toInt64) - (pl.toInt64)) + (P.toInt64)) - (1 : Int64))), .second] [(.long ((((q.toInt64) - (pl.toInt64)) + (P.toInt64)) - (1 : Int64)))])) (fun t k => XS.lload X6.here hx rfl (hb hby at_109) rfl k) ?_
    refine own_via (U' := T6.setTop (mkF m 113 #[.val (.int x1), .val (.int x2), .val (.int x3), .val (.int P), .val (.int q), .val (.int pl), .val (.int r), .val (.long (r.toInt64)), .second, .val (.long (P.toInt64)), .second, .val (.long ((((q.toInt64) - (pl.toInt64)) + (P.toInt64)) - (1 : Int64))), .second] [(.long (r.toInt64)), (.long ((((q.toInt64) - (pl.toInt64)) + (P.toInt64)) - (1 : Int64)))])) (fun t k => XS.lload X6.here hx rfl (hb hby at_111) rfl k) ?_
    refine own_via (U' := T6.setTop (mkF m 114 #[.val (.int x1), .val (.int x2), .val (.int x3), .val (.int P), .val (.int q), .val (.int pl), .val (.int r), .val (.long (r.toInt64)), .second, .val (.long (P.toInt64)), .second, .val (.long ((((q.toInt64) - (pl.toInt64)) + (P.toInt64)) - (1 : Int64))), .second] [(.long (1 : Int64)), (.long (r.toInt64)), (.long ((((q.toInt64) - (pl.toInt64)) + (P.toInt64)) - (1 : Int64)))])) (fun t k => XS.lconst X6.here hx rfl (hb hby at_113) k) ?_
    refine own_via (U' := T6.setTop (mkF m 115 #[.val (.int x1), .val (.int x2), .val (.int x3), .val (.int P), .val (.int q), .val (.int pl), .val (.int r), .val (.long (r.toInt64)), .second, .val (.long (P.toInt64)), .second, .val (.long ((((q.toInt64) - (pl.toInt64)) + (P.toInt64)) - (1 : Int64))), .second] [(.long ((r.toInt64) + (1 : Int64))), (.long ((((q.toInt64) - (pl.toInt64)) + (P.toInt64)) - (1 : Int64)))])) (fun t k => XS.ladd X6.here hx rfl (hb hby at_114) rfl k) ?_
    refine own_via (U' := T6.setTop (mkF m 117 #[.val (.int x1), .val (.int x2), .val (.int x3), .val (.int P), .val (.int q), .val (.int pl), .val (.int r), .val (.long (r.toInt64)), .second, .val (.long (P.toInt64)), .second, .val (.long ((((q.toInt64) - (pl.toInt64)) + (P.toInt64)) - (1 : Int64))), .second] [(.long (P.toInt64)), (.long ((r.toInt64) + (1 : Int64))), (.long ((((q.toInt64) - (pl.toInt64)) + (P.toInt64)) - (1 : Int64)))])) (fun t k => XS.lload X6.here hx rfl (hb hby at_115) rfl k) ?_
    refine own_via (U' := T6.setTop (mkF m 118 #[.val (.int x1), .val (.int x2), .val (.int x3), .val (.int P), .val (.int q), .val (.int pl), .val (.int r), .val (.long (r.toInt64)), .second, .val (.long (P.toInt64)), .second, .val (.long ((((q.toInt64) - (pl.toInt64)) + (P.toInt64)) - (1 : Int64))), .second] [(.long (((r.toInt64) + (1 : Int64)) * (P.toInt64))), (.long ((((q.toInt64) - (pl.toInt64)) + (P.toInt64)) - (1 : Int64)))])) (fun t k => XS.lmul X6.here hx rfl (hb hby at_117) rfl k) ?_
    refine own_via (U' := T6.setTop (mkF m 119 #[.val (.int x1), .val (.int x2), .val (.int x3), .val (.int P), .val (.int q), .val (.int pl), .val (.int r), .val (.long (r.toInt64)), .second, .val (.long (P.toInt64)), .second, .val (.long ((((q.toInt64) - (pl.toInt64)) + (P.toInt64)) - (1 : Int64))), .second] [(.int (lcmpW ((((q.toInt64) - (pl.toInt64)) + (P.toInt64)) - (1 : Int64)) (((r.toInt64) + (1 : Int64)) * (P.toInt64))))])) (fun t k => XS.lcmp X6.here hx rfl (hb hby at_118) rfl k) ?_
    refine own_via (U' := T6.setTop (mkF m 122 #[.val (.int x1), .val (.int x2), .val (.int x3), .val (.int P), .val (.int q), .val (.int pl), .val (.int r), .val (.long (r.toInt64)), .second, .val (.long (P.toInt64)), .second, .val (.long ((((q.toInt64) - (pl.toInt64)) + (P.toInt64)) - (1 : Int64))), .second] [])) (fun t k => XS.ifNo X6.here hx rfl (hb hby at_119) rfl (own_jlt hfin.2.2).2 k) ?_
    refine own_via (U' := T6.setTop (mkF m 123 #[.val (.int x1), .val (.int x2), .val (.int x3), .val (.int P), .val (.int q), .val (.int pl), .val (.int r), .val (.long (r.toInt64)), .second, .val (.long (P.toInt64)), .second, .val (.long ((((q.toInt64) - (pl.toInt64)) + (P.toInt64)) - (1 : Int64))), .second] [(.int (1 : Int32))])) (fun t k => XS.iconst X6.here hx rfl (hb hby at_122) k) ?_
    refine own_via (U' := T6.setTop (mkF m 127 #[.val (.int x1), .val (.int x2), .val (.int x3), .val (.int P), .val (.int q), .val (.int pl), .val (.int r), .val (.long (r.toInt64)), .second, .val (.long (P.toInt64)), .second, .val (.long ((((q.toInt64) - (pl.toInt64)) + (P.toInt64)) - (1 : Int64))), .second] [(.int (1 : Int32))])) (fun t k => XS.goto X6.here hx rfl (pc0 := 123) (pc' := 127) rfl (hb hby at_123) (by decide) (by decide) k) ?_
    exact own_ret X6 (v := some (.int (1 : Int32))) (fun h => by rw [Bd.returns] at h; cases h) hlk (fun fs hr => retN X6 hx (t := .boolean) Bd.returns (by simp) (hb hby at_127) hr) (by rw [e6]; exact ⟨rfl, N6⟩) (by decide) (by decide)
set_option maxRecDepth 65536 in
set_option maxHeartbeats 40000000 in
theorem comes_1 {Post : Tables → Env → Array Value → State → Outcome → State → Prop} (hpost : ∀ tb e args s v u, (limb_1_1.after args s (.returned v) u = true ∧ limb_1_2.after args s (.returned v) u = true ∧ True) → FrameEnd s (.returned v) u (Jvm.fieldLocs frame_1_writes args s ++ Jvm.arrayLocs frame_1_arrays args s ++ Jvm.staticLocs frame_1_statics s) 0 0 → Post tb e args s (.returned v) u) :
    ArmFor flags0 classFile x code maxLocals ret World_1 tables_1 room_1 Calls_1 rest_1 Pre_1 Post := by
  intro l hfl _ _ p e ha hc hk s m args below hf hA hF happ hP
  obtain ⟨hcalls, hrest, hpre⟩ := hP
  obtain ⟨-, -, -, hnamed, -, -, -, hat⟩ := (Spec.applies_iff hf).mp happ
  obtain ⟨hg, hn⟩ := and_e (Cond.before_iff.mp (show (Jvm.Cond.and given_1 narrow_1).before args s = true from hpre))
  obtain ⟨hcount, r0⟩ := and_e hg
  obtain ⟨k0, r1⟩ := and_e r0
  obtain ⟨k1, r2⟩ := and_e r1
  obtain ⟨w0, w1, w2, rfl⟩ : ∃ w0 w1 w2 : Value, args = #[w0, w1, w2] := by
    have hs : args.size = 3 := by simpa [Cond.value, given_1] using hcount
    obtain ⟨L⟩ := args
    match L, hs with
    | [w0, w1, w2], _ => exact ⟨w0, w1, w2, rfl⟩
  have hw := fun d (hd : d ∈ tables_1) => atoms_spec (ws := Jvm.Cond.code x code maxLocals ret :: tables_1) hat d (List.mem_cons_of_mem _ hd)
  have hfit : Fit s := fun {y c} hc i hi => by
    obtain ⟨ha, rfl⟩ := Array.getElem?_eq_some_iff.mp hc
    have q := List.all_eq_true.mp ((Array.all_eq_true_iff_forall_mem.mp hF) _ (Array.getElem_mem ha)) i (List.mem_range.mpr hi)
    simpa [Array.getElem?_eq_getElem hi] using q
  obtain ⟨i0, ei0⟩ := is_v k0
  obtain rfl : w0 = (.int i0) := Option.some.inj ei0
  obtain ⟨i1, ei1⟩ := is_v k1
  obtain rfl : w1 = (.int i1) := Option.some.inj ei1
  obtain ⟨i2, ei2⟩ := is_v r2
  obtain rfl : w2 = (.int i2) := Option.some.inj ei2
  obtain ⟨n, o, h1, h2, h3, _, L, rfl, ⟨rfl, N⟩, hq⟩ := rm_Q0 l s _ hw tables_1 i0 i1 i2 s.heap s.heap.size (Nat.le_refl _) p e ha hc hk s m _ below hf ((Spec.applies_iff_loose hf).mp happ).1 ⟨rfl, State.Warmed39.refl s, rfl⟩ trivial
  refine ⟨n, _, h1, h2, h3, hpost _ _ _ _ _ _ ⟨Cond.after_iff.mpr rfl, Cond.after_iff.mpr (eq_i res_at (Term.int_eval (1)) rfl), trivial⟩ ⟨hq.1, hq.2.1, (hq.2.2.sift fun y hy => Or.inr (N y hy)).mono (by decide) (by decide)⟩⟩
theorem main_1_1 : Claimed_1_1 := comes_1 fun _ _ _ _ _ _ h hF => ⟨h.1, hF⟩
theorem main_1_2 : Claimed_1_2 := comes_1 fun _ _ _ _ _ _ h hF => ⟨h.2.1, hF⟩
end Jvm.Pilot.@@N@@
namespace Jvm.Pilot.@@N@@
open Jvm Jvm.ClassFile Sem Op Lib Jvm.Free Jvm.Stand Jvm.Pilot.@@N@@.Jvm.D
/-! MADE BY PROGRAM (witnessworld.py) out of the Statement's table words and the real class files: 10 classes; the members and pool entries that the words name. The judged class is class 1, her method 1. -/
namespace start1
open Jvm.ClassFile
def u (s : String) : CpInfo := .utf8 (stringToUtf16 s)
/-- a pool by its gaps: so many unusable entries, then the entry; so many at the end -/
def gap : Nat → List CpInfo → List CpInfo
  | 0, r => r
  | n + 1, r => .unusable :: gap n r
def poolList (es : List (Nat × CpInfo)) (last : Nat) : List CpInfo := es.foldr (fun e r => gap e.1 (e.2 :: r)) (gap last [])
def pool (es : List (Nat × CpInfo)) (last : Nat) : Array CpInfo := ⟨poolList es last⟩
def fileOf (pool : Array CpInfo) (this : Nat) (attrs : Array Attribute := #[]) (ms : Array MethodInfo := #[]) (fl : Nat := 33) (sup : Nat := 0) (ifs : Array Nat := #[]) (fds : Array FieldInfo := #[]) : ClassFile where
  minorVersion := 0
  majorVersion := 65
  constantPool := pool
  accessFlags := fl
  thisClass := this
  superClass := sup
  interfaces := ifs
  fields := fds
  methods := ms
  attributes := attrs
def plain (name : String) (sup : Option ClassId) : Class where
  name := name
  kind := .ordinary
  loader := none
  accessFlags := 33
  super := sup
  interfaces := #[]
  cf := none
  fields := #[]
  methods := #[]
  instanceTypes := #[]
  staticTypes := #[]
  resolved := #[]
  callSites := []
  init := .initialized
  statics := none
  mirror := none

def pool0 : Array CpInfo := pool [(5, u "<init>"), (0, u "()V"), (1, .class_ 10), (1, u "java/lang/Object")] 113

def k0m0 : Method := { name := "<init>", desc := "()V", sig := { parameters := [], returnType := none }, accessFlags := 1, code := none }
/-- java/lang/Object -/
def k0 : Class := { plain "java/lang/Object" none with
  accessFlags := 33
  interfaces := #[]
  cf := some (fileOf pool0 8 #[] #[{ accessFlags := 1, nameIndex := 5, descriptorIndex := 6, attributes := #[] }] 33 0 #[] #[])
  fields := #[]
  methods := #[k0m0]
  instanceTypes := #[]
  staticTypes := #[]
  resolved := Array.replicate 124 none
  statics := none }

def pool1 : Array CpInfo := pool [(2, .class_ 4), (1, u "java/lang/Object"), (0, u "<init>"), (0, u "()V"), (0, .integer 2147483647), (0, .methodref 9 10), (0, .class_ 11), (0, .nameAndType 12 13), (0, u "java/lang/Math"), (0, u "max"), (0, u "(II)I"), (0, .methodref 15 16), (0, .class_ 17), (0, .nameAndType 18 19), (0, u "com/example/assignor/assignor/core/EvenSplit"), (0, u "share"), (0, u "(III)I"), (0, .class_ 21), (0, u "com/example/assignor/assignor/core/EvenSplitSharePinLaw"), (2, u "law"), (0, u "(III)Z")] 3

def k1m0 : Method := { name := "<init>", desc := "()V", sig := { parameters := [], returnType := none }, accessFlags := 2, code := none }
def k1c1 : Code := { maxStack := 6, maxLocals := 13, code := code, exceptionTable := #[], attributes := #[] }
def k1m1 : Method := { name := "law", desc := "(III)Z", sig := { parameters := [.int, .int, .int], returnType := some .boolean }, accessFlags := 9, code := some k1c1 }
/-- com/example/assignor/assignor/core/EvenSplitSharePinLaw -/
def k1 : Class := { plain "com/example/assignor/assignor/core/EvenSplitSharePinLaw" (some 0) with
  accessFlags := 49
  interfaces := #[]
  cf := some (fileOf pool1 20 #[] #[{ accessFlags := 2, nameIndex := 5, descriptorIndex := 6, attributes := #[] }, { accessFlags := 9, nameIndex := 24, descriptorIndex := 25, attributes := #[] }] 49 2 #[] #[])
  fields := #[]
  methods := #[k1m0, k1m1]
  instanceTypes := #[]
  staticTypes := #[]
  resolved := Array.replicate 29 none
  statics := none }

def pool2 : Array CpInfo := pool [(1, .class_ 2), (0, u "java/lang/Math"), (1, .class_ 6), (1, u "java/lang/Object"), (0, u "<init>"), (0, u "()V"), (89, .class_ 100), (1, u "java/lang/Math$RandomNumberGeneratorHolder"), (71, u "negativeZeroFloatBits"), (0, u "J"), (2, u "negativeZeroDoubleBits"), (21, u "max"), (46, u "$assertionsDisabled"), (0, u "Z"), (88, u "(II)I"), (2, u "twoToTheDoubleScaleDown"), (0, u "D"), (4, u "twoToTheDoubleScaleUp"), (9, u "E"), (3, u "PI"), (2, u "TAU"), (2, u "DEGREES_TO_RADIANS"), (0, u "RADIANS_TO_DEGREES")] 94

def k2m0 : Method := { name := "<init>", desc := "()V", sig := { parameters := [], returnType := none }, accessFlags := 2, code := none }
def k2c1 : Code := { maxStack := 2, maxLocals := 2, code := jdk_29_method_65_code, exceptionTable := #[], attributes := #[] }
def k2m1 : Method := { name := "max", desc := "(II)I", sig := { parameters := [.int, .int], returnType := some .int }, accessFlags := 9, code := some k2c1 }
/-- java/lang/Math -/
def k2 : Class := { plain "java/lang/Math" (some 0) with
  accessFlags := 49
  interfaces := #[]
  cf := some (fileOf pool2 1 #[.nestMembers #[98]] #[{ accessFlags := 2, nameIndex := 7, descriptorIndex := 8, attributes := #[] }, { accessFlags := 9, nameIndex := 198, descriptorIndex := 335, attributes := #[] }] 49 4 #[] #[{ accessFlags := 25, nameIndex := 354, descriptorIndex := 339, attributes := #[] }, { accessFlags := 25, nameIndex := 358, descriptorIndex := 339, attributes := #[] }, { accessFlags := 25, nameIndex := 361, descriptorIndex := 339, attributes := #[] }, { accessFlags := 26, nameIndex := 364, descriptorIndex := 339, attributes := #[] }, { accessFlags := 26, nameIndex := 365, descriptorIndex := 339, attributes := #[] }, { accessFlags := 26, nameIndex := 172, descriptorIndex := 173, attributes := #[] }, { accessFlags := 26, nameIndex := 176, descriptorIndex := 173, attributes := #[] }, { accessFlags := 8, nameIndex := 344, descriptorIndex := 339, attributes := #[] }, { accessFlags := 8, nameIndex := 338, descriptorIndex := 339, attributes := #[] }, { accessFlags := 4120, nameIndex := 245, descriptorIndex := 246, attributes := #[] }])
  fields := #[{ name := "E", type := .double, accessFlags := 25, slot := 0, constantValue := 0 }, { name := "PI", type := .double, accessFlags := 25, slot := 1, constantValue := 0 }, { name := "TAU", type := .double, accessFlags := 25, slot := 2, constantValue := 0 }, { name := "DEGREES_TO_RADIANS", type := .double, accessFlags := 26, slot := 3, constantValue := 0 }, { name := "RADIANS_TO_DEGREES", type := .double, accessFlags := 26, slot := 4, constantValue := 0 }, { name := "negativeZeroFloatBits", type := .long, accessFlags := 26, slot := 5, constantValue := 0 }, { name := "negativeZeroDoubleBits", type := .long, accessFlags := 26, slot := 6, constantValue := 0 }, { name := "twoToTheDoubleScaleUp", type := .double, accessFlags := 8, slot := 7, constantValue := 0 }, { name := "twoToTheDoubleScaleDown", type := .double, accessFlags := 8, slot := 8, constantValue := 0 }, { name := "$assertionsDisabled", type := .boolean, accessFlags := 4120, slot := 9, constantValue := 0 }]
  methods := #[k2m0, k2m1]
  instanceTypes := #[]
  staticTypes := #[.double, .double, .double, .double, .double, .long, .long, .double, .double, .boolean]
  resolved := Array.replicate 460 none
  statics := none }

def pool3 : Array CpInfo := pool [(2, .class_ 4), (1, u "java/lang/Object"), (0, u "<init>"), (0, u "()V"), (0, .class_ 8), (0, u "com/example/assignor/assignor/core/EvenSplit"), (2, u "share"), (0, u "(III)I")] 3

def k3m0 : Method := { name := "<init>", desc := "()V", sig := { parameters := [], returnType := none }, accessFlags := 2, code := none }
def k3c1 : Code := { maxStack := 3, maxLocals := 4, code := prog_19_method_2_code, exceptionTable := #[], attributes := #[] }
def k3m1 : Method := { name := "share", desc := "(III)I", sig := { parameters := [.int, .int, .int], returnType := some .int }, accessFlags := 8, code := some k3c1 }
/-- com/example/assignor/assignor/core/EvenSplit -/
def k3 : Class := { plain "com/example/assignor/assignor/core/EvenSplit" (some 0) with
  accessFlags := 32
  interfaces := #[]
  cf := some (fileOf pool3 7 #[] #[{ accessFlags := 2, nameIndex := 5, descriptorIndex := 6, attributes := #[] }, { accessFlags := 8, nameIndex := 11, descriptorIndex := 12, attributes := #[] }] 32 2 #[] #[])
  fields := #[]
  methods := #[k3m0, k3m1]
  instanceTypes := #[]
  staticTypes := #[]
  resolved := Array.replicate 16 none
  statics := none }

def pool4 : Array CpInfo := pool [(1, u "java/lang/Cloneable"), (0, .class_ 1), (0, u "java/lang/Object"), (0, .class_ 3)] 3

/-- java/lang/Cloneable -/
def k4 : Class := { plain "java/lang/Cloneable" (some 0) with
  accessFlags := 1537
  interfaces := #[]
  cf := some (fileOf pool4 2 #[] #[] 1537 4 #[] #[])
  fields := #[]
  methods := #[]
  instanceTypes := #[]
  staticTypes := #[]
  resolved := Array.replicate 8 none
  statics := none }

def pool5 : Array CpInfo := pool [(1, u "java/io/Serializable"), (0, .class_ 1), (0, u "java/lang/Object"), (0, .class_ 3)] 3

/-- java/io/Serializable -/
def k5 : Class := { plain "java/io/Serializable" (some 0) with
  accessFlags := 1537
  interfaces := #[]
  cf := some (fileOf pool5 2 #[] #[] 1537 4 #[] #[])
  fields := #[]
  methods := #[]
  instanceTypes := #[]
  staticTypes := #[]
  resolved := Array.replicate 8 none
  statics := none }

/-- the primitive byte -/
def k6 : Class := { plain "byte" none with kind := .primitive 'B', accessFlags := 0x411 }
/-- [B -/
def k7 : Class := { plain "[B" (some 0) with kind := .array 6 .byte, interfaces := #[4, 5], accessFlags := 1041 }

/-- the primitive int -/
def k8 : Class := { plain "int" none with kind := .primitive 'I', accessFlags := 0x411 }
/-- [I -/
def k9 : Class := { plain "[I" (some 0) with kind := .array 8 .int, interfaces := #[4, 5], accessFlags := 1041 }

def heap : Heap := #[]
def classes : Array Class := #[k0, k1, k2, k3, k4, k5, k6, k7, k8, k9]
def interned : List (Array UInt16 × Addr) := []
def slotsUsed : Nat := 0
def theMethod : MethodId := ⟨1, 1⟩
def args0 : Array Value := #[.int 5, .int 7, .int 9]
def aboutOver (below : List Frame) : State where
  vm := { classes := classes, interned := interned.toArray }
  heap := heap
  slotsUsed := slotsUsed
  threads := #[{ frames := .invoking theMethod args0 :: below }]
def below0 : List Frame := [.native { method := ⟨0, 0⟩, args := #[] }]
def about1 : State := aboutOver below0
def p0 : Program := .bare "" "" ""
def e0 : Env := launch0.env 0 0 0
theorem w_frames : about1.frames = Frame.invoking theMethod args0 :: below0 := rfl
set_option maxRecDepth 65536 in
theorem w_args : argsFit about1.vm theMethod args0 = true := by decide +kernel
set_option maxRecDepth 65536 in
theorem w_heap : heapFits about1 = true := by decide +kernel
set_option maxRecDepth 65536 in
theorem w_runnable : about1.curStatus? = some .runnable := by decide +kernel
set_option maxRecDepth 65536 in
theorem w_alone : about1.alone = true := by decide +kernel
set_option maxRecDepth 65536 in
theorem w_named : about1.methodNamed? x = some theMethod := by decide +kernel
set_option maxRecDepth 65536 in
theorem w_hears : about1.hears theMethod below0 = true := by decide +kernel
set_option maxRecDepth 65536 in
theorem w_ripe : about1.ripe theMethod args0 below0 = true := by decide +kernel
theorem w_running : about1.status = .running := rfl
set_option maxRecDepth 65536 in
theorem w_room : about1.hasRoom e0.platform room_1 = true :=
  launch0.hasRoom_least _ room_1 (by decide +kernel) (by decide +kernel) (by decide +kernel) (by decide +kernel) (by decide +kernel) (by decide +kernel)
theorem allAtoms_all (ts : List Jvm.Cond) (a : Array Jvm.Value) (st : Jvm.State) : (allAtoms ts).before a st = ts.all (fun c => c.before a st) := by
  induction ts with
  | nil => rfl
  | cons c t ih =>
    show (Jvm.Cond.and c (allAtoms t)).before a st = _
    rw [Jvm.Cond.before_and, ih, List.all_cons]
def words1 : List Jvm.Cond := Jvm.Cond.code x code maxLocals ret :: tables_1
/-- a 'code' word, met by the world's own term for the bytes: nothing is compared byte by byte -/
theorem code_word {y : MethodName} {bytes : ByteArray} {mx : Nat} {rt : Option FieldType} {a : Array Value} {s : State} {m : MethodId} {meth : Method} {c : Code} (h1 : s.methodNamed? y = some m) (h2 : s.vm.method? m = some meth) (h3 : meth.code = some c) (h4 : c.code = bytes)
    (h5 : (c.maxLocals == mx && c.exceptionTable.isEmpty && decide (c.maxStack ≤ mostOperands) && decide (meth.sig.returnType = rt) && !meth.locks && decide (parseMethodDescriptor y.desc = some meth.sig)) = true) : (Jvm.Cond.code y bytes mx rt).before a s = true := by
  simp only [Bool.and_eq_true, beq_iff_eq, Bool.not_eq_true', decide_eq_true_eq] at h5
  obtain ⟨⟨⟨⟨⟨g1, g2⟩, g3⟩, g4⟩, g5⟩, g6⟩ := h5
  simp [Cond.before, Cond.holds, Cond.value, h1, h2, h3, h4, g1, g2, g3, g4, g5, g6]
def isCode : Jvm.Cond → Bool
  | .code _ _ _ _ => true
  | _ => false
theorem all_split {L : List Jvm.Cond} {P : Jvm.Cond → Bool} (h1 : L.all (fun c => isCode c || P c) = true) (h2 : ∀ c ∈ L.filter isCode, P c = true) : L.all P = true := by
  refine List.all_eq_true.mpr fun c hc => ?_
  have h := List.all_eq_true.mp h1 c hc
  rcases Bool.eq_false_or_eq_true (isCode c) with hi | hi
  · exact h2 c (List.mem_filter.mpr ⟨hc, hi⟩)
  · simpa [hi] using h
set_option maxRecDepth 65536 in
theorem w_c0 : (Jvm.Cond.code x code maxLocals ret).before args0 about1 = true := code_word (m := ⟨1, 1⟩) (meth := k1m1) (c := k1c1) (by decide +kernel) rfl rfl rfl (by decide +kernel)
set_option maxRecDepth 65536 in
theorem w_c1 : (Jvm.Cond.code ({ cls := "java/lang/Math", name := "max", desc := "(II)I" } : Jvm.MethodName) jdk_29_method_65_code (2 : Nat) (Option.some Jvm.ClassFile.FieldType.int)).before args0 about1 = true := code_word (m := ⟨2, 1⟩) (meth := k2m1) (c := k2c1) (by decide +kernel) rfl rfl rfl (by decide +kernel)
set_option maxRecDepth 65536 in
theorem w_c2 : (Jvm.Cond.code ({ cls := "com/example/assignor/assignor/core/EvenSplit", name := "share", desc := "(III)I" } : Jvm.MethodName) prog_19_method_2_code (4 : Nat) (Option.some Jvm.ClassFile.FieldType.int)).before args0 about1 = true := code_word (m := ⟨3, 1⟩) (meth := k3m1) (c := k3c1) (by decide +kernel) rfl rfl rfl (by decide +kernel)
def codes1 : List Jvm.Cond := [Jvm.Cond.code x code maxLocals ret, Jvm.Cond.code ({ cls := "java/lang/Math", name := "max", desc := "(II)I" } : Jvm.MethodName) jdk_29_method_65_code (2 : Nat) (Option.some Jvm.ClassFile.FieldType.int), Jvm.Cond.code ({ cls := "com/example/assignor/assignor/core/EvenSplit", name := "share", desc := "(III)I" } : Jvm.MethodName) prog_19_method_2_code (4 : Nat) (Option.some Jvm.ClassFile.FieldType.int)]
set_option maxRecDepth 65536 in
theorem codes_eq : words1.filter isCode = codes1 := rfl
theorem w_codes : ∀ c ∈ words1.filter isCode, c.before args0 about1 = true := by
  rw [codes_eq]
  intro c hc
  simp only [codes1, List.mem_cons, List.not_mem_nil, or_false] at hc
  rcases hc with rfl | rfl | rfl
  · exact w_c0
  · exact w_c1
  · exact w_c2
set_option maxRecDepth 65536 in
theorem w_t1 : words1.all (fun c => isCode c || c.before args0 about1) = true := by decide +kernel
theorem w_tables : (allAtoms (Jvm.Cond.code x code maxLocals ret :: tables_1)).before args0 about1 = true := by
  rw [allAtoms_all]
  show words1.all (fun c => c.before args0 about1) = true
  refine all_split ?_ w_codes
  rw [w_t1]
set_option maxRecDepth 65536 in
theorem w_case : (Jvm.Cond.and given_1 narrow_1).before args0 about1 = true := by decide +kernel
theorem w_applies : (headSpec (Jvm.Cond.code x code maxLocals ret :: tables_1) room_1).applies x e0.platform about1 = true :=
  (Spec.applies_iff w_frames).mpr ⟨w_running, w_runnable, w_alone, w_named, w_hears, w_ripe, w_room, w_tables⟩
theorem atStart : AtStart classFile x code maxLocals ret World_1 tables_1 room_1 Calls_1 rest_1 Pre_1 launch0 p0 e0 about1 theMethod args0 below0 :=
  ⟨lists_1, trivial, launch0.admits_env _ _ _, launch0.least_env, fairChoices_fair.cas, fairChoices_fair.clock, w_frames, w_args, w_heap, w_applies, trivial, trivial, w_case⟩
end start1
theorem witness_1 : WitnessClaimed_1 := ⟨start1.p0, start1.e0, start1.about1, start1.theMethod, start1.args0, start1.below0, start1.atStart⟩
end Jvm.Pilot.@@N@@
