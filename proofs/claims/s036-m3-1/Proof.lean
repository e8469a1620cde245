import JvmDerived
import JvmDerived.Pilot.@@N@@Statement
import JvmDerived.Pilot.@@N@@Code
set_option linter.unusedVariables false
set_option linter.unusedSimpArgs false
namespace Jvm.Pilot.@@N@@
open Jvm Jvm.ClassFile Sem Op Lib Jvm.Free Jvm.Stand Jvm.LawKit Jvm.RoadKit Bundle Jvm.Pilot.@@N@@.Jvm.D
/-! own laws: the run from a state to the return, in continuation form -/
section OwnG
variable {p : Program} {l : Launch} {e : Env} {R : Room} {s : State} {m : MethodId} {args : Array Value} {below : List Frame} {meth : Method} {c : Code} {T : State} {locs : List Loc} {cells slots : Nat} {Z : State} {a0 : Array Value} {h : Heap} {Q : Option Value → Heap → List Loc → Prop} {ck sk : Nat}
def own_G (p : Program) (e : Env) (below : List Frame) (s : State) (Q : Option Value → Heap → List Loc → Prop) (ck sk : Nat) (U : State) : Prop :=
  ∃ s₂ o, Steps p.tables e below U s₂ ∧ s₂.status = .running ∧ Ended s₂ below o ∧ ∃ v L, o = .returned v ∧ Q v s₂.heap L ∧ FrameEnd s o s₂ L ck sk
theorem own_via {U U' : State} (k : ∀ t, Steps p.tables e below U' t → Steps p.tables e below U t) (g : own_G p e below s Q ck sk U') : own_G p e below s Q ck sk U := by
  obtain ⟨s2, o, h1, r⟩ := g
  exact ⟨s2, o, k _ h1, r⟩
theorem own_mono {Q' : Option Value → Heap → List Loc → Prop} {U : State} (k : ∀ v h L, Q v h L → Q' v h L) (g : own_G p e below s Q ck sk U) : own_G p e below s Q' ck sk U := by
  obtain ⟨s2, o, h1, h2, h3, v, L, h4, h5, h6⟩ := g
  exact ⟨s2, o, h1, h2, h3, v, L, h4, k _ _ _ h5, h6⟩
theorem own_ret (X : Stand p l e R s m args below meth c T locs cells slots) {v : Option Value} (hv : meth.sig.returnType = none → v = none) (hlk : meth.locks = false) {f : JFrame}
    (st : ∀ fs, (∀ (f : JFrame) (acts : List Action), f.method = m → f.locked = none → f.entered = [] → (doReturn e (T.setTop f) acts v).1 = T.setFrames fs) → Steps p.tables e below (T.setTop f) (T.setFrames fs))
    (hQ : Q v T.heap locs) (hc : cells ≤ ck) (hs : slots ≤ sk) : own_G p e below s Q ck sk (T.setTop f) := by
  obtain ⟨fs, hr, hrun, hended, hW, hsame⟩ := X.leave (v := v) hv hlk
  exact ⟨_, _, st fs hr, hrun, hended, _, _, rfl, hQ, ⟨_, rfl⟩, hW, hsame.mono hc hs⟩
theorem own_callS (X : Stand p l e R s m args below meth c T locs cells slots) (hx : p.tables.exec = Jvm.exec) (hZ : Z.Warmed39 s.vm) {own : String} {index : Nat} {y : MethodName} {bytes : ByteArray} {maxL : Nat} {ret : Option FieldType} {rm : Room} {as' : Array Value} {W : Nat}
    (hown : s.vm.findClass own = some m.cls) (w1 : (Jvm.Cond.methodLink own index y).before a0 Z = true) (w2 : (Jvm.Cond.static y).before a0 Z = true) (w3 : (Jvm.Cond.initialized y.cls).before a0 Z = true) (w4 : (Jvm.Cond.code y bytes maxL ret).before a0 Z = true)
    (hy : y.cls ≠ "java/lang/invoke/MethodHandle" ∧ y.cls ≠ "java/lang/invoke/VarHandle")
    (hM : MetFree l y (head1 [Jvm.Cond.code y bytes maxL ret] rm) (fun a U => a = as' ∧ Z.Warmed39 U.vm ∧ U.heap = h) (fun _ _ _ _ _ => True) (fun _ U o U' => ∃ v L, o = .returned v ∧ Q v U'.heap L ∧ FrameEnd U o U' L rm.cells rm.slots))
    (hf : rm.frames + 1 ≤ R.frames) (hl : W + (maxL + 11) + rm.locals ≤ R.locals) (eT : T.heap = h)
    {g : JFrame} (hg : g.method = m) (hsize : g.locals.size = c.maxLocals) {argsL rest : List Value} (has : argsL.toArray = as') (hlen : ∀ sig, parseMethodDescriptor y.desc = some sig → argsL.length = sig.parameters.length)
    (hstack : g.stack = argsL.reverse ++ rest) (hW : 2 * g.monitorRoom + (rest.map fun v => v.category).sum ≤ W) (hdg : decode c.code g.pc = .ok (.invokestatic index, 3))
    (hcells : cells + rm.cells ≤ R.cells) (hslots : slots + rm.slots ≤ R.slots) :
    ∃ v T' L', Stand p l e R s m args below meth c T' (locs ++ L') (cells + rm.cells) (slots + rm.slots) ∧ Q v T'.heap L' ∧ ∀ t, Steps p.tables e below (T'.setTop { g with pc := g.pc + 3, stack := v.toList ++ rest }) t → Steps p.tables e below (T.setTop g) t := by
  obtain ⟨v, vm1, ⟨T', L', k', n'⟩, -, X', ⟨Lc, hQ, q1, q2, q3⟩, st⟩ := Jvm.LawKit.callS X hx hown (mvT hZ w1) (mvT hZ w2) (mvT hZ w3) (mvT hZ w4) hy (backOf (W := W) hM hZ w4 w3 hf hl) hg hsize hlen hstack hW hdg (fun _ _ => ⟨has, eT, hcells, hslots⟩)
  dsimp only [Pt.U, Pt.locs, Pt.cells, Pt.slots] at X' q1 q2 q3 st hQ
  subst q1 q2 q3
  exact ⟨v, T', Lc, X', hQ, st⟩
theorem own_callI (X : Stand p l e R s m args below meth c T locs cells slots) (hx : p.tables.exec = Jvm.exec) (hZ : Z.Warmed39 s.vm) {own : String} {index : Nat} {y : MethodName} (hy1 : y.name = "<init>") {bytes : ByteArray} {maxL : Nat} {rm : Room} {as' : Array Value} {W : Nat}
    (hown : s.vm.findClass own = some m.cls) (w1 : (Jvm.Cond.methodLink own index y).before a0 Z = true) (w2 : (Jvm.Cond.instanceMethod y).before a0 Z = true) (w3 : (Jvm.Cond.initialized y.cls).before a0 Z = true) (w4 : (Jvm.Cond.code y bytes maxL none).before a0 Z = true)
    (hy : y.cls ≠ "java/lang/invoke/MethodHandle" ∧ y.cls ≠ "java/lang/invoke/VarHandle")
    (hM : MetFree l y (head1 [Jvm.Cond.code y bytes maxL none] rm) (fun a U => a = as' ∧ Z.Warmed39 U.vm ∧ U.heap = h) (fun _ _ _ _ _ => True) (fun _ U o U' => ∃ v L, o = .returned v ∧ Q v U'.heap L ∧ FrameEnd U o U' L rm.cells rm.slots))
    (hf : rm.frames + 1 ≤ R.frames) (hl : W + (maxL + 11) + rm.locals ≤ R.locals) (eT : T.heap = h)
    {g : JFrame} (hg : g.method = m) (hsize : g.locals.size = c.maxLocals) {a : Addr} {argsL rest : List Value} (has : (.ref a :: argsL).toArray = as') (hlen : ∀ sig, parseMethodDescriptor y.desc = some sig → argsL.length = sig.parameters.length)
    (hstack : g.stack = argsL.reverse ++ .ref a :: rest) (hW : 2 * g.monitorRoom + (rest.map fun v => v.category).sum ≤ W) (hdg : decode c.code g.pc = .ok (.invokespecial index, 3))
    (hcells : cells + rm.cells ≤ R.cells) (hslots : slots + rm.slots ≤ R.slots) :
    ∃ v T' L', Stand p l e R s m args below meth c T' (locs ++ L') (cells + rm.cells) (slots + rm.slots) ∧ Q v T'.heap L' ∧ ∀ t, Steps p.tables e below (T'.setTop { g with pc := g.pc + 3, stack := v.toList ++ rest }) t → Steps p.tables e below (T.setTop g) t := by
  obtain ⟨v, vm1, ⟨T', L', k', n'⟩, -, X', ⟨Lc, hQ, q1, q2, q3⟩, st⟩ := X.specialBack hx hy1 hown (mvT hZ w1) (mvT hZ w2) (mvT hZ w4) hy (backOf (W := W) hM hZ w4 w3 hf hl) hg hsize (Steps.refl _) hlen hstack hW hdg (fun _ _ => ⟨has, eT, hcells, hslots⟩)
  dsimp only [Pt.U, Pt.locs, Pt.cells, Pt.slots] at X' q1 q2 q3 st hQ
  subst q1 q2 q3
  exact ⟨v, T', Lc, X', hQ, fun t k => st.trans k⟩
theorem own_callV (X : Stand p l e R s m args below meth c T locs cells slots) (hx : p.tables.exec = Jvm.exec) (hZ : Z.Warmed39 s.vm) {own : String} {index : Nat} {y : MethodName} {bytes : ByteArray} {maxL : Nat} {ret : Option FieldType} {rm : Room} {as' : Array Value} {W : Nat} {C : String}
    (hown : s.vm.findClass own = some m.cls) (w1 : (Jvm.Cond.methodLink own index y).before a0 Z = true) (w2 : (Jvm.Cond.declares y).before a0 Z = true) (w5 : (Jvm.Cond.selects C y y).before a0 Z = true) (w6 : (Jvm.Cond.instanceMethod y).before a0 Z = true) (w3 : (Jvm.Cond.initialized y.cls).before a0 Z = true) (w4 : (Jvm.Cond.code y bytes maxL ret).before a0 Z = true)
    (hy : y.cls ≠ "java/lang/invoke/MethodHandle" ∧ y.cls ≠ "java/lang/invoke/VarHandle")
    (hM : MetFree l y (head1 [Jvm.Cond.code y bytes maxL ret] rm) (fun a U => a = as' ∧ Z.Warmed39 U.vm ∧ U.heap = h) (fun _ _ _ _ _ => True) (fun _ U o U' => ∃ v L, o = .returned v ∧ Q v U'.heap L ∧ FrameEnd U o U' L rm.cells rm.slots))
    (hf : rm.frames + 1 ≤ R.frames) (hl : W + (maxL + 11) + rm.locals ≤ R.locals) (eT : T.heap = h) {b : Addr} (E : Exa Z h b C)
    {g : JFrame} (hg : g.method = m) (hsize : g.locals.size = c.maxLocals) {argsL rest : List Value} (has : (.ref b :: argsL).toArray = as') (hlen : ∀ sig, parseMethodDescriptor y.desc = some sig → argsL.length = sig.parameters.length)
    (hstack : g.stack = argsL.reverse ++ .ref b :: rest) (hW : 2 * g.monitorRoom + (rest.map fun v => v.category).sum ≤ W) (hdg : decode c.code g.pc = .ok (.invokevirtual index, 3))
    (hcells : cells + rm.cells ≤ R.cells) (hslots : slots + rm.slots ≤ R.slots) :
    ∃ v T' L', Stand p l e R s m args below meth c T' (locs ++ L') (cells + rm.cells) (slots + rm.slots) ∧ Q v T'.heap L' ∧ ∀ t, Steps p.tables e below (T'.setTop { g with pc := g.pc + 3, stack := v.toList ++ rest }) t → Steps p.tables e below (T.setTop g) t := by
  obtain ⟨cq, kq, qa, qb, qc⟩ := isOf hZ eT E
  obtain ⟨v, vm1, ⟨T', L', k', n'⟩, -, X', ⟨Lc, hQ, q1, q2, q3⟩, st⟩ := X.virtualBack hx hown (mvT hZ w1) (mvT hZ w2) (notFace_of_selects (args := #[]) (mvT hZ w5)) (mvT hZ w5) (mvT hZ w6) hy (backOf (W := W) hM hZ w4 w3 hf hl) qa qc hg hsize (Steps.refl _) hlen hstack hW hdg (fun _ _ => ⟨has, eT, hcells, hslots⟩)
  dsimp only [Pt.U, Pt.locs, Pt.cells, Pt.slots] at X' q1 q2 q3 st hQ
  subst q1 q2 q3
  exact ⟨v, T', Lc, X', hQ, fun t k => st.trans k⟩
end OwnG
theorem own_jlt {x y : Int64} (h : x < y) : ifCond.holds .lt (lcmpW x y) = true ∧ ifCond.holds .ge (lcmpW x y) = false := by
  have q := (lw_lt x y).mpr h
  exact ⟨(if0 _ _).trans (tlt q).1, (if0 _ _).trans (tlt q).2.1⟩
theorem own_jnlt {x y : Int64} (h : ¬ x < y) : ifCond.holds .lt (lcmpW x y) = false ∧ ifCond.holds .ge (lcmpW x y) = true := by
  have q := fun z => h ((lw_lt x y).mp z)
  exact ⟨(if0 _ _).trans (flt q).1, (if0 _ _).trans (flt q).2.1⟩
theorem own_jgt {x y : Int64} (h : y < x) : ifCond.holds .gt (lcmpW x y) = true ∧ ifCond.holds .le (lcmpW x y) = false := by
  have q := (lw_gt x y).mpr h
  exact ⟨(if0 _ _).trans (tlt q).2.2.1, (if0 _ _).trans (tlt q).2.2.2⟩
theorem own_jngt {x y : Int64} (h : ¬ y < x) : ifCond.holds .gt (lcmpW x y) = false ∧ ifCond.holds .le (lcmpW x y) = true := by
  have q := fun z => h ((lw_gt x y).mp z)
  exact ⟨(if0 _ _).trans (flt q).2.2.1, (if0 _ _).trans (flt q).2.2.2⟩
theorem own_jeq {x y : Int64} (h : x = y) : ifCond.holds .eq (lcmpW x y) = true ∧ ifCond.holds .ne (lcmpW x y) = false := by
  have q := (lw_eq x y).mpr h
  exact ⟨(if0 _ _).trans (teq q).1, (if0 _ _).trans (teq q).2⟩
theorem own_jne {x y : Int64} (h : ¬ x = y) : ifCond.holds .eq (lcmpW x y) = false ∧ ifCond.holds .ne (lcmpW x y) = true := by
  have q := fun z => h ((lw_eq x y).mp z)
  exact ⟨(if0 _ _).trans (feq q).1, (if0 _ _).trans (feq q).2⟩
theorem own_sta_keep {Z : State} {h h' : Heap} {C n d : String} {v : Value} {ws : List Addr} (F : Sta Z h C n d v) (K : Keep h h' ws) (q : ∀ x ∈ ws, ∃ cell : Cell, h[x]? = some cell ∧ cell.vm.isStatics = false) : Sta Z h' C n d v := by
  obtain ⟨cf, i, k, f, st, cell, h1, h2, h3, h4, h5, h6, h7⟩ := F
  refine ⟨cf, i, k, f, st, cell, h1, h2, h3, h4, K.2.1 st cell h5 (fun hm => ?_), h6, h7⟩
  obtain ⟨c', e1, e2⟩ := q st hm
  cases h5.symm.trans e1
  rw [e2] at h6; cases h6
theorem own_exa_ns {Z : State} {h : Heap} {a : Addr} {C : String} (E : Exa Z h a C) : ∃ cell : Cell, h[a]? = some cell ∧ cell.vm.isStatics = false := by
  obtain ⟨cell, k, h1, -, -, h4, -⟩ := E
  exact ⟨cell, h1, h4⟩
theorem own_arv_ns {Z : State} {h : Heap} {a : Addr} {k : ClassId} {ty : FieldType} {z : Int32} {vs : List Value} {dv : Value} (F : Arv Z h a k ty z vs dv) : ∃ cell : Cell, h[a]? = some cell ∧ cell.vm.isStatics = false := by
  obtain ⟨c, A, -⟩ := F
  exact ⟨c, A.1, A.plain⟩
theorem own_seg {tb : Tables} {e : Env} {below : List Frame} {U U' t : State} (a : Steps tb e below U' t → Steps tb e below U t) (b : Steps tb e below U' t) : Steps tb e below U t := a b
theorem own_NSroot {Z : State} {a0 : Array Value} {O K : String} {n : Nat} (w : (Jvm.Cond.noSuperclass O).before a0 Z = true) (wk : (Jvm.Cond.instantiable K n).before a0 Z = true) (hn : O ≠ K) : NS Z O K := by
  obtain ⟨c, k, h1, h2, h3, -, -⟩ := Cond.noSuperclass_spec w
  obtain ⟨t, kt, g1, -⟩ := Cond.instantiable_spec wk
  refine ⟨c, t, h1, g1, fun fuel => ?_⟩
  have ne := ids_ne h1 g1 hn
  cases fuel <;> simp [Vm.isSubclassAux, ne, h2, h3]
theorem own_NSno {Z : State} {a0 : Array Value} {C S K : String} {n : Nat} (w : (Jvm.Cond.superclass C S).before a0 Z = true) (wk : (Jvm.Cond.instantiable K n).before a0 Z = true) (nn : NS Z C K) (hn : C ≠ K) : ∃ c t, Z.vm.findClass C = some c ∧ Z.vm.findClass K = some t ∧ Z.vm.assignable c t = false := by
  obtain ⟨c, t, h0, g0, n3⟩ := nn
  obtain ⟨p, k, kp, h1, h2, h3, h4, h5, -, h7⟩ := Cond.superclass_spec h0 w
  obtain ⟨t', kt, g1, g2, g3, g4, -⟩ := Cond.instantiable_spec wk
  cases g0.symm.trans g1
  have g7 : kt.isInterface = false := by cases q : kt.isInterface <;> simp [q] at g4 ⊢
  have ne := ids_ne h0 g0 hn
  refine ⟨c, t, h0, g0, ?_⟩
  show Z.vm.assignableAux (255 + 1) c t = false
  simp [Vm.assignableAux, ne, h2, g2, h5, g3, g7, Vm.isSubclass, n3]
open Jvm.FP.Core in
theorem own_oshift (s t : Bool) (c d : Nat) (q r : Int) (u : Int) : order (.fin s c (q + u)) (.fin t d (r + u)) = order (.fin s c q) (.fin t d r) := by
  simp only [order, inUnits]
  rw [show min (q + u) (r + u) = min q r + u by omega, show q + u - (min q r + u) = q - min q r by omega, show r + u - (min q r + u) = r - min q r by omega]
open Jvm.FP.Core in
theorem own_smul (s : Bool) (c k : Nat) : signed s (c * k) = signed s c * (k : Int) := by
  unfold signed; cases s <;> simp [Int.neg_mul]
open Jvm.FP.Core in
theorem own_wshift {k : Int} {t : Bool} {d : Nat} {r : Int} (u : Nat) (h : Whole k (.fin t d r)) : Whole (k * ((2 ^ u : Nat) : Int)) (.fin t d (r + u)) := by
  have h : signed t (d * 2 ^ r.toNat) = k * ((2 ^ (-r).toNat : Nat) : Int) := h
  show signed t (d * 2 ^ (r + u).toNat) = k * ((2 ^ u : Nat) : Int) * ((2 ^ (-(r + u)).toNat : Nat) : Int)
  rw [own_smul] at h ⊢
  have e : r.toNat + u + (-(r + u)).toNat = (r + u).toNat + (-r).toNat := by omega
  have p : (0 : Int) < ((2 ^ (-r).toNat : Nat) : Int) := by have := Nat.two_pow_pos (-r).toNat; omega
  apply Int.eq_of_mul_eq_mul_right (Int.ne_of_gt p)
  have e2 : ((2 ^ r.toNat : Nat) : Int) * ((2 ^ u : Nat) : Int) * ((2 ^ (-(r + u)).toNat : Nat) : Int) = ((2 ^ (r + u).toNat : Nat) : Int) * ((2 ^ (-r).toNat : Nat) : Int) := by
    rw [← Int.natCast_mul, ← Int.natCast_mul, ← Int.natCast_mul, ← Nat.pow_add, ← Nat.pow_add, ← Nat.pow_add, e]
  rw [Int.mul_assoc, ← e2, ← Int.mul_assoc, ← Int.mul_assoc, h]
  simp only [Int.mul_assoc, Int.mul_comm, Int.mul_left_comm]
open Jvm.FP.Core in
theorem own_near {A B u K : Nat} (hB : 0 < B) (hu : B ≤ 2 ^ u) : (nearest (A * 2 ^ u) B < K * 2 ^ u ↔ A < K * B) ∧ (nearest (A * 2 ^ u) B = K * 2 ^ u ↔ A = K * B) := by
  have g : ∀ M, M * B ≤ A * 2 ^ u → M ≤ nearest (A * 2 ^ u) B := fun M h => nearest_ge hB h
  have l : ∀ M, A * 2 ^ u ≤ M * B → nearest (A * 2 ^ u) B ≤ M := fun M h => nearest_le hB h
  have p := Nat.two_pow_pos u
  rcases Nat.lt_trichotomy A (K * B) with h | h | h
  · have h1 : nearest (A * 2 ^ u) B ≤ K * 2 ^ u - 1 := l _ (by
      have : (A + 1) * 2 ^ u ≤ K * B * 2 ^ u := Nat.mul_le_mul_right _ h
      have e1 : (A + 1) * 2 ^ u = A * 2 ^ u + 2 ^ u := Nat.succ_mul _ _
      have e2 : (K * 2 ^ u - 1) * B = K * B * 2 ^ u - B := by rw [Nat.sub_mul, Nat.one_mul, Nat.mul_right_comm]
      rw [e2]; omega)
    have h2 : 0 < K := by
      rcases Nat.eq_zero_or_pos K with q | q
      · rw [q] at h; omega
      · exact q
    have h3 : 0 < K * 2 ^ u := Nat.mul_pos h2 p
    omega
  · have e : nearest (A * 2 ^ u) B = K * 2 ^ u := by
      have q := nearest_exact (B := B) (K * 2 ^ u) hB
      rw [h, Nat.mul_right_comm]; exact q
    omega
  · have h1 : K * 2 ^ u + 1 ≤ nearest (A * 2 ^ u) B := g _ (by
      have : (K * B + 1) * 2 ^ u ≤ A * 2 ^ u := Nat.mul_le_mul_right _ h
      have e1 : (K * B + 1) * 2 ^ u = K * B * 2 ^ u + 2 ^ u := Nat.succ_mul _ _
      have e2 : (K * 2 ^ u + 1) * B = K * B * 2 ^ u + B := by rw [Nat.add_mul, Nat.one_mul, Nat.mul_right_comm]
      rw [e2]; omega)
    omega
open Jvm.FP.Core in
theorem own_scmp {s : Bool} {m A B u : Nat} {k : Int} (hm : ∀ K : Nat, (m < K * 2 ^ u ↔ A < K * B) ∧ (m = K * 2 ^ u ↔ A = K * B)) (hB : 0 < B) : compare (signed s m) (k * ((2 ^ u : Nat) : Int)) = compare (signed s A) (k * (B : Int)) := by
  have p := Nat.two_pow_pos u
  have h0 := hm 0
  have hk := hm k.natAbs
  have e1 : ((k.natAbs * 2 ^ u : Nat) : Int) = (k.natAbs : Int) * ((2 ^ u : Nat) : Int) := Int.natCast_mul _ _
  have e2 : ((k.natAbs * B : Nat) : Int) = (k.natAbs : Int) * (B : Int) := Int.natCast_mul _ _
  have p1 : 0 < k.natAbs → 0 < k.natAbs * 2 ^ u := fun q => Nat.mul_pos q p
  have p2 : 0 < k.natAbs → 0 < k.natAbs * B := fun q => Nat.mul_pos q hB
  rcases Int.lt_or_le k 0 with q | q
  · have f : k = -(k.natAbs : Int) := by omega
    have f1 : k * ((2 ^ u : Nat) : Int) = -((k.natAbs * 2 ^ u : Nat) : Int) := by rw [e1, ← Int.neg_mul, ← f]
    have f2 : k * (B : Int) = -((k.natAbs * B : Nat) : Int) := by rw [e2, ← Int.neg_mul, ← f]
    rw [f1, f2]
    have z1 := p1 (by omega)
    have z2 := p2 (by omega)
    generalize k.natAbs * 2 ^ u = a at *
    generalize k.natAbs * B = b at *
    apply compare_congr <;> unfold signed <;> cases s <;> simp <;> omega
  · have f : k = (k.natAbs : Int) := by omega
    have f1 : k * ((2 ^ u : Nat) : Int) = ((k.natAbs * 2 ^ u : Nat) : Int) := by rw [e1, ← f]
    have f2 : k * (B : Int) = ((k.natAbs * B : Nat) : Int) := by rw [e2, ← f]
    rw [f1, f2]
    simp only [Nat.zero_mul] at h0
    by_cases z : k.natAbs = 0
    · rw [z] at *; simp only [Nat.zero_mul] at *
      apply compare_congr <;> unfold signed <;> cases s <;> simp <;> omega
    · have z1 := p1 (by omega)
      have z2 := p2 (by omega)
      generalize k.natAbs * 2 ^ u = a at *
      generalize k.natAbs * B = b at *
      apply compare_congr <;> unfold signed <;> cases s <;> simp <;> omega
open Jvm.FP.Core in
theorem own_rr {s : Bool} {A B : Nat} (hA : 0 < A) (hB : 0 < B) (hA2 : A < 2 ^ 52) (hB2 : B < 2 ^ 53) {k : Int} {z : Datum} (hz : Whole k z) :
    order (roundRatio b64 s A B 0) z = some (compare (signed s A) (k * (B : Int))) := by
  have l1 : A.log2 < 52 := (Nat.log2_lt (by omega)).mpr hA2
  have l2 : B.log2 < 53 := (Nat.log2_lt (by omega)).mpr hB2
  have l3 : B < 2 ^ (B.log2 + 1) := Nat.lt_log2_self
  have hlead : leading A B ≤ (A.log2 : Int) - (B.log2 : Int) := by
    unfold leading; dsimp only; split <;> omega
  have hqm : b64.qmin = -1074 := by decide
  have hqx : b64.qmax = 971 := by decide
  have hp : b64.p = 53 := rfl
  have hq : quantum b64 A B 0 ≤ -((B.log2 : Int) + 1) := by
    unfold quantum; rw [hqm, hp]; omega
  obtain ⟨u, hu⟩ : ∃ u : Nat, quantum b64 A B 0 = -(u : Int) := ⟨(-quantum b64 A B 0).toNat, by omega⟩
  have hBu : B ≤ 2 ^ u := Nat.le_trans (Nat.le_of_lt l3) (Nat.pow_le_pow_right (by decide) (by omega))
  have hmm := nearest_units_le (f := b64) hA hB 0
  cases z with
  | nan => exact hz.elim
  | inf => exact hz.elim
  | fin t d r =>
    unfold roundRatio
    rw [if_neg (by omega)]
    unfold roundAt
    rw [hu] at hmm ⊢
    have e1 : unitsNum A 0 (-(u : Int)) = A * 2 ^ u := by unfold unitsNum; rw [show (0 - -(u : Int)).toNat = u by omega]
    have e2 : unitsDen B 0 (-(u : Int)) = B := by unfold unitsDen; rw [show (-(u : Int) - 0).toNat = 0 by omega]; simp
    rw [e1, e2] at hmm ⊢
    have hK := fun K => own_near (A := A) (B := B) (u := u) (K := K) hB hBu
    generalize nearest (A * 2 ^ u) B = m at *
    unfold settle
    split
    · unfold bound
      rw [if_pos (by omega), ← own_oshift s t m d (-(u : Int)) r (u : Int), show -(u : Int) + (u : Int) = 0 by omega]
      have w1 : Whole (signed s m) (.fin s m 0) := by show signed s (m * 2 ^ (0 : Int).toNat) = signed s m * ((2 ^ (-(0 : Int)).toNat : Nat) : Int); simp
      rw [order_whole w1 (own_wshift u hz), own_scmp hK hB]
    · unfold bound
      rw [if_pos (by omega), ← own_oshift s t _ d (-(u : Int) + 1) r (u : Int), show -(u : Int) + 1 + (u : Int) = 1 by omega]
      have w1 : Whole (signed s m) (.fin s b64.tails 1) := by
        have e3 : m = b64.tails * 2 := by
          have : b64.tails * 2 = 2 ^ b64.p := by decide
          omega
        show signed s (b64.tails * 2 ^ (1 : Int).toNat) = signed s m * ((2 ^ (-(1 : Int)).toNat : Nat) : Int)
        rw [e3]; simp
      rw [order_whole w1 (own_wshift u hz), own_scmp hK hB]
open Jvm.FP.Core in
theorem own_key {c d N D : Nat} {q r : Int} (h1 : c * 2 ^ q.toNat = N * 2 ^ (-q).toNat) (h2 : d * 2 ^ r.toNat = D * 2 ^ (-r).toNat) : c * D * 2 ^ (q - r - 0).toNat = N * d * 2 ^ (0 - (q - r)).toNat := by
  have e : (-q).toNat + r.toNat + (q - r - 0).toNat = (0 - (q - r)).toNat + q.toNat + (-r).toNat := by omega
  have p : 0 < 2 ^ q.toNat * 2 ^ (-r).toNat := Nat.mul_pos (Nat.two_pow_pos _) (Nat.two_pow_pos _)
  apply Nat.eq_of_mul_eq_mul_right p
  have f1 : c * D * 2 ^ (q - r - 0).toNat * (2 ^ q.toNat * 2 ^ (-r).toNat) = (c * 2 ^ q.toNat) * (D * 2 ^ (-r).toNat) * 2 ^ (q - r - 0).toNat := by
    simp only [Nat.mul_assoc, Nat.mul_comm, Nat.mul_left_comm]
  have f2 : N * d * 2 ^ (0 - (q - r)).toNat * (2 ^ q.toNat * 2 ^ (-r).toNat) = N * d * (2 ^ ((0 - (q - r)).toNat + q.toNat + (-r).toNat)) := by
    rw [Nat.pow_add, Nat.pow_add]; simp only [Nat.mul_assoc]
  have f3 : (N * 2 ^ (-q).toNat) * (d * 2 ^ r.toNat) * 2 ^ (q - r - 0).toNat = N * d * (2 ^ ((-q).toNat + r.toNat + (q - r - 0).toNat)) := by
    rw [Nat.pow_add, Nat.pow_add]; simp only [Nat.mul_assoc, Nat.mul_comm, Nat.mul_left_comm]
  rw [f1, h1, ← h2, f3, e, f2]
open Jvm.FP.Core in
theorem own_ssign {N D : Int} (hN : N ≠ 0) (hD : D ≠ 0) : signed (decide (N < 0) != decide (D < 0)) N.natAbs = N * D.sign := by
  rcases Int.lt_or_lt_of_ne hD with h | h
  · rw [Int.sign_eq_neg_one_of_neg h]
    rcases Int.lt_or_lt_of_ne hN with g | g <;> simp [signed, h, g, Int.not_lt.mpr (Int.le_of_lt g)] <;> omega
  · rw [Int.sign_eq_one_of_pos h]
    rcases Int.lt_or_lt_of_ne hN with g | g <;> simp [signed, g, Int.not_lt.mpr (Int.le_of_lt h), Int.not_lt.mpr (Int.le_of_lt g)] <;> omega
open Jvm.FP.Core in
theorem own_qform {N D : Int} {x y : UInt64} (hx : DInt N x) (hy : DInt D y) (hD : D ≠ 0) : ∃ s : Bool, (N ≠ 0 → s = (decide (N < 0) != decide (D < 0))) ∧ val64 (Jvm.FP.Core.ddiv x y) = roundRatio b64 s N.natAbs D.natAbs 0 := by
  unfold DInt at hx hy
  rw [val64_ddiv]
  cases hvx : val64 x with
  | nan => rw [hvx] at hx; exact hx.elim
  | inf => rw [hvx] at hx; exact hx.elim
  | fin s c q =>
    cases hvy : val64 y with
    | nan => rw [hvy] at hy; exact hy.elim
    | inf => rw [hvy] at hy; exact hy.elim
    | fin t d r =>
      rw [hvx] at hx; rw [hvy] at hy
      have hd0 : d ≠ 0 := fun h => hD ((whole_zero hy).mp h)
      refine ⟨s != t, fun hN => by rw [whole_sign hx hN, whole_sign hy hD], ?_⟩
      simp only [quotient]
      rw [if_neg hd0]
      exact roundRatio_congr (by omega) (by omega) (own_key (whole_natAbs hx) (whole_natAbs hy))
open Jvm.FP.Core in
theorem own_quot {N D k : Int} {x y z : UInt64} (hx : DInt N x) (hy : DInt D y) (hz : DInt k z) (hD : D ≠ 0) (bN : N.natAbs < 2 ^ 52) (bD : D.natAbs < 2 ^ 53) :
    FP.dcmp (FP.ddiv x y) z = some (compare (N * D.sign) (k * (D.natAbs : Int))) := by
  show order (val64 (Jvm.FP.Core.ddiv x y)) (val64 z) = _
  obtain ⟨s, hs, e⟩ := own_qform hx hy hD
  rw [e]
  by_cases hN : N = 0
  · subst hN
    have w : Whole 0 (.fin s 0 b64.qmin) := by show signed s (0 * 2 ^ b64.qmin.toNat) = 0 * ((2 ^ (-b64.qmin).toNat : Nat) : Int); simp [signed]
    show order (roundRatio b64 s 0 D.natAbs 0) (val64 z) = _
    unfold roundRatio
    rw [if_pos rfl, order_whole w hz]
    congr 1
    have p : (0 : Int) < (D.natAbs : Int) := by omega
    rw [Int.zero_mul]
    apply compare_congr
    · constructor
      · intro h; exact Int.mul_pos h p
      · intro h
        rcases Int.lt_or_le 0 k with g | g
        · exact g
        · have := Int.mul_le_mul_of_nonneg_right g (Int.le_of_lt p); omega
    · constructor
      · intro h; rw [← h]; simp
      · intro h
        have := Int.mul_eq_zero.mp h.symm
        omega
  · rw [own_rr (by omega) (by omega) bN bD hz, hs hN, own_ssign hN hD]
open Jvm.FP.Core in
theorem own_quot' {N D k : Int} {x y z : UInt64} (hx : DInt N x) (hy : DInt D y) (hz : DInt k z) (hD : D ≠ 0) (bN : N.natAbs < 2 ^ 52) (bD : D.natAbs < 2 ^ 53) :
    FP.dcmp z (FP.ddiv x y) = some (compare (k * (D.natAbs : Int)) (N * D.sign)) := by
  have h := own_quot hx hy hz hD bN bD
  show order (val64 z) (val64 (Jvm.FP.Core.ddiv x y)) = _
  rw [order_swap, show order (val64 (Jvm.FP.Core.ddiv x y)) (val64 z) = _ from h]
  show some (Ordering.swap _) = _
  congr 1
  rw [Int.compare_swap]
open Jvm.FP.Core in
theorem own_nn {N D : Int} {x y : UInt64} (hx : DInt N x) (hy : DInt D y) (hD : D ≠ 0) : Jvm.Free.Fl.NoNaN64 (FP.ddiv x y) := by
  obtain ⟨s, -, e⟩ := own_qform hx hy hD
  exact Jvm.Free.Fl.val64_no.mpr (by rw [show val64 (FP.ddiv x y) = _ from e]; exact roundRatio_ne_nan _ _ _ _ _)
theorem own_sh8 (x : Int32) : -8388608 ≤ (x >>> ((8 : Int32) &&& 31)).toInt ∧ (x >>> ((8 : Int32) &&& 31)).toInt ≤ 8388607 := by
  rw [c_ishr x 8 8 (by decide)]; have := rng32 x; omega
theorem own_pabs {a b : Int} (ha : -8388608 ≤ a ∧ a ≤ 8388607) (hb : -8388608 ≤ b ∧ b ≤ 8388607) : (a * b).natAbs ≤ 70368744177664 := by
  rw [Int.natAbs_mul]
  exact Nat.le_trans (Nat.mul_le_mul (show a.natAbs ≤ 8388608 by omega) (show b.natAbs ≤ 8388608 by omega)) (by decide)
theorem own_pp (a b : Int32) (ha : -8388608 ≤ a.toInt ∧ a.toInt ≤ 8388607) (hb : -8388608 ≤ b.toInt ∧ b.toInt ≤ 8388607) : ((a.toInt64) * (b.toInt64)).toInt = a.toInt * b.toInt := by
  have h := c_lmul a.toInt64 b.toInt64
  rw [c_i2l, c_i2l] at h
  have q := own_pabs ha hb
  have r := rng64 (a.toInt64 * b.toInt64)
  generalize a.toInt * b.toInt = p at *
  omega
theorem own_nz {b : Int32} (hb0 : ¬ b = (0 : Int32)) : b.toInt ≠ 0 := fun h => hb0 (Int32.toInt_inj.mp h)
theorem own_Dp {a b : Int32} {pp : Int64} (ha : -8388608 ≤ a.toInt ∧ a.toInt ≤ 8388607) (hb : -8388608 ≤ b.toInt ∧ b.toInt ≤ 8388607) (hpp : pp.toInt = a.toInt * b.toInt) : FP.Core.DInt (a.toInt * b.toInt) (FP.l2d pp) := by
  have q := own_pabs ha hb
  have h := FP.Core.l2d_int (a := pp) (by rw [hpp]; exact Nat.le_trans q (by decide))
  rw [hpp] at h; exact h
theorem own_Dr {a b r : Int32} {pp : Int64} (ha : -8388608 ≤ a.toInt ∧ a.toInt ≤ 8388607) (hb : -8388608 ≤ b.toInt ∧ b.toInt ≤ 8388607) (hpp : pp.toInt = a.toInt * b.toInt) (hr : 0 ≤ r.toInt ∧ r.toInt < b.toInt.natAbs) : FP.Core.DInt (a.toInt * b.toInt + r.toInt) (FP.l2d (pp + (r.toInt64))) ∧ (a.toInt * b.toInt + r.toInt).natAbs < 2 ^ 52 := by
  have q := own_pabs ha hb
  have h1 := c_ladd pp r.toInt64
  rw [c_i2l, hpp] at h1
  have r1 := rng64 (pp + r.toInt64)
  have h2 : (pp + r.toInt64).toInt = a.toInt * b.toInt + r.toInt := by generalize a.toInt * b.toInt = p at *; omega
  have h3 : (a.toInt * b.toInt + r.toInt).natAbs ≤ 2 ^ 51 := by generalize a.toInt * b.toInt = p at *; omega
  have h := FP.Core.l2d_int (a := pp + r.toInt64) (by rw [h2]; exact Nat.le_trans h3 (by decide))
  rw [h2] at h; exact ⟨h, Nat.lt_of_le_of_lt h3 (by decide)⟩
theorem own_r (z b : Int32) (hb : -8388608 ≤ b.toInt ∧ b.toInt ≤ 8388607) (hb0 : ¬ b = (0 : Int32)) : 0 ≤ ((z &&& (2147483647 : Int32)) % (if b < (0 : Int32) then (-b) else b)).toInt ∧ ((z &&& (2147483647 : Int32)) % (if b < (0 : Int32) then (-b) else b)).toInt < b.toInt.natAbs := by
  have h0 := own_nz hb0
  have e0 : (0 : Int32).toInt = 0 := by decide
  have h1 := c_mask z 2147483647 31 (by decide) (by decide)
  have h2 : (if b < (0 : Int32) then (-b) else b).toInt = (b.toInt.natAbs : Int) := by
    split
    · rename_i g; rw [Int32.lt_iff_toInt_lt, e0] at g; have k := c_ineg b; have k2 := rng32 (-b); omega
    · rename_i g; rw [Int32.lt_iff_toInt_lt, e0] at g; omega
  have h3 := (c_irem (z &&& (2147483647 : Int32)) (if b < (0 : Int32) then (-b) else b) _ h2).1 (by omega)
  rw [h3]
  exact ⟨Int.emod_nonneg _ (by omega), Int.emod_lt_of_pos _ (by omega)⟩
theorem own_abnz (b : Int32) (hb : -8388608 ≤ b.toInt ∧ b.toInt ≤ 8388607) (hb0 : ¬ b = (0 : Int32)) : (if b < (0 : Int32) then (-b) else b) ≠ 0 := by
  have h0 := own_nz hb0
  have e0 : (0 : Int32).toInt = 0 := by decide
  intro h
  rw [← Int32.toInt_inj, e0] at h
  split at h
  · rename_i g; have k := c_ineg b; have k2 := rng32 (-b); omega
  · omega
theorem own_D0 : FP.Core.DInt 0 (0 : UInt64) := FP.Core.i2d_int 0
theorem own_dz (b : Int32) (hb0 : ¬ b = (0 : Int32)) : ¬ cmpValue (FP.dcmp (FP.i2d b) (0 : UInt64)) .l = (0 : Int32) := by
  have h := FP.Core.dcmp_int (FP.Core.i2d_int b) own_D0
  rw [show FP.dcmp (FP.i2d b) (0 : UInt64) = _ from h]
  have h0 := own_nz hb0
  rcases Int.lt_or_lt_of_ne h0 with g | g
  · rw [Int.compare_eq_lt.mpr g]; decide
  · rw [Int.compare_eq_gt.mpr g]; decide
theorem own_dz0 (b : Int32) (hb0 : b = (0 : Int32)) : cmpValue (FP.dcmp (FP.i2d b) (0 : UInt64)) .l = (0 : Int32) := by
  subst hb0; decide +kernel
theorem own_00 : cmpValue (FP.dcmp (0 : UInt64) (0 : UInt64)) .l = (0 : Int32) := by decide +kernel
theorem own_ms (b : Int) : b * b.sign = (b.natAbs : Int) := Int.mul_sign_self b
theorem own_bD {b : Int32} (hb : -8388608 ≤ b.toInt ∧ b.toInt ≤ 8388607) : b.toInt.natAbs < 2 ^ 53 := by omega
theorem own_n1 {a b : Int32} {pp : Int64} (ha : -8388608 ≤ a.toInt ∧ a.toInt ≤ 8388607) (hb : -8388608 ≤ b.toInt ∧ b.toInt ≤ 8388607) (hpp : pp.toInt = a.toInt * b.toInt) (hb0 : ¬ b = (0 : Int32)) : Jvm.Free.Fl.NoNaN64 (FP.ddiv (FP.l2d pp) (FP.i2d b)) := own_nn (own_Dp ha hb hpp) (FP.Core.i2d_int b) (own_nz hb0)
theorem own_nr {a b r : Int32} {pp : Int64} (ha : -8388608 ≤ a.toInt ∧ a.toInt ≤ 8388607) (hb : -8388608 ≤ b.toInt ∧ b.toInt ≤ 8388607) (hpp : pp.toInt = a.toInt * b.toInt) (hb0 : ¬ b = (0 : Int32)) (hr : 0 ≤ r.toInt ∧ r.toInt < b.toInt.natAbs) : Jvm.Free.Fl.NoNaN64 (FP.ddiv (FP.l2d (pp + (r.toInt64))) (FP.i2d b)) := own_nn (own_Dr ha hb hpp hr).1 (FP.Core.i2d_int b) (own_nz hb0)
theorem own_e1 {a b : Int32} {pp : Int64} (ha : -8388608 ≤ a.toInt ∧ a.toInt ≤ 8388607) (hb : -8388608 ≤ b.toInt ∧ b.toInt ≤ 8388607) (hpp : pp.toInt = a.toInt * b.toInt) (hb0 : ¬ b = (0 : Int32)) : cmpValue (FP.dcmp (FP.ddiv (FP.l2d pp) (FP.i2d b)) (FP.i2d a)) .l = (0 : Int32) := by
  rw [own_quot (own_Dp ha hb hpp) (FP.Core.i2d_int b) (FP.Core.i2d_int a) (own_nz hb0) (Nat.lt_of_le_of_lt (own_pabs ha hb) (by decide)) (own_bD hb), Int.mul_assoc, own_ms, Int.compare_eq_eq.mpr rfl]
  rfl
theorem own_er {a b r : Int32} {pp : Int64} (ha : -8388608 ≤ a.toInt ∧ a.toInt ≤ 8388607) (hb : -8388608 ≤ b.toInt ∧ b.toInt ≤ 8388607) (hpp : pp.toInt = a.toInt * b.toInt) (hb0 : ¬ b = (0 : Int32)) (hr : 0 ≤ r.toInt ∧ r.toInt < b.toInt.natAbs) (h0 : r = (0 : Int32)) : cmpValue (FP.dcmp (FP.ddiv (FP.l2d (pp + (r.toInt64))) (FP.i2d b)) (FP.i2d a)) .l = (0 : Int32) := by
  have e0 : r.toInt = 0 := by rw [h0]; decide
  rw [own_quot (own_Dr ha hb hpp hr).1 (FP.Core.i2d_int b) (FP.Core.i2d_int a) (own_nz hb0) (own_Dr ha hb hpp hr).2 (own_bD hb), e0, Int.add_zero, Int.mul_assoc, own_ms, Int.compare_eq_eq.mpr rfl]
  rfl
theorem own_rpos {b r : Int32} (hr : 0 ≤ r.toInt ∧ r.toInt < b.toInt.natAbs) (h0 : ¬ r = (0 : Int32)) : 0 < r.toInt := by have := own_nz h0; omega
theorem own_Ns (a r : Int) {b : Int} : (a * b + r) * b.sign = a * (b.natAbs : Int) + r * b.sign := by rw [Int.add_mul, Int.mul_assoc, own_ms]
theorem own_g1 {a b r : Int32} {pp : Int64} (ha : -8388608 ≤ a.toInt ∧ a.toInt ≤ 8388607) (hb : -8388608 ≤ b.toInt ∧ b.toInt ≤ 8388607) (hpp : pp.toInt = a.toInt * b.toInt) (hb0 : ¬ b = (0 : Int32)) (hr : 0 ≤ r.toInt ∧ r.toInt < b.toInt.natAbs) (h0 : ¬ r = (0 : Int32)) (hp : (0 : Int32) < b) : cmpValue (FP.dcmp (FP.i2d a) (FP.ddiv (FP.l2d (pp + (r.toInt64))) (FP.i2d b))) .g = (-1 : Int32) := by
  have g := own_rpos hr h0
  rw [Int32.lt_iff_toInt_lt, show (0 : Int32).toInt = 0 by decide] at hp
  rw [own_quot' (own_Dr ha hb hpp hr).1 (FP.Core.i2d_int b) (FP.Core.i2d_int a) (own_nz hb0) (own_Dr ha hb hpp hr).2 (own_bD hb), own_Ns, Int.sign_eq_one_of_pos hp, Int.compare_eq_lt.mpr (by omega)]
  rfl
theorem own_g2 {a b r : Int32} {pp : Int64} (ha : -8388608 ≤ a.toInt ∧ a.toInt ≤ 8388607) (hb : -8388608 ≤ b.toInt ∧ b.toInt ≤ 8388607) (hpp : pp.toInt = a.toInt * b.toInt) (hb0 : ¬ b = (0 : Int32)) (hr : 0 ≤ r.toInt ∧ r.toInt < b.toInt.natAbs) (h0 : ¬ r = (0 : Int32)) (hp : (0 : Int32) < b) : cmpValue (FP.dcmp (FP.ddiv (FP.l2d (pp + (r.toInt64))) (FP.i2d b)) (FP.i2d (a + (1 : Int32)))) .g = (-1 : Int32) := by
  rw [Int32.lt_iff_toInt_lt, show (0 : Int32).toInt = 0 by decide] at hp
  have e : (a + (1 : Int32)).toInt = a.toInt + 1 := by have k := c_iadd a 1; have k2 := rng32 (a + 1); rw [show (1 : Int32).toInt = 1 by decide] at k; omega
  rw [own_quot (own_Dr ha hb hpp hr).1 (FP.Core.i2d_int b) (FP.Core.i2d_int (a + 1)) (own_nz hb0) (own_Dr ha hb hpp hr).2 (own_bD hb), own_Ns, Int.sign_eq_one_of_pos hp, e, Int.add_mul, Int.compare_eq_lt.mpr (by omega)]
  rfl
theorem own_g3 {a b r : Int32} {pp : Int64} (ha : -8388608 ≤ a.toInt ∧ a.toInt ≤ 8388607) (hb : -8388608 ≤ b.toInt ∧ b.toInt ≤ 8388607) (hpp : pp.toInt = a.toInt * b.toInt) (hb0 : ¬ b = (0 : Int32)) (hr : 0 ≤ r.toInt ∧ r.toInt < b.toInt.natAbs) (h0 : ¬ r = (0 : Int32)) (hp : ¬ (0 : Int32) < b) : cmpValue (FP.dcmp (FP.i2d (a - (1 : Int32))) (FP.ddiv (FP.l2d (pp + (r.toInt64))) (FP.i2d b))) .g = (-1 : Int32) := by
  have hn := own_nz hb0
  rw [Int32.lt_iff_toInt_lt, show (0 : Int32).toInt = 0 by decide] at hp
  have e : (a - (1 : Int32)).toInt = a.toInt - 1 := by have k := c_isub a 1; have k2 := rng32 (a - 1); rw [show (1 : Int32).toInt = 1 by decide] at k; omega
  rw [own_quot' (own_Dr ha hb hpp hr).1 (FP.Core.i2d_int b) (FP.Core.i2d_int (a - 1)) (own_nz hb0) (own_Dr ha hb hpp hr).2 (own_bD hb), own_Ns, Int.sign_eq_neg_one_of_neg (by omega), e, Int.sub_mul, Int.compare_eq_lt.mpr (by omega)]
  rfl
theorem own_g4 {a b r : Int32} {pp : Int64} (ha : -8388608 ≤ a.toInt ∧ a.toInt ≤ 8388607) (hb : -8388608 ≤ b.toInt ∧ b.toInt ≤ 8388607) (hpp : pp.toInt = a.toInt * b.toInt) (hb0 : ¬ b = (0 : Int32)) (hr : 0 ≤ r.toInt ∧ r.toInt < b.toInt.natAbs) (h0 : ¬ r = (0 : Int32)) (hp : ¬ (0 : Int32) < b) : cmpValue (FP.dcmp (FP.ddiv (FP.l2d (pp + (r.toInt64))) (FP.i2d b)) (FP.i2d a)) .g = (-1 : Int32) := by
  have hn := own_nz hb0
  have g := own_rpos hr h0
  rw [Int32.lt_iff_toInt_lt, show (0 : Int32).toInt = 0 by decide] at hp
  rw [own_quot (own_Dr ha hb hpp hr).1 (FP.Core.i2d_int b) (FP.Core.i2d_int a) (own_nz hb0) (own_Dr ha hb hpp hr).2 (own_bD hb), own_Ns, Int.sign_eq_neg_one_of_neg (by omega), Int.compare_eq_lt.mpr (by omega)]
  rfl

def Qabs (Z : State) (x1 : Int32) (h0 : Heap) (n0 : Nat) (v : Option Value) (h : Heap) (L : List Loc) : Prop := v = some (.int (if x1 < (0 : Int32) then (-x1) else x1)) ∧ Fr n0 L ∧ h = h0
theorem d_jdk_29_method_59_0 : decode jdk_29_method_59_code 0 = .ok (.iload_n 0, 1) := by decide +kernel
theorem d_jdk_29_method_59_1 : decode jdk_29_method_59_code 1 = .ok (.ifCond .ge 8, 3) := by decide +kernel
theorem d_jdk_29_method_59_4 : decode jdk_29_method_59_code 4 = .ok (.iload_n 0, 1) := by decide +kernel
theorem d_jdk_29_method_59_5 : decode jdk_29_method_59_code 5 = .ok (.ineg, 1) := by decide +kernel
theorem d_jdk_29_method_59_6 : decode jdk_29_method_59_code 6 = .ok (.goto 4, 3) := by decide +kernel
theorem d_jdk_29_method_59_10 : decode jdk_29_method_59_code 10 = .ok (.ireturn, 1) := by decide +kernel
theorem d_jdk_29_method_59_9 : decode jdk_29_method_59_code 9 = .ok (.iload_n 0, 1) := by decide +kernel
theorem ef_rm_Qabs (m : MethodId) (x0 : Int32) : entryFrame m #[(.int x0)] 1 = mkF m 0 #[.val (.int x0)] [] := by first | (simp [entryFrame, mkF, argsToLocals, Value.category]; done) | rfl
set_option maxRecDepth 65536 in
set_option maxHeartbeats 40000000 in
theorem rm_Qabs (l : Launch) (Z : State) (a0 : Array Value) (hw : ∀ d ∈ tables_1, d.before a0 Z = true) (ws : List Jvm.Cond) (x1 : Int32) (h0 : Heap) (n0 : Nat) (Z0 : n0 ≤ h0.size) :
    MetFree l (⟨"java/lang/Math", "abs", "(I)I"⟩ : MethodName) (head1 (Jvm.Cond.code (⟨"java/lang/Math", "abs", "(I)I"⟩ : MethodName) jdk_29_method_59_code 1 (some .int) :: ws) ({ frames := 0, cells := 0, slots := 0, locals := 0 } : Room)) (fun aa_ UU_ => aa_ = #[(.int x1)] ∧ Z.Warmed39 UU_.vm ∧ UU_.heap = h0) (fun _ _ _ _ _ => True) (fun _ UU_ oo_ VV_ => ∃ vv_ LL_, oo_ = .returned vv_ ∧ Qabs Z x1 h0 n0 vv_ VV_.heap LL_ ∧ FrameEnd UU_ oo_ VV_ LL_ ({ frames := 0, cells := 0, slots := 0, locals := 0 } : Room).cells ({ frames := 0, cells := 0, slots := 0, locals := 0 } : Room).slots) := by
  refine MetFree.of_bodySF (Jvm.Free.JP.mathPlain rfl (by decide +kernel)) hisR ?_
  intro p e s m args below meth c s₁ Bd hml0 hP hK
  obtain ⟨rfl, hZ, hh⟩ := hP
  have hx := Bd.exec
  have hby := Bd.bytes
  have hml : c.maxLocals = 1 := hml0
  have hown : s.vm.findClass "java/lang/Math" = some m.cls := findClass_of_methodNamed Bd.named
  have hnm := (name_of_methodNamed Bd.named Bd.method).1
  have hlk : meth.locks = false := Bd.notSynchronized
  have X0 : Stand p l e ({ frames := 0, cells := 0, slots := 0, locals := 0 } : Room) s m #[(.int x1)] below meth c s₁ [] 0 0 := Stand.of_body Bd
  have e0 : s₁.heap = h0 := by rw [← hh, Bd.state]; rfl
  have N0 := Fr.nil n0
  have K0 := Keep.refl h0 []
  show own_G p e below s (Qabs Z x1 h0 n0) _ _ (s₁.setTop (entryFrame m #[(.int x1)] 1))
  rw [ef_rm_Qabs m x1]
  refine own_via (U' := s₁.setTop (mkF m 1 #[.val (.int x1)] [(.int x1)])) (fun t k => XS.iloadN X0.here hx rfl (hb hby d_jdk_29_method_59_0) rfl k) ?_
  by_cases hc1 : x1 < (0 : Int32)
  case pos =>
    refine own_via (U' := s₁.setTop (mkF m 4 #[.val (.int x1)] [])) (fun t k => XS.ifNo X0.here hx rfl (hb hby d_jdk_29_method_59_1) rfl ((if0 _ _).trans (tlt hc1).2.1) k) ?_
    refine own_via (U' := s₁.setTop (mkF m 5 #[.val (.int x1)] [(.int x1)])) (fun t k => XS.iloadN X0.here hx rfl (hb hby d_jdk_29_method_59_4) rfl k) ?_
    refine own_via (U' := s₁.setTop (mkF m 6 #[.val (.int x1)] [(.int (-x1))])) (fun t k => XS.ineg X0.here hx rfl (hb hby d_jdk_29_method_59_5) rfl k) ?_
    refine own_via (U' := s₁.setTop (mkF m 10 #[.val (.int x1)] [(.int (-x1))])) (fun t k => XS.goto X0.here hx rfl (pc0 := 6) (pc' := 10) rfl (hb hby d_jdk_29_method_59_6) (by decide) (by decide) k) ?_
    exact own_ret X0 (v := some (.int (-x1))) (fun h => by rw [Bd.returns] at h; cases h) hlk (fun fs hr => retOut X0 hx (t := .int) Bd.returns rfl (Or.inl ⟨rfl, Or.inl rfl, _, rfl⟩) (hb hby d_jdk_29_method_59_10) hr) (by rw [e0]; exact ⟨by first | rfl | (simp only [if_pos hc1]), N0, rfl⟩) (by decide) (by decide)
  case neg =>
    refine own_via (U' := s₁.setTop (mkF m 9 #[.val (.int x1)] [])) (fun t k => XS.ifYes X0.here hx rfl (pc0 := 1) (pc' := 9) rfl (hb hby d_jdk_29_method_59_1) rfl ((if0 _ _).trans (flt hc1).2.1) (by decide) (by decide) k) ?_
    refine own_via (U' := s₁.setTop (mkF m 10 #[.val (.int x1)] [(.int x1)])) (fun t k => XS.iloadN X0.here hx rfl (hb hby d_jdk_29_method_59_9) rfl k) ?_
    exact own_ret X0 (v := some (.int x1)) (fun h => by rw [Bd.returns] at h; cases h) hlk (fun fs hr => retOut X0 hx (t := .int) Bd.returns rfl (Or.inl ⟨rfl, Or.inl rfl, _, rfl⟩) (hb hby d_jdk_29_method_59_10) hr) (by rw [e0]; exact ⟨by first | rfl | (simp only [if_neg hc1]), N0, rfl⟩) (by decide) (by decide)
def Qra (Z : State) (x1 x2 : UInt64) (h0 : Heap) (n0 : Nat) (v : Option Value) (h : Heap) (L : List Loc) : Prop := v = some (.double (0 : UInt64)) ∧ Fr n0 L ∧ h = h0
theorem d_prog_18_method_9_0 : decode prog_18_method_9_code 0 = .ok (.dload_n 2, 1) := by decide +kernel
theorem d_prog_18_method_9_1 : decode prog_18_method_9_code 1 = .ok (.dconst 0, 1) := by decide +kernel
theorem d_prog_18_method_9_2 : decode prog_18_method_9_code 2 = .ok (.dcmp .l, 1) := by decide +kernel
theorem d_prog_18_method_9_3 : decode prog_18_method_9_code 3 = .ok (.ifCond .ne 7, 3) := by decide +kernel
theorem d_prog_18_method_9_6 : decode prog_18_method_9_code 6 = .ok (.dconst 0, 1) := by decide +kernel
theorem d_prog_18_method_9_7 : decode prog_18_method_9_code 7 = .ok (.goto 6, 3) := by decide +kernel
theorem d_prog_18_method_9_13 : decode prog_18_method_9_code 13 = .ok (.dreturn, 1) := by decide +kernel
theorem ef_rm_Qra (m : MethodId) (x0 : UInt64) (x1 : UInt64) : entryFrame m #[(.double x0), (.double x1)] 4 = mkF m 0 #[.val (.double x0), .second, .val (.double x1), .second] [] := by first | (simp [entryFrame, mkF, argsToLocals, Value.category]; done) | rfl
theorem pn_com_example_zenodotus_zenodotus_eval_JudgedRanking : plainName "com/example/zenodotus/zenodotus/eval/JudgedRanking" = true := by first | (simp [plainName, overriddenIn]; done) | decide +kernel
set_option maxRecDepth 65536 in
set_option maxHeartbeats 40000000 in
theorem rm_Qra (l : Launch) (Z : State) (a0 : Array Value) (hw : ∀ d ∈ tables_1, d.before a0 Z = true) (ws : List Jvm.Cond) (x1 x2 : UInt64) (h0 : Heap) (n0 : Nat) (Z0 : n0 ≤ h0.size) (hz : (cmpValue (FP.dcmp x2 (0 : UInt64)) .l) = (0 : Int32)) :
    MetFree l (⟨"com/example/zenodotus/zenodotus/eval/JudgedRanking", "ratio", "(DD)D"⟩ : MethodName) (head1 (Jvm.Cond.code (⟨"com/example/zenodotus/zenodotus/eval/JudgedRanking", "ratio", "(DD)D"⟩ : MethodName) prog_18_method_9_code 4 (some .double) :: ws) ({ frames := 0, cells := 0, slots := 0, locals := 0 } : Room)) (fun aa_ UU_ => aa_ = #[(.double x1), (.double x2)] ∧ Z.Warmed39 UU_.vm ∧ UU_.heap = h0) (fun _ _ _ _ _ => True) (fun _ UU_ oo_ VV_ => ∃ vv_ LL_, oo_ = .returned vv_ ∧ Qra Z x1 x2 h0 n0 vv_ VV_.heap LL_ ∧ FrameEnd UU_ oo_ VV_ LL_ ({ frames := 0, cells := 0, slots := 0, locals := 0 } : Room).cells ({ frames := 0, cells := 0, slots := 0, locals := 0 } : Room).slots) := by
  refine MetFree.of_bodySF (plainFor_of_name pn_com_example_zenodotus_zenodotus_eval_JudgedRanking) hisR ?_
  intro p e s m args below meth c s₁ Bd hml0 hP hK
  obtain ⟨rfl, hZ, hh⟩ := hP
  have hx := Bd.exec
  have hby := Bd.bytes
  have hml : c.maxLocals = 4 := hml0
  have hown : s.vm.findClass "com/example/zenodotus/zenodotus/eval/JudgedRanking" = some m.cls := findClass_of_methodNamed Bd.named
  have hnm := (name_of_methodNamed Bd.named Bd.method).1
  have hlk : meth.locks = false := Bd.notSynchronized
  have X0 : Stand p l e ({ frames := 0, cells := 0, slots := 0, locals := 0 } : Room) s m #[(.double x1), (.double x2)] below meth c s₁ [] 0 0 := Stand.of_body Bd
  have e0 : s₁.heap = h0 := by rw [← hh, Bd.state]; rfl
  have N0 := Fr.nil n0
  have K0 := Keep.refl h0 []
  show own_G p e below s (Qra Z x1 x2 h0 n0) _ _ (s₁.setTop (entryFrame m #[(.double x1), (.double x2)] 4))
  rw [ef_rm_Qra m x1 x2]
  refine own_via (U' := s₁.setTop (mkF m 1 #[.val (.double x1), .second, .val (.double x2), .second] [(.double x2)])) (fun t k => XS.dloadN X0.here hx rfl (hb hby d_prog_18_method_9_0) rfl k) ?_
  refine own_via (U' := s₁.setTop (mkF m 2 #[.val (.double x1), .second, .val (.double x2), .second] [(.double (0 : UInt64)), (.double x2)])) (fun t k => XS.dconst0 X0.here hx rfl (hb hby d_prog_18_method_9_1) rfl k) ?_
  refine own_via (U' := s₁.setTop (mkF m 3 #[.val (.double x1), .second, .val (.double x2), .second] [(.int (cmpValue (FP.dcmp x2 (0 : UInt64)) .l))])) (fun t k => XS.dcmpS X0.here hx rfl (hb hby d_prog_18_method_9_2) rfl rfl k) ?_
  refine own_via (U' := s₁.setTop (mkF m 6 #[.val (.double x1), .second, .val (.double x2), .second] [])) (fun t k => XS.ifNo X0.here hx rfl (hb hby d_prog_18_method_9_3) rfl ((if0 _ _).trans (teq hz).2) k) ?_
  refine own_via (U' := s₁.setTop (mkF m 7 #[.val (.double x1), .second, .val (.double x2), .second] [(.double (0 : UInt64))])) (fun t k => XS.dconst0 X0.here hx rfl (hb hby d_prog_18_method_9_6) rfl k) ?_
  refine own_via (U' := s₁.setTop (mkF m 13 #[.val (.double x1), .second, .val (.double x2), .second] [(.double (0 : UInt64))])) (fun t k => XS.goto X0.here hx rfl (pc0 := 7) (pc' := 13) rfl (hb hby d_prog_18_method_9_7) (by decide) (by decide) k) ?_
  exact own_ret X0 (v := some (.double (0 : UInt64))) (fun h => by rw [Bd.returns] at h; cases h) hlk (fun fs hr => retOut X0 hx (t := .double) Bd.returns rfl (Or.inr (Or.inr (Or.inl ⟨rfl, rfl, _, rfl⟩))) (hb hby d_prog_18_method_9_13) hr) (by rw [e0]; exact ⟨rfl, N0, rfl⟩) (by decide) (by decide)
def Qrb (Z : State) (x1 x2 : UInt64) (h0 : Heap) (n0 : Nat) (v : Option Value) (h : Heap) (L : List Loc) : Prop := v = some (.double (FP.ddiv x1 x2)) ∧ Fr n0 L ∧ h = h0
theorem d_prog_18_method_9_10 : decode prog_18_method_9_code 10 = .ok (.dload_n 0, 1) := by decide +kernel
theorem d_prog_18_method_9_11 : decode prog_18_method_9_code 11 = .ok (.dload_n 2, 1) := by decide +kernel
theorem d_prog_18_method_9_12 : decode prog_18_method_9_code 12 = .ok (.ddiv, 1) := by decide +kernel
theorem ef_rm_Qrb (m : MethodId) (x0 : UInt64) (x1 : UInt64) : entryFrame m #[(.double x0), (.double x1)] 4 = mkF m 0 #[.val (.double x0), .second, .val (.double x1), .second] [] := by first | (simp [entryFrame, mkF, argsToLocals, Value.category]; done) | rfl
set_option maxRecDepth 65536 in
set_option maxHeartbeats 40000000 in
theorem rm_Qrb (l : Launch) (Z : State) (a0 : Array Value) (hw : ∀ d ∈ tables_1, d.before a0 Z = true) (ws : List Jvm.Cond) (x1 x2 : UInt64) (h0 : Heap) (n0 : Nat) (Z0 : n0 ≤ h0.size) (hz : ¬ (cmpValue (FP.dcmp x2 (0 : UInt64)) .l) = (0 : Int32)) (hn : Jvm.Free.Fl.NoNaN64 (FP.ddiv x1 x2)) :
    MetFree l (⟨"com/example/zenodotus/zenodotus/eval/JudgedRanking", "ratio", "(DD)D"⟩ : MethodName) (head1 (Jvm.Cond.code (⟨"com/example/zenodotus/zenodotus/eval/JudgedRanking", "ratio", "(DD)D"⟩ : MethodName) prog_18_method_9_code 4 (some .double) :: ws) ({ frames := 0, cells := 0, slots := 0, locals := 0 } : Room)) (fun aa_ UU_ => aa_ = #[(.double x1), (.double x2)] ∧ Z.Warmed39 UU_.vm ∧ UU_.heap = h0) (fun _ _ _ _ _ => True) (fun _ UU_ oo_ VV_ => ∃ vv_ LL_, oo_ = .returned vv_ ∧ Qrb Z x1 x2 h0 n0 vv_ VV_.heap LL_ ∧ FrameEnd UU_ oo_ VV_ LL_ ({ frames := 0, cells := 0, slots := 0, locals := 0 } : Room).cells ({ frames := 0, cells := 0, slots := 0, locals := 0 } : Room).slots) := by
  refine MetFree.of_bodySF (plainFor_of_name pn_com_example_zenodotus_zenodotus_eval_JudgedRanking) hisR ?_
  intro p e s m args below meth c s₁ Bd hml0 hP hK
  obtain ⟨rfl, hZ, hh⟩ := hP
  have hx := Bd.exec
  have hby := Bd.bytes
  have hml : c.maxLocals = 4 := hml0
  have hown : s.vm.findClass "com/example/zenodotus/zenodotus/eval/JudgedRanking" = some m.cls := findClass_of_methodNamed Bd.named
  have hnm := (name_of_methodNamed Bd.named Bd.method).1
  have hlk : meth.locks = false := Bd.notSynchronized
  have X0 : Stand p l e ({ frames := 0, cells := 0, slots := 0, locals := 0 } : Room) s m #[(.double x1), (.double x2)] below meth c s₁ [] 0 0 := Stand.of_body Bd
  have e0 : s₁.heap = h0 := by rw [← hh, Bd.state]; rfl
  have N0 := Fr.nil n0
  have K0 := Keep.refl h0 []
  show own_G p e below s (Qrb Z x1 x2 h0 n0) _ _ (s₁.setTop (entryFrame m #[(.double x1), (.double x2)] 4))
  rw [ef_rm_Qrb m x1 x2]
  refine own_via (U' := s₁.setTop (mkF m 1 #[.val (.double x1), .second, .val (.double x2), .second] [(.double x2)])) (fun t k => XS.dloadN X0.here hx rfl (hb hby d_prog_18_method_9_0) rfl k) ?_
  refine own_via (U' := s₁.setTop (mkF m 2 #[.val (.double x1), .second, .val (.double x2), .second] [(.double (0 : UInt64)), (.double x2)])) (fun t k => XS.dconst0 X0.here hx rfl (hb hby d_prog_18_method_9_1) rfl k) ?_
  refine own_via (U' := s₁.setTop (mkF m 3 #[.val (.double x1), .second, .val (.double x2), .second] [(.int (cmpValue (FP.dcmp x2 (0 : UInt64)) .l))])) (fun t k => XS.dcmpS X0.here hx rfl (hb hby d_prog_18_method_9_2) rfl rfl k) ?_
  refine own_via (U' := s₁.setTop (mkF m 10 #[.val (.double x1), .second, .val (.double x2), .second] [])) (fun t k => XS.ifYes X0.here hx rfl (pc0 := 3) (pc' := 10) rfl (hb hby d_prog_18_method_9_3) rfl ((if0 _ _).trans (feq hz).2) (by decide) (by decide) k) ?_
  refine own_via (U' := s₁.setTop (mkF m 11 #[.val (.double x1), .second, .val (.double x2), .second] [(.double x1)])) (fun t k => XS.dloadN X0.here hx rfl (hb hby d_prog_18_method_9_10) rfl k) ?_
  refine own_via (U' := s₁.setTop (mkF m 12 #[.val (.double x1), .second, .val (.double x2), .second] [(.double x2), (.double x1)])) (fun t k => XS.dloadN X0.here hx rfl (hb hby d_prog_18_method_9_11) rfl k) ?_
  refine own_via (U' := s₁.setTop (mkF m 13 #[.val (.double x1), .second, .val (.double x2), .second] [(.double (FP.ddiv x1 x2))])) (fun t k => XS.ddivS X0.here hx rfl (hb hby d_prog_18_method_9_12) rfl hn rfl k) ?_
  exact own_ret X0 (v := some (.double (FP.ddiv x1 x2))) (fun h => by rw [Bd.returns] at h; cases h) hlk (fun fs hr => retOut X0 hx (t := .double) Bd.returns rfl (Or.inr (Or.inr (Or.inl ⟨rfl, rfl, _, rfl⟩))) (hb hby d_prog_18_method_9_13) hr) (by rw [e0]; exact ⟨rfl, N0, rfl⟩) (by decide) (by decide)
def Q0 (Z : State) (x1 x2 x3 : Int32) (h0 : Heap) (n0 : Nat) (v : Option Value) (h : Heap) (L : List Loc) : Prop := v = some (.int 1) ∧ Fr n0 L
theorem pd_DD__D : parseMethodDescriptor "(DD)D" = some ⟨[.double, .double], some .double⟩ := by decide +kernel
theorem pd_I__I : parseMethodDescriptor "(I)I" = some ⟨[.int], some .int⟩ := by decide +kernel
theorem ef_rm_Q0 (m : MethodId) (x0 : Int32) (x1 : Int32) (x2 : Int32) : entryFrame m #[(.int x0), (.int x1), (.int x2)] maxLocals = mkF m 0 #[.val (.int x0), .val (.int x1), .val (.int x2), .unset, .unset, .unset, .unset, .unset, .unset, .unset, .unset, .unset] [] := by first | (simp [entryFrame, mkF, argsToLocals, Value.category, maxLocals]; done) | rfl
theorem pn_com_example_zenodotus_zenodotus_eval_JudgedRankingRatioPinLaw : plainName "com/example/zenodotus/zenodotus/eval/JudgedRankingRatioPinLaw" = true := by first | (simp [plainName, overriddenIn]; done) | decide +kernel
set_option maxRecDepth 65536 in
set_option maxHeartbeats 40000000 in
theorem rm_Q0 (l : Launch) (Z : State) (a0 : Array Value) (hw : ∀ d ∈ tables_1, d.before a0 Z = true) (ws : List Jvm.Cond) (x1 x2 x3 : Int32) (h0 : Heap) (n0 : Nat) (Z0 : n0 ≤ h0.size) :
    MetFree l x (head1 (Jvm.Cond.code x code maxLocals ret :: ws) room_1) (fun aa_ UU_ => aa_ = #[(.int x1), (.int x2), (.int x3)] ∧ Z.Warmed39 UU_.vm ∧ UU_.heap = h0) (fun _ _ _ _ _ => True) (fun _ UU_ oo_ VV_ => ∃ vv_ LL_, oo_ = .returned vv_ ∧ Q0 Z x1 x2 x3 h0 n0 vv_ VV_.heap LL_ ∧ FrameEnd UU_ oo_ VV_ LL_ room_1.cells room_1.slots) := by
  refine MetFree.of_bodySF (plainFor_of_name pn_com_example_zenodotus_zenodotus_eval_JudgedRankingRatioPinLaw) hisR ?_
  intro p e s m args below meth c s₁ Bd hml0 hP hK
  obtain ⟨rfl, hZ, hh⟩ := hP
  have hx := Bd.exec
  have hby := Bd.bytes
  have hml : c.maxLocals = 12 := hml0
  have hown : s.vm.findClass "com/example/zenodotus/zenodotus/eval/JudgedRankingRatioPinLaw" = some m.cls := findClass_of_methodNamed Bd.named
  have hnm := (name_of_methodNamed Bd.named Bd.method).1
  have hlk : meth.locks = false := Bd.notSynchronized
  have X0 : Stand p l e room_1 s m #[(.int x1), (.int x2), (.int x3)] below meth c s₁ [] 0 0 := Stand.of_body Bd
  have e0 : s₁.heap = h0 := by rw [← hh, Bd.state]; rfl
  have N0 := Fr.nil n0
  have K0 := Keep.refl h0 []
  show own_G p e below s (Q0 Z x1 x2 x3 h0 n0) _ _ (s₁.setTop (entryFrame m #[(.int x1), (.int x2), (.int x3)] maxLocals))
  rw [ef_rm_Q0 m x1 x2 x3]
  refine own_via (U' := s₁.setTop (mkF m 1 #[.val (.int x1), .val (.int x2), .val (.int x3), .unset, .unset, .unset, .unset, .unset, .unset, .unset, .unset, .unset] [(.int x1)])) (fun t k => XS.iloadN X0.here hx rfl (hb hby at_0) rfl k) ?_
  refine own_via (U' := s₁.setTop (mkF m 2 #[.val (.int x1), .val (.int x2), .val (.int x3), .unset, .unset, .unset, .unset, .unset, .unset, .unset, .unset, .unset] [(.double (FP.i2d x1))])) (fun t k => XS.i2dS X0.here hx rfl (hb hby at_1) rfl rfl k) ?_
  refine own_via (U' := s₁.setTop (mkF m 3 #[.val (.int x1), .val (.int x2), .val (.int x3), .unset, .unset, .unset, .unset, .unset, .unset, .unset, .unset, .unset] [(.double (0 : UInt64)), (.double (FP.i2d x1))])) (fun t k => XS.dconst0 X0.here hx rfl (hb hby at_2) rfl k) ?_
  obtain ⟨_, T1, L1, X1, hQ1, st1⟩ := own_callS X0 hx hZ (y := (⟨"com/example/zenodotus/zenodotus/eval/JudgedRanking", "ratio", "(DD)D"⟩ : MethodName)) (W := 0) hown (hw _ (List.mem_of_getElem? (i := 0) rfl)) (hw _ (List.mem_of_getElem? (i := 1) rfl)) (hw _ (List.mem_of_getElem? (i := 2) rfl)) (hw _ (List.mem_of_getElem? (i := 3) rfl)) (by decide) (rm_Qra l Z a0 hw [] (FP.i2d x1) (0 : UInt64) h0 n0 Z0 own_00) (by decide) (by decide) e0 (g := (mkF m 3 #[.val (.int x1), .val (.int x2), .val (.int x3), .unset, .unset, .unset, .unset, .unset, .unset, .unset, .unset, .unset] [(.double (0 : UInt64)), (.double (FP.i2d x1))])) rfl (by rw [hml]; rfl) (argsL := [(.double (FP.i2d x1)), (.double (0 : UInt64))]) (rest := []) rfl (lenOf pd_DD__D rfl) rfl (by show 2 * 0 + _ ≤ _; exact Nat.le_of_eq rfl) (hb hby at_3) (by decide) (by decide)
  obtain ⟨rfl, N1q, e1⟩ := hQ1
  have N1 := Fr.app N0 N1q
  refine own_via (U' := T1.setTop (mkF m 6 #[.val (.int x1), .val (.int x2), .val (.int x3), .unset, .unset, .unset, .unset, .unset, .unset, .unset, .unset, .unset] [(.double (0 : UInt64))])) (fun t k => st1 t k) ?_
  refine own_via (U' := T1.setTop (mkF m 7 #[.val (.int x1), .val (.int x2), .val (.int x3), .unset, .unset, .unset, .unset, .unset, .unset, .unset, .unset, .unset] [(.double (0 : UInt64)), (.double (0 : UInt64))])) (fun t k => XS.dconst0 X1.here hx rfl (hb hby at_6) rfl k) ?_
  refine own_via (U' := T1.setTop (mkF m 8 #[.val (.int x1), .val (.int x2), .val (.int x3), .unset, .unset, .unset, .unset, .unset, .unset, .unset, .unset, .unset] [(.int (0 : Int32))])) (fun t k => XS.dcmpS X1.here hx rfl (hb hby at_7) rfl own_00 k) ?_
  refine own_via (U' := T1.setTop (mkF m 13 #[.val (.int x1), .val (.int x2), .val (.int x3), .unset, .unset, .unset, .unset, .unset, .unset, .unset, .unset, .unset] [])) (fun t k => XS.ifYes X1.here hx rfl (pc0 := 8) (pc' := 13) rfl (hb hby at_8) rfl ((if0 _ _).trans (teq (by decide : ((0 : Int32) = (0 : Int32)))).1) (by decide) (by decide) k) ?_
  refine own_via (U' := T1.setTop (mkF m 14 #[.val (.int x1), .val (.int x2), .val (.int x3), .unset, .unset, .unset, .unset, .unset, .unset, .unset, .unset, .unset] [(.int x1)])) (fun t k => XS.iloadN X1.here hx rfl (hb hby at_13) rfl k) ?_
  refine own_via (U' := T1.setTop (mkF m 16 #[.val (.int x1), .val (.int x2), .val (.int x3), .unset, .unset, .unset, .unset, .unset, .unset, .unset, .unset, .unset] [(.int (8 : Int32)), (.int x1)])) (fun t k => XS.bipush X1.here hx rfl (hb hby at_14) k) ?_
  refine own_via (U' := T1.setTop (mkF m 17 #[.val (.int x1), .val (.int x2), .val (.int x3), .unset, .unset, .unset, .unset, .unset, .unset, .unset, .unset, .unset] [(.int (x1 >>> ((8 : Int32) &&& 31)))])) (fun t k => XS.ishr X1.here hx rfl (hb hby at_16) rfl k) ?_
  refine own_via (U' := T1.setTop (mkF m 18 #[.val (.int x1), .val (.int x2), .val (.int x3), .val (.int (x1 >>> ((8 : Int32) &&& 31))), .unset, .unset, .unset, .unset, .unset, .unset, .unset, .unset] [])) (fun t k => XS.istoreN X1.here hx rfl (hb hby at_17) rfl (l' := #[.val (.int x1), .val (.int x2), .val (.int x3), .val (.int (x1 >>> ((8 : Int32) &&& 31))), .unset, .unset, .unset, .unset, .unset, .unset, .unset, .unset]) rfl k) ?_
  have haa : -8388608 ≤ (x1 >>> ((8 : Int32) &&& 31)).toInt ∧ (x1 >>> ((8 : Int32) &&& 31)).toInt ≤ 8388607 := own_sh8 _
  generalize (x1 >>> ((8 : Int32) &&& 31)) = aa at haa ⊢
  refine own_via (U' := T1.setTop (mkF m 19 #[.val (.int x1), .val (.int x2), .val (.int x3), .val (.int aa), .unset, .unset, .unset, .unset, .unset, .unset, .unset, .unset] [(.int x2)])) (fun t k => XS.iloadN X1.here hx rfl (hb hby at_18) rfl k) ?_
  refine own_via (U' := T1.setTop (mkF m 21 #[.val (.int x1), .val (.int x2), .val (.int x3), .val (.int aa), .unset, .unset, .unset, .unset, .unset, .unset, .unset, .unset] [(.int (8 : Int32)), (.int x2)])) (fun t k => XS.bipush X1.here hx rfl (hb hby at_19) k) ?_
  refine own_via (U' := T1.setTop (mkF m 22 #[.val (.int x1), .val (.int x2), .val (.int x3), .val (.int aa), .unset, .unset, .unset, .unset, .unset, .unset, .unset, .unset] [(.int (x2 >>> ((8 : Int32) &&& 31)))])) (fun t k => XS.ishr X1.here hx rfl (hb hby at_21) rfl k) ?_
  refine own_via (U' := T1.setTop (mkF m 24 #[.val (.int x1), .val (.int x2), .val (.int x3), .val (.int aa), .val (.int (x2 >>> ((8 : Int32) &&& 31))), .unset, .unset, .unset, .unset, .unset, .unset, .unset] [])) (fun t k => XS.istore X1.here hx rfl (hb hby at_22) rfl (l' := #[.val (.int x1), .val (.int x2), .val (.int x3), .val (.int aa), .val (.int (x2 >>> ((8 : Int32) &&& 31))), .unset, .unset, .unset, .unset, .unset, .unset, .unset]) rfl k) ?_
  have hbb : -8388608 ≤ (x2 >>> ((8 : Int32) &&& 31)).toInt ∧ (x2 >>> ((8 : Int32) &&& 31)).toInt ≤ 8388607 := own_sh8 _
  generalize (x2 >>> ((8 : Int32) &&& 31)) = bb at hbb ⊢
  refine own_via (U' := T1.setTop (mkF m 25 #[.val (.int x1), .val (.int x2), .val (.int x3), .val (.int aa), .val (.int bb), .unset, .unset, .unset, .unset, .unset, .unset, .unset] [(.int aa)])) (fun t k => XS.iloadN X1.here hx rfl (hb hby at_24) rfl k) ?_
  refine own_via (U' := T1.setTop (mkF m 26 #[.val (.int x1), .val (.int x2), .val (.int x3), .val (.int aa), .val (.int bb), .unset, .unset, .unset, .unset, .unset, .unset, .unset] [(.long (aa.toInt64))])) (fun t k => XS.i2l X1.here hx rfl (hb hby at_25) rfl k) ?_
  refine own_via (U' := T1.setTop (mkF m 28 #[.val (.int x1), .val (.int x2), .val (.int x3), .val (.int aa), .val (.int bb), .unset, .unset, .unset, .unset, .unset, .unset, .unset] [(.int bb), (.long (aa.toInt64))])) (fun t k => XS.iload X1.here hx rfl (hb hby at_26) rfl k) ?_
  refine own_via (U' := T1.setTop (mkF m 29 #[.val (.int x1), .val (.int x2), .val (.int x3), .val (.int aa), .val (.int bb), .unset, .unset, .unset, .unset, .unset, .unset, .unset] [(.long (bb.toInt64)), (.long (aa.toInt64))])) (fun t k => XS.i2l X1.here hx rfl (hb hby at_28) rfl k) ?_
  refine own_via (U' := T1.setTop (mkF m 30 #[.val (.int x1), .val (.int x2), .val (.int x3), .val (.int aa), .val (.int bb), .unset, .unset, .unset, .unset, .unset, .unset, .unset] [(.long ((aa.toInt64) * (bb.toInt64)))])) (fun t k => XS.lmul X1.here hx rfl (hb hby at_29) rfl k) ?_
  refine own_via (U' := T1.setTop (mkF m 32 #[.val (.int x1), .val (.int x2), .val (.int x3), .val (.int aa), .val (.int bb), .val (.long ((aa.toInt64) * (bb.toInt64))), .second, .unset, .unset, .unset, .unset, .unset] [])) (fun t k => XS.lstore X1.here hx rfl (hb hby at_30) rfl (l' := #[.val (.int x1), .val (.int x2), .val (.int x3), .val (.int aa), .val (.int bb), .val (.long ((aa.toInt64) * (bb.toInt64))), .second, .unset, .unset, .unset, .unset, .unset]) rfl k) ?_
  have hpp : ((aa.toInt64) * (bb.toInt64)).toInt = aa.toInt * bb.toInt := own_pp aa bb haa hbb
  generalize ((aa.toInt64) * (bb.toInt64)) = pp at hpp ⊢
  refine own_via (U' := T1.setTop (mkF m 34 #[.val (.int x1), .val (.int x2), .val (.int x3), .val (.int aa), .val (.int bb), .val (.long pp), .second, .unset, .unset, .unset, .unset, .unset] [(.int bb)])) (fun t k => XS.iload X1.here hx rfl (hb hby at_32) rfl k) ?_
  by_cases hc2 : bb = (0 : Int32)
  case pos =>
    refine own_via (U' := T1.setTop (mkF m 37 #[.val (.int x1), .val (.int x2), .val (.int x3), .val (.int aa), .val (.int bb), .val (.long pp), .second, .unset, .unset, .unset, .unset, .unset] [])) (fun t k => XS.ifNo X1.here hx rfl (hb hby at_34) rfl ((if0 _ _).trans (teq hc2).2) k) ?_
    refine own_via (U' := T1.setTop (mkF m 39 #[.val (.int x1), .val (.int x2), .val (.int x3), .val (.int aa), .val (.int bb), .val (.long pp), .second, .unset, .unset, .unset, .unset, .unset] [(.long pp)])) (fun t k => XS.lload X1.here hx rfl (hb hby at_37) rfl k) ?_
    refine own_via (U' := T1.setTop (mkF m 40 #[.val (.int x1), .val (.int x2), .val (.int x3), .val (.int aa), .val (.int bb), .val (.long pp), .second, .unset, .unset, .unset, .unset, .unset] [(.double (FP.l2d pp))])) (fun t k => XS.l2dS X1.here hx rfl (hb hby at_39) rfl rfl k) ?_
    refine own_via (U' := T1.setTop (mkF m 42 #[.val (.int x1), .val (.int x2), .val (.int x3), .val (.int aa), .val (.int bb), .val (.long pp), .second, .unset, .unset, .unset, .unset, .unset] [(.int bb), (.double (FP.l2d pp))])) (fun t k => XS.iload X1.here hx rfl (hb hby at_40) rfl k) ?_
    refine own_via (U' := T1.setTop (mkF m 43 #[.val (.int x1), .val (.int x2), .val (.int x3), .val (.int aa), .val (.int bb), .val (.long pp), .second, .unset, .unset, .unset, .unset, .unset] [(.double (FP.i2d bb)), (.double (FP.l2d pp))])) (fun t k => XS.i2dS X1.here hx rfl (hb hby at_42) rfl rfl k) ?_
    obtain ⟨_, T3, L3, X3, hQ3, st3⟩ := own_callS X1 hx hZ (y := (⟨"com/example/zenodotus/zenodotus/eval/JudgedRanking", "ratio", "(DD)D"⟩ : MethodName)) (W := 0) hown (hw _ (List.mem_of_getElem? (i := 0) rfl)) (hw _ (List.mem_of_getElem? (i := 1) rfl)) (hw _ (List.mem_of_getElem? (i := 2) rfl)) (hw _ (List.mem_of_getElem? (i := 3) rfl)) (by decide) (rm_Qra l Z a0 hw [] (FP.l2d pp) (FP.i2d bb) h0 n0 Z0 (own_dz0 _ hc2)) (by decide) (by decide) e1 (g := (mkF m 43 #[.val (.int x1), .val (.int x2), .val (.int x3), .val (.int aa), .val (.int bb), .val (.long pp), .second, .unset, .unset, .unset, .unset, .unset] [(.double (FP.i2d bb)), (.double (FP.l2d pp))])) rfl (by rw [hml]; rfl) (argsL := [(.double (FP.l2d pp)), (.double (FP.i2d bb))]) (rest := []) rfl (lenOf pd_DD__D rfl) rfl (by show 2 * 0 + _ ≤ _; exact Nat.le_of_eq rfl) (hb hby at_43) (by decide) (by decide)
    obtain ⟨rfl, N3q, e3⟩ := hQ3
    have N3 := Fr.app N1 N3q
    refine own_via (U' := T3.setTop (mkF m 46 #[.val (.int x1), .val (.int x2), .val (.int x3), .val (.int aa), .val (.int bb), .val (.long pp), .second, .unset, .unset, .unset, .unset, .unset] [(.double (0 : UInt64))])) (fun t k => st3 t k) ?_
    refine own_via (U' := T3.setTop (mkF m 47 #[.val (.int x1), .val (.int x2), .val (.int x3), .val (.int aa), .val (.int bb), .val (.long pp), .second, .unset, .unset, .unset, .unset, .unset] [(.double (0 : UInt64)), (.double (0 : UInt64))])) (fun t k => XS.dconst0 X3.here hx rfl (hb hby at_46) rfl k) ?_
    refine own_via (U' := T3.setTop (mkF m 48 #[.val (.int x1), .val (.int x2), .val (.int x3), .val (.int aa), .val (.int bb), .val (.long pp), .second, .unset, .unset, .unset, .unset, .unset] [(.int (0 : Int32))])) (fun t k => XS.dcmpS X3.here hx rfl (hb hby at_47) rfl own_00 k) ?_
    refine own_via (U' := T3.setTop (mkF m 51 #[.val (.int x1), .val (.int x2), .val (.int x3), .val (.int aa), .val (.int bb), .val (.long pp), .second, .unset, .unset, .unset, .unset, .unset] [])) (fun t k => XS.ifNo X3.here hx rfl (hb hby at_48) rfl ((if0 _ _).trans (teq (by decide : ((0 : Int32) = (0 : Int32)))).2) k) ?_
    refine own_via (U' := T3.setTop (mkF m 52 #[.val (.int x1), .val (.int x2), .val (.int x3), .val (.int aa), .val (.int bb), .val (.long pp), .second, .unset, .unset, .unset, .unset, .unset] [(.int (1 : Int32))])) (fun t k => XS.iconst X3.here hx rfl (hb hby at_51) k) ?_
    refine own_via (U' := T3.setTop (mkF m 56 #[.val (.int x1), .val (.int x2), .val (.int x3), .val (.int aa), .val (.int bb), .val (.long pp), .second, .unset, .unset, .unset, .unset, .unset] [(.int (1 : Int32))])) (fun t k => XS.goto X3.here hx rfl (pc0 := 52) (pc' := 56) rfl (hb hby at_52) (by decide) (by decide) k) ?_
    exact own_ret X3 (v := some (.int (1 : Int32))) (fun h => by rw [Bd.returns] at h; cases h) hlk (fun fs hr => retN X3 hx (t := .boolean) Bd.returns (by simp) (hb hby at_56) hr) (by rw [e3]; exact ⟨rfl, N3⟩) (by decide) (by decide)
  case neg =>
    refine own_via (U' := T1.setTop (mkF m 57 #[.val (.int x1), .val (.int x2), .val (.int x3), .val (.int aa), .val (.int bb), .val (.long pp), .second, .unset, .unset, .unset, .unset, .unset] [])) (fun t k => XS.ifYes X1.here hx rfl (pc0 := 34) (pc' := 57) rfl (hb hby at_34) rfl ((if0 _ _).trans (feq hc2).2) (by decide) (by decide) k) ?_
    refine own_via (U' := T1.setTop (mkF m 59 #[.val (.int x1), .val (.int x2), .val (.int x3), .val (.int aa), .val (.int bb), .val (.long pp), .second, .unset, .unset, .unset, .unset, .unset] [(.long pp)])) (fun t k => XS.lload X1.here hx rfl (hb hby at_57) rfl k) ?_
    refine own_via (U' := T1.setTop (mkF m 60 #[.val (.int x1), .val (.int x2), .val (.int x3), .val (.int aa), .val (.int bb), .val (.long pp), .second, .unset, .unset, .unset, .unset, .unset] [(.double (FP.l2d pp))])) (fun t k => XS.l2dS X1.here hx rfl (hb hby at_59) rfl rfl k) ?_
    refine own_via (U' := T1.setTop (mkF m 62 #[.val (.int x1), .val (.int x2), .val (.int x3), .val (.int aa), .val (.int bb), .val (.long pp), .second, .unset, .unset, .unset, .unset, .unset] [(.int bb), (.double (FP.l2d pp))])) (fun t k => XS.iload X1.here hx rfl (hb hby at_60) rfl k) ?_
    refine own_via (U' := T1.setTop (mkF m 63 #[.val (.int x1), .val (.int x2), .val (.int x3), .val (.int aa), .val (.int bb), .val (.long pp), .second, .unset, .unset, .unset, .unset, .unset] [(.double (FP.i2d bb)), (.double (FP.l2d pp))])) (fun t k => XS.i2dS X1.here hx rfl (hb hby at_62) rfl rfl k) ?_
    obtain ⟨_, T4, L4, X4, hQ4, st4⟩ := own_callS X1 hx hZ (y := (⟨"com/example/zenodotus/zenodotus/eval/JudgedRanking", "ratio", "(DD)D"⟩ : MethodName)) (W := 0) hown (hw _ (List.mem_of_getElem? (i := 0) rfl)) (hw _ (List.mem_of_getElem? (i := 1) rfl)) (hw _ (List.mem_of_getElem? (i := 2) rfl)) (hw _ (List.mem_of_getElem? (i := 3) rfl)) (by decide) (rm_Qrb l Z a0 hw [] (FP.l2d pp) (FP.i2d bb) h0 n0 Z0 (own_dz _ hc2) (own_n1 haa hbb hpp hc2)) (by decide) (by decide) e1 (g := (mkF m 63 #[.val (.int x1), .val (.int x2), .val (.int x3), .val (.int aa), .val (.int bb), .val (.long pp), .second, .unset, .unset, .unset, .unset, .unset] [(.double (FP.i2d bb)), (.double (FP.l2d pp))])) rfl (by rw [hml]; rfl) (argsL := [(.double (FP.l2d pp)), (.double (FP.i2d bb))]) (rest := []) rfl (lenOf pd_DD__D rfl) rfl (by show 2 * 0 + _ ≤ _; exact Nat.le_of_eq rfl) (hb hby at_63) (by decide) (by decide)
    obtain ⟨rfl, N4q, e4⟩ := hQ4
    have N4 := Fr.app N1 N4q
    refine own_via (U' := T4.setTop (mkF m 66 #[.val (.int x1), .val (.int x2), .val (.int x3), .val (.int aa), .val (.int bb), .val (.long pp), .second, .unset, .unset, .unset, .unset, .unset] [(.double (FP.ddiv (FP.l2d pp) (FP.i2d bb)))])) (fun t k => st4 t k) ?_
    refine own_via (U' := T4.setTop (mkF m 68 #[.val (.int x1), .val (.int x2), .val (.int x3), .val (.int aa), .val (.int bb), .val (.long pp), .second, .val (.double (FP.ddiv (FP.l2d pp) (FP.i2d bb))), .second, .unset, .unset, .unset] [])) (fun t k => XS.dstore X4.here hx rfl (hb hby at_66) rfl (l' := #[.val (.int x1), .val (.int x2), .val (.int x3), .val (.int aa), .val (.int bb), .val (.long pp), .second, .val (.double (FP.ddiv (FP.l2d pp) (FP.i2d bb))), .second, .unset, .unset, .unset]) rfl k) ?_
    refine own_via (U' := T4.setTop (mkF m 70 #[.val (.int x1), .val (.int x2), .val (.int x3), .val (.int aa), .val (.int bb), .val (.long pp), .second, .val (.double (FP.ddiv (FP.l2d pp) (FP.i2d bb))), .second, .unset, .unset, .unset] [(.double (FP.ddiv (FP.l2d pp) (FP.i2d bb)))])) (fun t k => XS.dload X4.here hx rfl (hb hby at_68) rfl k) ?_
    refine own_via (U' := T4.setTop (mkF m 71 #[.val (.int x1), .val (.int x2), .val (.int x3), .val (.int aa), .val (.int bb), .val (.long pp), .second, .val (.double (FP.ddiv (FP.l2d pp) (FP.i2d bb))), .second, .unset, .unset, .unset] [(.int aa), (.double (FP.ddiv (FP.l2d pp) (FP.i2d bb)))])) (fun t k => XS.iloadN X4.here hx rfl (hb hby at_70) rfl k) ?_
    refine own_via (U' := T4.setTop (mkF m 72 #[.val (.int x1), .val (.int x2), .val (.int x3), .val (.int aa), .val (.int bb), .val (.long pp), .second, .val (.double (FP.ddiv (FP.l2d pp) (FP.i2d bb))), .second, .unset, .unset, .unset] [(.double (FP.i2d aa)), (.double (FP.ddiv (FP.l2d pp) (FP.i2d bb)))])) (fun t k => XS.i2dS X4.here hx rfl (hb hby at_71) rfl rfl k) ?_
    refine own_via (U' := T4.setTop (mkF m 73 #[.val (.int x1), .val (.int x2), .val (.int x3), .val (.int aa), .val (.int bb), .val (.long pp), .second, .val (.double (FP.ddiv (FP.l2d pp) (FP.i2d bb))), .second, .unset, .unset, .unset] [(.int (0 : Int32))])) (fun t k => XS.dcmpS X4.here hx rfl (hb hby at_72) rfl (own_e1 haa hbb hpp hc2) k) ?_
    refine own_via (U' := T4.setTop (mkF m 78 #[.val (.int x1), .val (.int x2), .val (.int x3), .val (.int aa), .val (.int bb), .val (.long pp), .second, .val (.double (FP.ddiv (FP.l2d pp) (FP.i2d bb))), .second, .unset, .unset, .unset] [])) (fun t k => XS.ifYes X4.here hx rfl (pc0 := 73) (pc' := 78) rfl (hb hby at_73) rfl ((if0 _ _).trans (teq (by decide : ((0 : Int32) = (0 : Int32)))).1) (by decide) (by decide) k) ?_
    refine own_via (U' := T4.setTop (mkF m 79 #[.val (.int x1), .val (.int x2), .val (.int x3), .val (.int aa), .val (.int bb), .val (.long pp), .second, .val (.double (FP.ddiv (FP.l2d pp) (FP.i2d bb))), .second, .unset, .unset, .unset] [(.int x3)])) (fun t k => XS.iloadN X4.here hx rfl (hb hby at_78) rfl k) ?_
    refine own_via (U' := T4.setTop (mkF m 81 #[.val (.int x1), .val (.int x2), .val (.int x3), .val (.int aa), .val (.int bb), .val (.long pp), .second, .val (.double (FP.ddiv (FP.l2d pp) (FP.i2d bb))), .second, .unset, .unset, .unset] [(.int (2147483647 : Int32)), (.int x3)])) (fun t k => X4.ldcInt hx hown (mvT hZ (hw _ (List.mem_of_getElem? (i := 4) rfl))) (g := (mkF m 79 #[.val (.int x1), .val (.int x2), .val (.int x3), .val (.int aa), .val (.int bb), .val (.long pp), .second, .val (.double (FP.ddiv (FP.l2d pp) (FP.i2d bb))), .second, .unset, .unset, .unset] [(.int x3)])) rfl (hb hby at_79) _ k) ?_
    refine own_via (U' := T4.setTop (mkF m 82 #[.val (.int x1), .val (.int x2), .val (.int x3), .val (.int aa), .val (.int bb), .val (.long pp), .second, .val (.double (FP.ddiv (FP.l2d pp) (FP.i2d bb))), .second, .unset, .unset, .unset] [(.int (x3 &&& (2147483647 : Int32)))])) (fun t k => XS.iand X4.here hx rfl (hb hby at_81) rfl k) ?_
    refine own_via (U' := T4.setTop (mkF m 84 #[.val (.int x1), .val (.int x2), .val (.int x3), .val (.int aa), .val (.int bb), .val (.long pp), .second, .val (.double (FP.ddiv (FP.l2d pp) (FP.i2d bb))), .second, .unset, .unset, .unset] [(.int bb), (.int (x3 &&& (2147483647 : Int32)))])) (fun t k => XS.iload X4.here hx rfl (hb hby at_82) rfl k) ?_
    obtain ⟨_, T5, L5, X5, hQ5, st5⟩ := own_callS X4 hx hZ (y := (⟨"java/lang/Math", "abs", "(I)I"⟩ : MethodName)) (W := 1) hown (hw _ (List.mem_of_getElem? (i := 5) rfl)) (hw _ (List.mem_of_getElem? (i := 6) rfl)) (hw _ (List.mem_of_getElem? (i := 7) rfl)) (hw _ (List.mem_of_getElem? (i := 8) rfl)) (by decide) (rm_Qabs l Z a0 hw [] bb h0 n0 Z0) (by decide) (by decide) e4 (g := (mkF m 84 #[.val (.int x1), .val (.int x2), .val (.int x3), .val (.int aa), .val (.int bb), .val (.long pp), .second, .val (.double (FP.ddiv (FP.l2d pp) (FP.i2d bb))), .second, .unset, .unset, .unset] [(.int bb), (.int (x3 &&& (2147483647 : Int32)))])) rfl (by rw [hml]; rfl) (argsL := [(.int bb)]) (rest := [(.int (x3 &&& (2147483647 : Int32)))]) rfl (lenOf pd_I__I rfl) rfl (by show 2 * 0 + _ ≤ _; exact Nat.le_of_eq rfl) (hb hby at_84) (by decide) (by decide)
    obtain ⟨rfl, N5q, e5⟩ := hQ5
    have N5 := Fr.app N4 N5q
    refine own_via (U' := T5.setTop (mkF m 87 #[.val (.int x1), .val (.int x2), .val (.int x3), .val (.int aa), .val (.int bb), .val (.long pp), .second, .val (.double (FP.ddiv (FP.l2d pp) (FP.i2d bb))), .second, .unset, .unset, .unset] [(.int (if bb < (0 : Int32) then (-bb) else bb)), (.int (x3 &&& (2147483647 : Int32)))])) (fun t k => st5 t k) ?_
    refine own_via (U' := T5.setTop (mkF m 88 #[.val (.int x1), .val (.int x2), .val (.int x3), .val (.int aa), .val (.int bb), .val (.long pp), .second, .val (.double (FP.ddiv (FP.l2d pp) (FP.i2d bb))), .second, .unset, .unset, .unset] [(.int ((x3 &&& (2147483647 : Int32)) % (if bb < (0 : Int32) then (-bb) else bb)))])) (fun t k => iremM X5 hx rfl (hb hby at_87) rfl (own_abnz _ hbb hc2) k) ?_
    refine own_via (U' := T5.setTop (mkF m 90 #[.val (.int x1), .val (.int x2), .val (.int x3), .val (.int aa), .val (.int bb), .val (.long pp), .second, .val (.double (FP.ddiv (FP.l2d pp) (FP.i2d bb))), .second, .val (.int ((x3 &&& (2147483647 : Int32)) % (if bb < (0 : Int32) then (-bb) else bb))), .unset, .unset] [])) (fun t k => XS.istore X5.here hx rfl (hb hby at_88) rfl (l' := #[.val (.int x1), .val (.int x2), .val (.int x3), .val (.int aa), .val (.int bb), .val (.long pp), .second, .val (.double (FP.ddiv (FP.l2d pp) (FP.i2d bb))), .second, .val (.int ((x3 &&& (2147483647 : Int32)) % (if bb < (0 : Int32) then (-bb) else bb))), .unset, .unset]) rfl k) ?_
    have hr : 0 ≤ ((x3 &&& (2147483647 : Int32)) % (if bb < (0 : Int32) then (-bb) else bb)).toInt ∧ ((x3 &&& (2147483647 : Int32)) % (if bb < (0 : Int32) then (-bb) else bb)).toInt < bb.toInt.natAbs := own_r _ _ hbb hc2
    generalize ((x3 &&& (2147483647 : Int32)) % (if bb < (0 : Int32) then (-bb) else bb)) = rr at hr ⊢
    refine own_via (U' := T5.setTop (mkF m 92 #[.val (.int x1), .val (.int x2), .val (.int x3), .val (.int aa), .val (.int bb), .val (.long pp), .second, .val (.double (FP.ddiv (FP.l2d pp) (FP.i2d bb))), .second, .val (.int rr), .unset, .unset] [(.long pp)])) (fun t k => XS.lload X5.here hx rfl (hb hby at_90) rfl k) ?_
    refine own_via (U' := T5.setTop (mkF m 94 #[.val (.int x1), .val (.int x2), .val (.int x3), .val (.int aa), .val (.int bb), .val (.long pp), .second, .val (.double (FP.ddiv (FP.l2d pp) (FP.i2d bb))), .second, .val (.int rr), .unset, .unset] [(.int rr), (.long pp)])) (fun t k => XS.iload X5.here hx rfl (hb hby at_92) rfl k) ?_
    refine own_via (U' := T5.setTop (mkF m 95 #[.val (.int x1), .val (.int x2), .val (.int x3), .val (.int aa), .val (.int bb), .val (.long pp), .second, .val (.double (FP.ddiv (FP.l2d pp) (FP.i2d bb))), .second, .val (.int rr), .unset, .unset] [(.long (rr.toInt64)), (.long pp)])) (fun t k => XS.i2l X5.here hx rfl (hb hby at_94) rfl k) ?_
    refine own_via (U' := T5.setTop (mkF m 96 #[.val (.int x1), .val (.int x2), .val (.int x3), .val (.int aa), .val (.int bb), .val (.long pp), .second, .val (.double (FP.ddiv (FP.l2d pp) (FP.i2d bb))), .second, .val (.int rr), .unset, .unset] [(.long (pp + (rr.toInt64)))])) (fun t k => XS.ladd X5.here hx rfl (hb hby at_95) rfl k) ?_
    refine own_via (U' := T5.setTop (mkF m 97 #[.val (.int x1), .val (.int x2), .val (.int x3), .val (.int aa), .val (.int bb), .val (.long pp), .second, .val (.double (FP.ddiv (FP.l2d pp) (FP.i2d bb))), .second, .val (.int rr), .unset, .unset] [(.double (FP.l2d (pp + (rr.toInt64))))])) (fun t k => XS.l2dS X5.here hx rfl (hb hby at_96) rfl rfl k) ?_
    refine own_via (U' := T5.setTop (mkF m 99 #[.val (.int x1), .val (.int x2), .val (.int x3), .val (.int aa), .val (.int bb), .val (.long pp), .second, .val (.double (FP.ddiv (FP.l2d pp) (FP.i2d bb))), .second, .val (.int rr), .unset, .unset] [(.int bb), (.double (FP.l2d (pp + (rr.toInt64))))])) (fun t k => XS.iload X5.here hx rfl (hb hby at_97) rfl k) ?_
    refine own_via (U' := T5.setTop (mkF m 100 #[.val (.int x1), .val (.int x2), .val (.int x3), .val (.int aa), .val (.int bb), .val (.long pp), .second, .val (.double (FP.ddiv (FP.l2d pp) (FP.i2d bb))), .second, .val (.int rr), .unset, .unset] [(.double (FP.i2d bb)), (.double (FP.l2d (pp + (rr.toInt64))))])) (fun t k => XS.i2dS X5.here hx rfl (hb hby at_99) rfl rfl k) ?_
    obtain ⟨_, T6, L6, X6, hQ6, st6⟩ := own_callS X5 hx hZ (y := (⟨"com/example/zenodotus/zenodotus/eval/JudgedRanking", "ratio", "(DD)D"⟩ : MethodName)) (W := 0) hown (hw _ (List.mem_of_getElem? (i := 0) rfl)) (hw _ (List.mem_of_getElem? (i := 1) rfl)) (hw _ (List.mem_of_getElem? (i := 2) rfl)) (hw _ (List.mem_of_getElem? (i := 3) rfl)) (by decide) (rm_Qrb l Z a0 hw [] (FP.l2d (pp + (rr.toInt64))) (FP.i2d bb) h0 n0 Z0 (own_dz _ hc2) (own_nr haa hbb hpp hc2 hr)) (by decide) (by decide) e5 (g := (mkF m 100 #[.val (.int x1), .val (.int x2), .val (.int x3), .val (.int aa), .val (.int bb), .val (.long pp), .second, .val (.double (FP.ddiv (FP.l2d pp) (FP.i2d bb))), .second, .val (.int rr), .unset, .unset] [(.double (FP.i2d bb)), (.double (FP.l2d (pp + (rr.toInt64))))])) rfl (by rw [hml]; rfl) (argsL := [(.double (FP.l2d (pp + (rr.toInt64)))), (.double (FP.i2d bb))]) (rest := []) rfl (lenOf pd_DD__D rfl) rfl (by show 2 * 0 + _ ≤ _; exact Nat.le_of_eq rfl) (hb hby at_100) (by decide) (by decide)
    obtain ⟨rfl, N6q, e6⟩ := hQ6
    have N6 := Fr.app N5 N6q
    refine own_via (U' := T6.setTop (mkF m 103 #[.val (.int x1), .val (.int x2), .val (.int x3), .val (.int aa), .val (.int bb), .val (.long pp), .second, .val (.double (FP.ddiv (FP.l2d pp) (FP.i2d bb))), .second, .val (.int rr), .unset, .unset] [(.double (FP.ddiv (FP.l2d (pp + (rr.toInt64))) (FP.i2d bb)))])) (fun t k => st6 t k) ?_
    refine own_via (U' := T6.setTop (mkF m 105 #[.val (.int x1), .val (.int x2), .val (.int x3), .val (.int aa), .val (.int bb), .val (.long pp), .second, .val (.double (FP.ddiv (FP.l2d pp) (FP.i2d bb))), .second, .val (.int rr), .val (.double (FP.ddiv (FP.l2d (pp + (rr.toInt64))) (FP.i2d bb))), .second] [])) (fun t k => XS.dstore X6.here hx rfl (hb hby at_103) rfl (l' := #[.val (.int x1), .val (.int x2), .val (.int x3), .val (.int aa), .val (.int bb), .val (.long pp), .second, .val (.double (FP.ddiv (FP.l2d pp) (FP.i2d bb))), .second, .val (.int rr), .val (.double (FP.ddiv (FP.l2d (pp + (rr.toInt64))) (FP.i2d bb))), .second]) rfl k) ?_
    refine own_via (U' := T6.setTop (mkF m 107 #[.val (.int x1), .val (.int x2), .val (.int x3), .val (.int aa), .val (.int bb), .val (.long pp), .second, .val (.double (FP.ddiv (FP.l2d pp) (FP.i2d bb))), .second, .val (.int rr), .val (.double (FP.ddiv (FP.l2d (pp + (rr.toInt64))) (FP.i2d bb))), .second] [(.int rr)])) (fun t k => XS.iload X6.here hx rfl (hb hby at_105) rfl k) ?_
    by_cases hc7 : rr = (0 : Int32)
    case pos =>
      refine own_via (U' := T6.setTop (mkF m 110 #[.val (.int x1), .val (.int x2), .val (.int x3), .val (.int aa), .val (.int bb), .val (.long pp), .second, .val (.double (FP.ddiv (FP.l2d pp) (FP.i2d bb))), .second, .val (.int rr), .val (.double (FP.ddiv (FP.l2d (pp + (rr.toInt64))) (FP.i2d bb))), .second] [])) (fun t k => XS.ifNo X6.here hx rfl (hb hby at_107) rfl ((if0 _ _).trans (teq hc7).2) k) ?_
      refine own_via (U' := T6.setTop (mkF m 112 #[.val (.int x1), .val (.int x2), .val (.int x3), .val (.int aa), .val (.int bb), .val (.long pp), .second, .val (.double (FP.ddiv (FP.l2d pp) (FP.i2d bb))), .second, .val (.int rr), .val (.double (FP.ddiv (FP.l2d (pp + (rr.toInt64))) (FP.i2d bb))), .second] [(.double (FP.ddiv (FP.l2d (pp + (rr.toInt64))) (FP.i2d bb)))])) (fun t k => XS.dload X6.here hx rfl (hb hby at_110) rfl k) ?_
      refine own_via (U' := T6.setTop (mkF m 113 #[.val (.int x1), .val (.int x2), .val (.int x3), .val (.int aa), .val (.int bb), .val (.long pp), .second, .val (.double (FP.ddiv (FP.l2d pp) (FP.i2d bb))), .second, .val (.int rr), .val (.double (FP.ddiv (FP.l2d (pp + (rr.toInt64))) (FP.i2d bb))), .second] [(.int aa), (.double (FP.ddiv (FP.l2d (pp + (rr.toInt64))) (FP.i2d bb)))])) (fun t k => XS.iloadN X6.here hx rfl (hb hby at_112) rfl k) ?_
      refine own_via (U' := T6.setTop (mkF m 114 #[.val (.int x1), .val (.int x2), .val (.int x3), .val (.int aa), .val (.int bb), .val (.long pp), .second, .val (.double (FP.ddiv (FP.l2d pp) (FP.i2d bb))), .second, .val (.int rr), .val (.double (FP.ddiv (FP.l2d (pp + (rr.toInt64))) (FP.i2d bb))), .second] [(.double (FP.i2d aa)), (.double (FP.ddiv (FP.l2d (pp + (rr.toInt64))) (FP.i2d bb)))])) (fun t k => XS.i2dS X6.here hx rfl (hb hby at_113) rfl rfl k) ?_
      refine own_via (U' := T6.setTop (mkF m 115 #[.val (.int x1), .val (.int x2), .val (.int x3), .val (.int aa), .val (.int bb), .val (.long pp), .second, .val (.double (FP.ddiv (FP.l2d pp) (FP.i2d bb))), .second, .val (.int rr), .val (.double (FP.ddiv (FP.l2d (pp + (rr.toInt64))) (FP.i2d bb))), .second] [(.int (0 : Int32))])) (fun t k => XS.dcmpS X6.here hx rfl (hb hby at_114) rfl (own_er haa hbb hpp hc2 hr hc7) k) ?_
      refine own_via (U' := T6.setTop (mkF m 118 #[.val (.int x1), .val (.int x2), .val (.int x3), .val (.int aa), .val (.int bb), .val (.long pp), .second, .val (.double (FP.ddiv (FP.l2d pp) (FP.i2d bb))), .second, .val (.int rr), .val (.double (FP.ddiv (FP.l2d (pp + (rr.toInt64))) (FP.i2d bb))), .second] [])) (fun t k => XS.ifNo X6.here hx rfl (hb hby at_115) rfl ((if0 _ _).trans (teq (by decide : ((0 : Int32) = (0 : Int32)))).2) k) ?_
      refine own_via (U' := T6.setTop (mkF m 119 #[.val (.int x1), .val (.int x2), .val (.int x3), .val (.int aa), .val (.int bb), .val (.long pp), .second, .val (.double (FP.ddiv (FP.l2d pp) (FP.i2d bb))), .second, .val (.int rr), .val (.double (FP.ddiv (FP.l2d (pp + (rr.toInt64))) (FP.i2d bb))), .second] [(.int (1 : Int32))])) (fun t k => XS.iconst X6.here hx rfl (hb hby at_118) k) ?_
      refine own_via (U' := T6.setTop (mkF m 123 #[.val (.int x1), .val (.int x2), .val (.int x3), .val (.int aa), .val (.int bb), .val (.long pp), .second, .val (.double (FP.ddiv (FP.l2d pp) (FP.i2d bb))), .second, .val (.int rr), .val (.double (FP.ddiv (FP.l2d (pp + (rr.toInt64))) (FP.i2d bb))), .second] [(.int (1 : Int32))])) (fun t k => XS.goto X6.here hx rfl (pc0 := 119) (pc' := 123) rfl (hb hby at_119) (by decide) (by decide) k) ?_
      exact own_ret X6 (v := some (.int (1 : Int32))) (fun h => by rw [Bd.returns] at h; cases h) hlk (fun fs hr => retN X6 hx (t := .boolean) Bd.returns (by simp) (hb hby at_123) hr) (by rw [e6]; exact ⟨rfl, N6⟩) (by decide) (by decide)
    case neg =>
      refine own_via (U' := T6.setTop (mkF m 124 #[.val (.int x1), .val (.int x2), .val (.int x3), .val (.int aa), .val (.int bb), .val (.long pp), .second, .val (.double (FP.ddiv (FP.l2d pp) (FP.i2d bb))), .second, .val (.int rr), .val (.double (FP.ddiv (FP.l2d (pp + (rr.toInt64))) (FP.i2d bb))), .second] [])) (fun t k => XS.ifYes X6.here hx rfl (pc0 := 107) (pc' := 124) rfl (hb hby at_107) rfl ((if0 _ _).trans (feq hc7).2) (by decide) (by decide) k) ?_
      refine own_via (U' := T6.setTop (mkF m 126 #[.val (.int x1), .val (.int x2), .val (.int x3), .val (.int aa), .val (.int bb), .val (.long pp), .second, .val (.double (FP.ddiv (FP.l2d pp) (FP.i2d bb))), .second, .val (.int rr), .val (.double (FP.ddiv (FP.l2d (pp + (rr.toInt64))) (FP.i2d bb))), .second] [(.int bb)])) (fun t k => XS.iload X6.here hx rfl (hb hby at_124) rfl k) ?_
      by_cases hc8 : (0 : Int32) < bb
      case pos =>
        refine own_via (U' := T6.setTop (mkF m 129 #[.val (.int x1), .val (.int x2), .val (.int x3), .val (.int aa), .val (.int bb), .val (.long pp), .second, .val (.double (FP.ddiv (FP.l2d pp) (FP.i2d bb))), .second, .val (.int rr), .val (.double (FP.ddiv (FP.l2d (pp + (rr.toInt64))) (FP.i2d bb))), .second] [])) (fun t k => XS.ifNo X6.here hx rfl (hb hby at_126) rfl ((if0 _ _).trans (tlt hc8).2.2.2) k) ?_
        refine own_via (U' := T6.setTop (mkF m 130 #[.val (.int x1), .val (.int x2), .val (.int x3), .val (.int aa), .val (.int bb), .val (.long pp), .second, .val (.double (FP.ddiv (FP.l2d pp) (FP.i2d bb))), .second, .val (.int rr), .val (.double (FP.ddiv (FP.l2d (pp + (rr.toInt64))) (FP.i2d bb))), .second] [(.int aa)])) (fun t k => XS.iloadN X6.here hx rfl (hb hby at_129) rfl k) ?_
        refine own_via (U' := T6.setTop (mkF m 131 #[.val (.int x1), .val (.int x2), .val (.int x3), .val (.int aa), .val (.int bb), .val (.long pp), .second, .val (.double (FP.ddiv (FP.l2d pp) (FP.i2d bb))), .second, .val (.int rr), .val (.double (FP.ddiv (FP.l2d (pp + (rr.toInt64))) (FP.i2d bb))), .second] [(.double (FP.i2d aa))])) (fun t k => XS.i2dS X6.here hx rfl (hb hby at_130) rfl rfl k) ?_
        refine own_via (U' := T6.setTop (mkF m 133 #[.val (.int x1), .val (.int x2), .val (.int x3), .val (.int aa), .val (.int bb), .val (.long pp), .second, .val (.double (FP.ddiv (FP.l2d pp) (FP.i2d bb))), .second, .val (.int rr), .val (.double (FP.ddiv (FP.l2d (pp + (rr.toInt64))) (FP.i2d bb))), .second] [(.double (FP.ddiv (FP.l2d (pp + (rr.toInt64))) (FP.i2d bb))), (.double (FP.i2d aa))])) (fun t k => XS.dload X6.here hx rfl (hb hby at_131) rfl k) ?_
        refine own_via (U' := T6.setTop (mkF m 134 #[.val (.int x1), .val (.int x2), .val (.int x3), .val (.int aa), .val (.int bb), .val (.long pp), .second, .val (.double (FP.ddiv (FP.l2d pp) (FP.i2d bb))), .second, .val (.int rr), .val (.double (FP.ddiv (FP.l2d (pp + (rr.toInt64))) (FP.i2d bb))), .second] [(.int (-1 : Int32))])) (fun t k => XS.dcmpS X6.here hx rfl (hb hby at_133) rfl (own_g1 haa hbb hpp hc2 hr hc7 hc8) k) ?_
        refine own_via (U' := T6.setTop (mkF m 137 #[.val (.int x1), .val (.int x2), .val (.int x3), .val (.int aa), .val (.int bb), .val (.long pp), .second, .val (.double (FP.ddiv (FP.l2d pp) (FP.i2d bb))), .second, .val (.int rr), .val (.double (FP.ddiv (FP.l2d (pp + (rr.toInt64))) (FP.i2d bb))), .second] [])) (fun t k => XS.ifNo X6.here hx rfl (hb hby at_134) rfl ((if0 _ _).trans (tlt (by decide : ((-1 : Int32) < (0 : Int32)))).2.1) k) ?_
        refine own_via (U' := T6.setTop (mkF m 139 #[.val (.int x1), .val (.int x2), .val (.int x3), .val (.int aa), .val (.int bb), .val (.long pp), .second, .val (.double (FP.ddiv (FP.l2d pp) (FP.i2d bb))), .second, .val (.int rr), .val (.double (FP.ddiv (FP.l2d (pp + (rr.toInt64))) (FP.i2d bb))), .second] [(.double (FP.ddiv (FP.l2d (pp + (rr.toInt64))) (FP.i2d bb)))])) (fun t k => XS.dload X6.here hx rfl (hb hby at_137) rfl k) ?_
        refine own_via (U' := T6.setTop (mkF m 140 #[.val (.int x1), .val (.int x2), .val (.int x3), .val (.int aa), .val (.int bb), .val (.long pp), .second, .val (.double (FP.ddiv (FP.l2d pp) (FP.i2d bb))), .second, .val (.int rr), .val (.double (FP.ddiv (FP.l2d (pp + (rr.toInt64))) (FP.i2d bb))), .second] [(.int aa), (.double (FP.ddiv (FP.l2d (pp + (rr.toInt64))) (FP.i2d bb)))])) (fun t k => XS.iloadN X6.here hx rfl (hb hby at_139) rfl k) ?_
        refine own_via (U' := T6.setTop (mkF m 141 #[.val (.int x1), .val (.int x2), .val (.int x3), .val (.int aa), .val (.int bb), .val (.long pp), .second, .val (.double (FP.ddiv (FP.l2d pp) (FP.i2d bb))), .second, .val (.int rr), .val (.double (FP.ddiv (FP.l2d (pp + (rr.toInt64))) (FP.i2d bb))), .second] [(.int (1 : Int32)), (.int aa), (.double (FP.ddiv (FP.l2d (pp + (rr.toInt64))) (FP.i2d bb)))])) (fun t k => XS.iconst X6.here hx rfl (hb hby at_140) k) ?_
        refine own_via (U' := T6.setTop (mkF m 142 #[.val (.int x1), .val (.int x2), .val (.int x3), .val (.int aa), .val (.int bb), .val (.long pp), .second, .val (.double (FP.ddiv (FP.l2d pp) (FP.i2d bb))), .second, .val (.int rr), .val (.double (FP.ddiv (FP.l2d (pp + (rr.toInt64))) (FP.i2d bb))), .second] [(.int (aa + (1 : Int32))), (.double (FP.ddiv (FP.l2d (pp + (rr.toInt64))) (FP.i2d bb)))])) (fun t k => XS.iadd X6.here hx rfl (hb hby at_141) rfl k) ?_
        refine own_via (U' := T6.setTop (mkF m 143 #[.val (.int x1), .val (.int x2), .val (.int x3), .val (.int aa), .val (.int bb), .val (.long pp), .second, .val (.double (FP.ddiv (FP.l2d pp) (FP.i2d bb))), .second, .val (.int rr), .val (.double (FP.ddiv (FP.l2d (pp + (rr.toInt64))) (FP.i2d bb))), .second] [(.double (FP.i2d (aa + (1 : Int32)))), (.double (FP.ddiv (FP.l2d (pp + (rr.toInt64))) (FP.i2d bb)))])) (fun t k => XS.i2dS X6.here hx rfl (hb hby at_142) rfl rfl k) ?_
        refine own_via (U' := T6.setTop (mkF m 144 #[.val (.int x1), .val (.int x2), .val (.int x3), .val (.int aa), .val (.int bb), .val (.long pp), .second, .val (.double (FP.ddiv (FP.l2d pp) (FP.i2d bb))), .second, .val (.int rr), .val (.double (FP.ddiv (FP.l2d (pp + (rr.toInt64))) (FP.i2d bb))), .second] [(.int (-1 : Int32))])) (fun t k => XS.dcmpS X6.here hx rfl (hb hby at_143) rfl (own_g2 haa hbb hpp hc2 hr hc7 hc8) k) ?_
        refine own_via (U' := T6.setTop (mkF m 147 #[.val (.int x1), .val (.int x2), .val (.int x3), .val (.int aa), .val (.int bb), .val (.long pp), .second, .val (.double (FP.ddiv (FP.l2d pp) (FP.i2d bb))), .second, .val (.int rr), .val (.double (FP.ddiv (FP.l2d (pp + (rr.toInt64))) (FP.i2d bb))), .second] [])) (fun t k => XS.ifNo X6.here hx rfl (hb hby at_144) rfl ((if0 _ _).trans (tlt (by decide : ((-1 : Int32) < (0 : Int32)))).2.1) k) ?_
        refine own_via (U' := T6.setTop (mkF m 148 #[.val (.int x1), .val (.int x2), .val (.int x3), .val (.int aa), .val (.int bb), .val (.long pp), .second, .val (.double (FP.ddiv (FP.l2d pp) (FP.i2d bb))), .second, .val (.int rr), .val (.double (FP.ddiv (FP.l2d (pp + (rr.toInt64))) (FP.i2d bb))), .second] [(.int (1 : Int32))])) (fun t k => XS.iconst X6.here hx rfl (hb hby at_147) k) ?_
        refine own_via (U' := T6.setTop (mkF m 152 #[.val (.int x1), .val (.int x2), .val (.int x3), .val (.int aa), .val (.int bb), .val (.long pp), .second, .val (.double (FP.ddiv (FP.l2d pp) (FP.i2d bb))), .second, .val (.int rr), .val (.double (FP.ddiv (FP.l2d (pp + (rr.toInt64))) (FP.i2d bb))), .second] [(.int (1 : Int32))])) (fun t k => XS.goto X6.here hx rfl (pc0 := 148) (pc' := 152) rfl (hb hby at_148) (by decide) (by decide) k) ?_
        exact own_ret X6 (v := some (.int (1 : Int32))) (fun h => by rw [Bd.returns] at h; cases h) hlk (fun fs hr => retN X6 hx (t := .boolean) Bd.returns (by simp) (hb hby at_152) hr) (by rw [e6]; exact ⟨rfl, N6⟩) (by decide) (by decide)
      case neg =>
        refine own_via (U' := T6.setTop (mkF m 153 #[.val (.int x1), .val (.int x2), .val (.int x3), .val (.int aa), .val (.int bb), .val (.long pp), .second, .val (.double (FP.ddiv (FP.l2d pp) (FP.i2d bb))), .second, .val (.int rr), .val (.double (FP.ddiv (FP.l2d (pp + (rr.toInt64))) (FP.i2d bb))), .second] [])) (fun t k => XS.ifYes X6.here hx rfl (pc0 := 126) (pc' := 153) rfl (hb hby at_126) rfl ((if0 _ _).trans (flt hc8).2.2.2) (by decide) (by decide) k) ?_
        refine own_via (U' := T6.setTop (mkF m 154 #[.val (.int x1), .val (.int x2), .val (.int x3), .val (.int aa), .val (.int bb), .val (.long pp), .second, .val (.double (FP.ddiv (FP.l2d pp) (FP.i2d bb))), .second, .val (.int rr), .val (.double (FP.ddiv (FP.l2d (pp + (rr.toInt64))) (FP.i2d bb))), .second] [(.int aa)])) (fun t k => XS.iloadN X6.here hx rfl (hb hby at_153) rfl k) ?_
        refine own_via (U' := T6.setTop (mkF m 155 #[.val (.int x1), .val (.int x2), .val (.int x3), .val (.int aa), .val (.int bb), .val (.long pp), .second, .val (.double (FP.ddiv (FP.l2d pp) (FP.i2d bb))), .second, .val (.int rr), .val (.double (FP.ddiv (FP.l2d (pp + (rr.toInt64))) (FP.i2d bb))), .second] [(.int (1 : Int32)), (.int aa)])) (fun t k => XS.iconst X6.here hx rfl (hb hby at_154) k) ?_
        refine own_via (U' := T6.setTop (mkF m 156 #[.val (.int x1), .val (.int x2), .val (.int x3), .val (.int aa), .val (.int bb), .val (.long pp), .second, .val (.double (FP.ddiv (FP.l2d pp) (FP.i2d bb))), .second, .val (.int rr), .val (.double (FP.ddiv (FP.l2d (pp + (rr.toInt64))) (FP.i2d bb))), .second] [(.int (aa - (1 : Int32)))])) (fun t k => XS.isub X6.here hx rfl (hb hby at_155) rfl k) ?_
        refine own_via (U' := T6.setTop (mkF m 157 #[.val (.int x1), .val (.int x2), .val (.int x3), .val (.int aa), .val (.int bb), .val (.long pp), .second, .val (.double (FP.ddiv (FP.l2d pp) (FP.i2d bb))), .second, .val (.int rr), .val (.double (FP.ddiv (FP.l2d (pp + (rr.toInt64))) (FP.i2d bb))), .second] [(.double (FP.i2d (aa - (1 : Int32))))])) (fun t k => XS.i2dS X6.here hx rfl (hb hby at_156) rfl rfl k) ?_
        refine own_via (U' := T6.setTop (mkF m 159 #[.val (.int x1), .val (.int x2), .val (.int x3), .val (.int aa), .val (.int bb), .val (.long pp), .second, .val (.double (FP.ddiv (FP.l2d pp) (FP.i2d bb))), .second, .val (.int rr), .val (.double (FP.ddiv (FP.l2d (pp + (rr.toInt64))) (FP.i2d bb))), .second] [(.double (FP.ddiv (FP.l2d (pp + (rr.toInt64))) (FP.i2d bb))), (.double (FP.i2d (aa - (1 : Int32))))])) (fun t k => XS.dload X6.here hx rfl (hb hby at_157) rfl k) ?_
        refine own_via (U' := T6.setTop (mkF m 160 #[.val (.int x1), .val (.int x2), .val (.int x3), .val (.int aa), .val (.int bb), .val (.long pp), .second, .val (.double (FP.ddiv (FP.l2d pp) (FP.i2d bb))), .second, .val (.int rr), .val (.double (FP.ddiv (FP.l2d (pp + (rr.toInt64))) (FP.i2d bb))), .second] [(.int (-1 : Int32))])) (fun t k => XS.dcmpS X6.here hx rfl (hb hby at_159) rfl (own_g3 haa hbb hpp hc2 hr hc7 hc8) k) ?_
        refine own_via (U' := T6.setTop (mkF m 163 #[.val (.int x1), .val (.int x2), .val (.int x3), .val (.int aa), .val (.int bb), .val (.long pp), .second, .val (.double (FP.ddiv (FP.l2d pp) (FP.i2d bb))), .second, .val (.int rr), .val (.double (FP.ddiv (FP.l2d (pp + (rr.toInt64))) (FP.i2d bb))), .second] [])) (fun t k => XS.ifNo X6.here hx rfl (hb hby at_160) rfl ((if0 _ _).trans (tlt (by decide : ((-1 : Int32) < (0 : Int32)))).2.1) k) ?_
        refine own_via (U' := T6.setTop (mkF m 165 #[.val (.int x1), .val (.int x2), .val (.int x3), .val (.int aa), .val (.int bb), .val (.long pp), .second, .val (.double (FP.ddiv (FP.l2d pp) (FP.i2d bb))), .second, .val (.int rr), .val (.double (FP.ddiv (FP.l2d (pp + (rr.toInt64))) (FP.i2d bb))), .second] [(.double (FP.ddiv (FP.l2d (pp + (rr.toInt64))) (FP.i2d bb)))])) (fun t k => XS.dload X6.here hx rfl (hb hby at_163) rfl k) ?_
        refine own_via (U' := T6.setTop (mkF m 166 #[.val (.int x1), .val (.int x2), .val (.int x3), .val (.int aa), .val (.int bb), .val (.long pp), .second, .val (.double (FP.ddiv (FP.l2d pp) (FP.i2d bb))), .second, .val (.int rr), .val (.double (FP.ddiv (FP.l2d (pp + (rr.toInt64))) (FP.i2d bb))), .second] [(.int aa), (.double (FP.ddiv (FP.l2d (pp + (rr.toInt64))) (FP.i2d bb)))])) (fun t k => XS.iloadN X6.here hx rfl (hb hby at_165) rfl k) ?_
        refine own_via (U' := T6.setTop (mkF m 167 #[.val (.int x1), .val (.int x2), .val (.int x3), .val (.int aa), .val (.int bb), .val (.long pp), .second, .val (.double (FP.ddiv (FP.l2d pp) (FP.i2d bb))), .second, .val (.int rr), .val (.double (FP.ddiv (FP.l2d (pp + (rr.toInt64))) (FP.i2d bb))), .second] [(.double (FP.i2d aa)), (.double (FP.ddiv (FP.l2d (pp + (rr.toInt64))) (FP.i2d bb)))])) (fun t k => XS.i2dS X6.here hx rfl (hb hby at_166) rfl rfl k) ?_
        refine own_via (U' := T6.setTop (mkF m 168 #[.val (.int x1), .val (.int x2), .val (.int x3), .val (.int aa), .val (.int bb), .val (.long pp), .second, .val (.double (FP.ddiv (FP.l2d pp) (FP.i2d bb))), .second, .val (.int rr), .val (.double (FP.ddiv (FP.l2d (pp + (rr.toInt64))) (FP.i2d bb))), .second] [(.int (-1 : Int32))])) (fun t k => XS.dcmpS X6.here hx rfl (hb hby at_167) rfl (own_g4 haa hbb hpp hc2 hr hc7 hc8) k) ?_
        refine own_via (U' := T6.setTop (mkF m 171 #[.val (.int x1), .val (.int x2), .val (.int x3), .val (.int aa), .val (.int bb), .val (.long pp), .second, .val (.double (FP.ddiv (FP.l2d pp) (FP.i2d bb))), .second, .val (.int rr), .val (.double (FP.ddiv (FP.l2d (pp + (rr.toInt64))) (FP.i2d bb))), .second] [])) (fun t k => XS.ifNo X6.here hx rfl (hb hby at_168) rfl ((if0 _ _).trans (tlt (by decide : ((-1 : Int32) < (0 : Int32)))).2.1) k) ?_
        refine own_via (U' := T6.setTop (mkF m 172 #[.val (.int x1), .val (.int x2), .val (.int x3), .val (.int aa), .val (.int bb), .val (.long pp), .second, .val (.double (FP.ddiv (FP.l2d pp) (FP.i2d bb))), .second, .val (.int rr), .val (.double (FP.ddiv (FP.l2d (pp + (rr.toInt64))) (FP.i2d bb))), .second] [(.int (1 : Int32))])) (fun t k => XS.iconst X6.here hx rfl (hb hby at_171) k) ?_
        refine own_via (U' := T6.setTop (mkF m 176 #[.val (.int x1), .val (.int x2), .val (.int x3), .val (.int aa), .val (.int bb), .val (.long pp), .second, .val (.double (FP.ddiv (FP.l2d pp) (FP.i2d bb))), .second, .val (.int rr), .val (.double (FP.ddiv (FP.l2d (pp + (rr.toInt64))) (FP.i2d bb))), .second] [(.int (1 : Int32))])) (fun t k => XS.goto X6.here hx rfl (pc0 := 172) (pc' := 176) rfl (hb hby at_172) (by decide) (by decide) k) ?_
        exact own_ret X6 (v := some (.int (1 : Int32))) (fun h => by rw [Bd.returns] at h; cases h) hlk (fun fs hr => retN X6 hx (t := .boolean) Bd.returns (by simp) (hb hby at_176) hr) (by rw [e6]; exact ⟨rfl, N6⟩) (by decide) (by decide)
set_option maxRecDepth 65536 in
set_option maxHeartbeats 40000000 in
theorem comes_1 {Post : Tables → Env → Array Value → State → Outcome → State → Prop} (hpost : ∀ tb e args s v u, (limb_1_1.after args s (.returned v) u = true ∧ limb_1_2.after args s (.returned v) u = true ∧ True) → FrameEnd s (.returned v) u (Jvm.fieldLocs frame_1_writes args s ++ Jvm.arrayLocs frame_1_arrays args s ++ Jvm.staticLocs frame_1_statics s) 0 0 → Post tb e args s (.returned v) u) :
    ArmFor flags0 classFile x code maxLocals ret World_1 tables_1 room_1 Calls_1 rest_1 Pre_1 Post := by
  intro l hfl _ _ p e ha hc hk s m args below hf hA hF happ hP
  obtain ⟨hcalls, hrest, hpre⟩ := hP
  obtain ⟨-, -, -, hnamed, -, -, -, hat⟩ := (Spec.applies_iff hf).mp happ
  obtain ⟨hg, hn⟩ := and_e (Cond.before_iff.mp (show (Jvm.Cond.and given_1 narrow_1).before args s = true from hpre))
  obtain ⟨hcount, r0⟩ := and_e hg
  obtain ⟨k0, r1⟩ := and_e r0
  obtain ⟨k1, r2⟩ := and_e r1
  obtain ⟨w0, w1, w2, rfl⟩ : ∃ w0 w1 w2 : Value, args = #[w0, w1, w2] := by
    have hs : args.size = 3 := by simpa [Cond.value, given_1] using hcount
    obtain ⟨L⟩ := args
    match L, hs with
    | [w0, w1, w2], _ => exact ⟨w0, w1, w2, rfl⟩
  have hw := fun d (hd : d ∈ tables_1) => atoms_spec (ws := Jvm.Cond.code x code maxLocals ret :: tables_1) hat d (List.mem_cons_of_mem _ hd)
  have hfit : Fit s := fun {y c} hc i hi => by
    obtain ⟨ha, rfl⟩ := Array.getElem?_eq_some_iff.mp hc
    have q := List.all_eq_true.mp ((Array.all_eq_true_iff_forall_mem.mp hF) _ (Array.getElem_mem ha)) i (List.mem_range.mpr hi)
    simpa [Array.getElem?_eq_getElem hi] using q
  obtain ⟨i0, ei0⟩ := is_v k0
  obtain rfl : w0 = (.int i0) := Option.some.inj ei0
  obtain ⟨i1, ei1⟩ := is_v k1
  obtain rfl : w1 = (.int i1) := Option.some.inj ei1
  obtain ⟨i2, ei2⟩ := is_v r2
  obtain rfl : w2 = (.int i2) := Option.some.inj ei2
  obtain ⟨n, o, h1, h2, h3, _, L, rfl, ⟨rfl, N⟩, hq⟩ := rm_Q0 l s _ hw tables_1 i0 i1 i2 s.heap s.heap.size (Nat.le_refl _) p e ha hc hk s m _ below hf ((Spec.applies_iff_loose hf).mp happ).1 ⟨rfl, State.Warmed39.refl s, rfl⟩ trivial
  refine ⟨n, _, h1, h2, h3, hpost _ _ _ _ _ _ ⟨Cond.after_iff.mpr rfl, Cond.after_iff.mpr (eq_i res_at (Term.int_eval (1)) rfl), trivial⟩ ⟨hq.1, hq.2.1, (hq.2.2.sift fun y hy => Or.inr (N y hy)).mono (by decide) (by decide)⟩⟩
theorem main_1_1 : Claimed_1_1 := comes_1 fun _ _ _ _ _ _ h hF => ⟨h.1, hF⟩
theorem main_1_2 : Claimed_1_2 := comes_1 fun _ _ _ _ _ _ h hF => ⟨h.2.1, hF⟩
end Jvm.Pilot.@@N@@
namespace Jvm.Pilot.@@N@@
open Jvm Jvm.ClassFile Sem Op Lib Jvm.Free Jvm.Stand Jvm.Pilot.@@N@@.Jvm.D
/-! MADE BY PROGRAM (witnessworld.py) out of the Statement's table words and the real class files: 10 classes; the members and pool entries that the words name. The judged class is class 1, her method 1. -/
namespace start1
open Jvm.ClassFile
def u (s : String) : CpInfo := .utf8 (stringToUtf16 s)
/-- a pool by its gaps: so many unusable entries, then the entry; so many at the end -/
def gap : Nat → List CpInfo → List CpInfo
  | 0, r => r
  | n + 1, r => .unusable :: gap n r
def poolList (es : List (Nat × CpInfo)) (last : Nat) : List CpInfo := es.foldr (fun e r => gap e.1 (e.2 :: r)) (gap last [])
def pool (es : List (Nat × CpInfo)) (last : Nat) : Array CpInfo := ⟨poolList es last⟩
def fileOf (pool : Array CpInfo) (this : Nat) (attrs : Array Attribute := #[]) (ms : Array MethodInfo := #[]) (fl : Nat := 33) (sup : Nat := 0) (ifs : Array Nat := #[]) (fds : Array FieldInfo := #[]) : ClassFile where
  minorVersion := 0
  majorVersion := 65
  constantPool := pool
  accessFlags := fl
  thisClass := this
  superClass := sup
  interfaces := ifs
  fields := fds
  methods := ms
  attributes := attrs
def plain (name : String) (sup : Option ClassId) : Class where
  name := name
  kind := .ordinary
  loader := none
  accessFlags := 33
  super := sup
  interfaces := #[]
  cf := none
  fields := #[]
  methods := #[]
  instanceTypes := #[]
  staticTypes := #[]
  resolved := #[]
  callSites := []
  init := .initialized
  statics := none
  mirror := none

def pool0 : Array CpInfo := pool [(5, u "<init>"), (0, u "()V"), (1, .class_ 10), (1, u "java/lang/Object")] 113

def k0m0 : Method := { name := "<init>", desc := "()V", sig := { parameters := [], returnType := none }, accessFlags := 1, code := none }
/-- java/lang/Object -/
def k0 : Class := { plain "java/lang/Object" none with
  accessFlags := 33
  interfaces := #[]
  cf := some (fileOf pool0 8 #[] #[{ accessFlags := 1, nameIndex := 5, descriptorIndex := 6, attributes := #[] }] 33 0 #[] #[])
  fields := #[]
  methods := #[k0m0]
  instanceTypes := #[]
  staticTypes := #[]
  resolved := Array.replicate 124 none
  statics := none }

def pool1 : Array CpInfo := pool [(2, .class_ 4), (1, u "java/lang/Object"), (0, u "<init>"), (0, u "()V"), (0, .methodref 8 9), (0, .class_ 10), (0, .nameAndType 11 12), (0, u "com/example/zenodotus/zenodotus/eval/JudgedRanking"), (0, u "ratio"), (0, u "(DD)D"), (0, .integer 2147483647), (0, .methodref 15 16), (0, .class_ 17), (0, .nameAndType 18 19), (0, u "java/lang/Math"), (0, u "abs"), (0, u "(I)I"), (0, .class_ 21), (0, u "com/example/zenodotus/zenodotus/eval/JudgedRankingRatioPinLaw"), (2, u "law"), (0, u "(III)Z")] 3

def k1m0 : Method := { name := "<init>", desc := "()V", sig := { parameters := [], returnType := none }, accessFlags := 1, code := none }
def k1c1 : Code := { maxStack := 4, maxLocals := 12, code := code, exceptionTable := #[], attributes := #[] }
def k1m1 : Method := { name := "law", desc := "(III)Z", sig := { parameters := [.int, .int, .int], returnType := some .boolean }, accessFlags := 9, code := some k1c1 }
/-- com/example/zenodotus/zenodotus/eval/JudgedRankingRatioPinLaw -/
def k1 : Class := { plain "com/example/zenodotus/zenodotus/eval/JudgedRankingRatioPinLaw" (some 0) with
  accessFlags := 49
  interfaces := #[]
  cf := some (fileOf pool1 20 #[] #[{ accessFlags := 1, nameIndex := 5, descriptorIndex := 6, attributes := #[] }, { accessFlags := 9, nameIndex := 24, descriptorIndex := 25, attributes := #[] }] 49 2 #[] #[])
  fields := #[]
  methods := #[k1m0, k1m1]
  instanceTypes := #[]
  staticTypes := #[]
  resolved := Array.replicate 29 none
  statics := none }

def pool2 : Array CpInfo := pool [(2, .class_ 4), (1, u "java/lang/Object"), (3, .class_ 10), (1, u "com/example/zenodotus/zenodotus/eval/JudgedRanking"), (0, u "relevance"), (0, u "[I"), (2, u "idealRelevance"), (7, u "ORDER"), (0, u "Ljava/util/Comparator;"), (80, u "ratio"), (0, u "(DD)D")] 110

def k2c0 : Code := { maxStack := 4, maxLocals := 4, code := prog_18_method_9_code, exceptionTable := #[], attributes := #[] }
def k2m0 : Method := { name := "ratio", desc := "(DD)D", sig := { parameters := [.double, .double], returnType := some .double }, accessFlags := 8, code := some k2c0 }
/-- com/example/zenodotus/zenodotus/eval/JudgedRanking -/
def k2 : Class := { plain "com/example/zenodotus/zenodotus/eval/JudgedRanking" (some 0) with
  accessFlags := 48
  interfaces := #[]
  cf := some (fileOf pool2 8 #[] #[{ accessFlags := 8, nameIndex := 105, descriptorIndex := 106, attributes := #[] }] 48 2 #[] #[{ accessFlags := 26, nameIndex := 23, descriptorIndex := 24, attributes := #[] }, { accessFlags := 18, nameIndex := 11, descriptorIndex := 12, attributes := #[] }, { accessFlags := 18, nameIndex := 15, descriptorIndex := 12, attributes := #[] }])
  fields := #[{ name := "ORDER", type := (.object "java/util/Comparator"), accessFlags := 26, slot := 0, constantValue := 0 }, { name := "relevance", type := (.array .int), accessFlags := 18, slot := 0, constantValue := 0 }, { name := "idealRelevance", type := (.array .int), accessFlags := 18, slot := 1, constantValue := 0 }]
  methods := #[k2m0]
  instanceTypes := #[(.array .int), (.array .int)]
  staticTypes := #[(.object "java/util/Comparator")]
  resolved := Array.replicate 217 none
  statics := none }

def pool3 : Array CpInfo := pool [(1, .class_ 2), (0, u "java/lang/Math"), (1, .class_ 6), (1, u "java/lang/Object"), (0, u "<init>"), (0, u "()V"), (89, .class_ 100), (1, u "java/lang/Math$RandomNumberGeneratorHolder"), (23, u "abs"), (34, u "(I)I"), (12, u "negativeZeroFloatBits"), (0, u "J"), (2, u "negativeZeroDoubleBits"), (68, u "$assertionsDisabled"), (0, u "Z"), (91, u "twoToTheDoubleScaleDown"), (0, u "D"), (4, u "twoToTheDoubleScaleUp"), (9, u "E"), (3, u "PI"), (2, u "TAU"), (2, u "DEGREES_TO_RADIANS"), (0, u "RADIANS_TO_DEGREES")] 94

def k3m0 : Method := { name := "<init>", desc := "()V", sig := { parameters := [], returnType := none }, accessFlags := 2, code := none }
def k3c1 : Code := { maxStack := 1, maxLocals := 1, code := jdk_29_method_59_code, exceptionTable := #[], attributes := #[] }
def k3m1 : Method := { name := "abs", desc := "(I)I", sig := { parameters := [.int], returnType := some .int }, accessFlags := 9, code := some k3c1 }
/-- java/lang/Math -/
def k3 : Class := { plain "java/lang/Math" (some 0) with
  accessFlags := 49
  interfaces := #[]
  cf := some (fileOf pool3 1 #[.nestMembers #[98]] #[{ accessFlags := 2, nameIndex := 7, descriptorIndex := 8, attributes := #[] }, { accessFlags := 9, nameIndex := 124, descriptorIndex := 159, attributes := #[] }] 49 4 #[] #[{ accessFlags := 25, nameIndex := 354, descriptorIndex := 339, attributes := #[] }, { accessFlags := 25, nameIndex := 358, descriptorIndex := 339, attributes := #[] }, { accessFlags := 25, nameIndex := 361, descriptorIndex := 339, attributes := #[] }, { accessFlags := 26, nameIndex := 364, descriptorIndex := 339, attributes := #[] }, { accessFlags := 26, nameIndex := 365, descriptorIndex := 339, attributes := #[] }, { accessFlags := 26, nameIndex := 172, descriptorIndex := 173, attributes := #[] }, { accessFlags := 26, nameIndex := 176, descriptorIndex := 173, attributes := #[] }, { accessFlags := 8, nameIndex := 344, descriptorIndex := 339, attributes := #[] }, { accessFlags := 8, nameIndex := 338, descriptorIndex := 339, attributes := #[] }, { accessFlags := 4120, nameIndex := 245, descriptorIndex := 246, attributes := #[] }])
  fields := #[{ name := "E", type := .double, accessFlags := 25, slot := 0, constantValue := 0 }, { name := "PI", type := .double, accessFlags := 25, slot := 1, constantValue := 0 }, { name := "TAU", type := .double, accessFlags := 25, slot := 2, constantValue := 0 }, { name := "DEGREES_TO_RADIANS", type := .double, accessFlags := 26, slot := 3, constantValue := 0 }, { name := "RADIANS_TO_DEGREES", type := .double, accessFlags := 26, slot := 4, constantValue := 0 }, { name := "negativeZeroFloatBits", type := .long, accessFlags := 26, slot := 5, constantValue := 0 }, { name := "negativeZeroDoubleBits", type := .long, accessFlags := 26, slot := 6, constantValue := 0 }, { name := "twoToTheDoubleScaleUp", type := .double, accessFlags := 8, slot := 7, constantValue := 0 }, { name := "twoToTheDoubleScaleDown", type := .double, accessFlags := 8, slot := 8, constantValue := 0 }, { name := "$assertionsDisabled", type := .boolean, accessFlags := 4120, slot := 9, constantValue := 0 }]
  methods := #[k3m0, k3m1]
  instanceTypes := #[]
  staticTypes := #[.double, .double, .double, .double, .double, .long, .long, .double, .double, .boolean]
  resolved := Array.replicate 460 none
  statics := none }

def pool4 : Array CpInfo := pool [(1, u "java/lang/Cloneable"), (0, .class_ 1), (0, u "java/lang/Object"), (0, .class_ 3)] 3

/-- java/lang/Cloneable -/
def k4 : Class := { plain "java/lang/Cloneable" (some 0) with
  accessFlags := 1537
  interfaces := #[]
  cf := some (fileOf pool4 2 #[] #[] 1537 4 #[] #[])
  fields := #[]
  methods := #[]
  instanceTypes := #[]
  staticTypes := #[]
  resolved := Array.replicate 8 none
  statics := none }

def pool5 : Array CpInfo := pool [(1, u "java/io/Serializable"), (0, .class_ 1), (0, u "java/lang/Object"), (0, .class_ 3)] 3

/-- java/io/Serializable -/
def k5 : Class := { plain "java/io/Serializable" (some 0) with
  accessFlags := 1537
  interfaces := #[]
  cf := some (fileOf pool5 2 #[] #[] 1537 4 #[] #[])
  fields := #[]
  methods := #[]
  instanceTypes := #[]
  staticTypes := #[]
  resolved := Array.replicate 8 none
  statics := none }

/-- the primitive byte -/
def k6 : Class := { plain "byte" none with kind := .primitive 'B', accessFlags := 0x411 }
/-- [B -/
def k7 : Class := { plain "[B" (some 0) with kind := .array 6 .byte, interfaces := #[4, 5], accessFlags := 1041 }

/-- the primitive int -/
def k8 : Class := { plain "int" none with kind := .primitive 'I', accessFlags := 0x411 }
/-- [I -/
def k9 : Class := { plain "[I" (some 0) with kind := .array 8 .int, interfaces := #[4, 5], accessFlags := 1041 }

def heap : Heap := #[]
def classes : Array Class := #[k0, k1, k2, k3, k4, k5, k6, k7, k8, k9]
def interned : List (Array UInt16 × Addr) := []
def slotsUsed : Nat := 0
def theMethod : MethodId := ⟨1, 1⟩
def args0 : Array Value := #[.int 500, .int 700, .int 9]
def aboutOver (below : List Frame) : State where
  vm := { classes := classes, interned := interned.toArray }
  heap := heap
  slotsUsed := slotsUsed
  threads := #[{ frames := .invoking theMethod args0 :: below }]
def below0 : List Frame := [.native { method := ⟨0, 0⟩, args := #[] }]
def about1 : State := aboutOver below0
def p0 : Program := .bare "" "" ""
def e0 : Env := launch0.env 0 0 0
theorem w_frames : about1.frames = Frame.invoking theMethod args0 :: below0 := rfl
set_option maxRecDepth 65536 in
theorem w_args : argsFit about1.vm theMethod args0 = true := by decide +kernel
set_option maxRecDepth 65536 in
theorem w_heap : heapFits about1 = true := by decide +kernel
set_option maxRecDepth 65536 in
theorem w_runnable : about1.curStatus? = some .runnable := by decide +kernel
set_option maxRecDepth 65536 in
theorem w_alone : about1.alone = true := by decide +kernel
set_option maxRecDepth 65536 in
theorem w_named : about1.methodNamed? x = some theMethod := by decide +kernel
set_option maxRecDepth 65536 in
theorem w_hears : about1.hears theMethod below0 = true := by decide +kernel
set_option maxRecDepth 65536 in
theorem w_ripe : about1.ripe theMethod args0 below0 = true := by decide +kernel
theorem w_running : about1.status = .running := rfl
set_option maxRecDepth 65536 in
theorem w_room : about1.hasRoom e0.platform room_1 = true :=
  launch0.hasRoom_least _ room_1 (by decide +kernel) (by decide +kernel) (by decide +kernel) (by decide +kernel) (by decide +kernel) (by decide +kernel)
theorem allAtoms_all (ts : List Jvm.Cond) (a : Array Jvm.Value) (st : Jvm.State) : (allAtoms ts).before a st = ts.all (fun c => c.before a st) := by
  induction ts with
  | nil => rfl
  | cons c t ih =>
    show (Jvm.Cond.and c (allAtoms t)).before a st = _
    rw [Jvm.Cond.before_and, ih, List.all_cons]
def words1 : List Jvm.Cond := Jvm.Cond.code x code maxLocals ret :: tables_1
/-- a 'code' word, met by the world's own term for the bytes: nothing is compared byte by byte -/
theorem code_word {y : MethodName} {bytes : ByteArray} {mx : Nat} {rt : Option FieldType} {a : Array Value} {s : State} {m : MethodId} {meth : Method} {c : Code} (h1 : s.methodNamed? y = some m) (h2 : s.vm.method? m = some meth) (h3 : meth.code = some c) (h4 : c.code = bytes)
    (h5 : (c.maxLocals == mx && c.exceptionTable.isEmpty && decide (c.maxStack ≤ mostOperands) && decide (meth.sig.returnType = rt) && !meth.locks && decide (parseMethodDescriptor y.desc = some meth.sig)) = true) : (Jvm.Cond.code y bytes mx rt).before a s = true := by
  simp only [Bool.and_eq_true, beq_iff_eq, Bool.not_eq_true', decide_eq_true_eq] at h5
  obtain ⟨⟨⟨⟨⟨g1, g2⟩, g3⟩, g4⟩, g5⟩, g6⟩ := h5
  simp [Cond.before, Cond.holds, Cond.value, h1, h2, h3, h4, g1, g2, g3, g4, g5, g6]
def isCode : Jvm.Cond → Bool
  | .code _ _ _ _ => true
  | _ => false
theorem all_split {L : List Jvm.Cond} {P : Jvm.Cond → Bool} (h1 : L.all (fun c => isCode c || P c) = true) (h2 : ∀ c ∈ L.filter isCode, P c = true) : L.all P = true := by
  refine List.all_eq_true.mpr fun c hc => ?_
  have h := List.all_eq_true.mp h1 c hc
  rcases Bool.eq_false_or_eq_true (isCode c) with hi | hi
  · exact h2 c (List.mem_filter.mpr ⟨hc, hi⟩)
  · simpa [hi] using h
set_option maxRecDepth 65536 in
theorem w_c0 : (Jvm.Cond.code x code maxLocals ret).before args0 about1 = true := code_word (m := ⟨1, 1⟩) (meth := k1m1) (c := k1c1) (by decide +kernel) rfl rfl rfl (by decide +kernel)
set_option maxRecDepth 65536 in
theorem w_c1 : (Jvm.Cond.code ({ cls := "com/example/zenodotus/zenodotus/eval/JudgedRanking", name := "ratio", desc := "(DD)D" } : Jvm.MethodName) prog_18_method_9_code (4 : Nat) (Option.some Jvm.ClassFile.FieldType.double)).before args0 about1 = true := code_word (m := ⟨2, 0⟩) (meth := k2m0) (c := k2c0) (by decide +kernel) rfl rfl rfl (by decide +kernel)
set_option maxRecDepth 65536 in
theorem w_c2 : (Jvm.Cond.code ({ cls := "java/lang/Math", name := "abs", desc := "(I)I" } : Jvm.MethodName) jdk_29_method_59_code (1 : Nat) (Option.some Jvm.ClassFile.FieldType.int)).before args0 about1 = true := code_word (m := ⟨3, 1⟩) (meth := k3m1) (c := k3c1) (by decide +kernel) rfl rfl rfl (by decide +kernel)
def codes1 : List Jvm.Cond := [Jvm.Cond.code x code maxLocals ret, Jvm.Cond.code ({ cls := "com/example/zenodotus/zenodotus/eval/JudgedRanking", name := "ratio", desc := "(DD)D" } : Jvm.MethodName) prog_18_method_9_code (4 : Nat) (Option.some Jvm.ClassFile.FieldType.double), Jvm.Cond.code ({ cls := "java/lang/Math", name := "abs", desc := "(I)I" } : Jvm.MethodName) jdk_29_method_59_code (1 : Nat) (Option.some Jvm.ClassFile.FieldType.int)]
set_option maxRecDepth 65536 in
theorem codes_eq : words1.filter isCode = codes1 := rfl
theorem w_codes : ∀ c ∈ words1.filter isCode, c.before args0 about1 = true := by
  rw [codes_eq]
  intro c hc
  simp only [codes1, List.mem_cons, List.not_mem_nil, or_false] at hc
  rcases hc with rfl | rfl | rfl
  · exact w_c0
  · exact w_c1
  · exact w_c2
set_option maxRecDepth 65536 in
theorem w_t1 : words1.all (fun c => isCode c || c.before args0 about1) = true := by decide +kernel
theorem w_tables : (allAtoms (Jvm.Cond.code x code maxLocals ret :: tables_1)).before args0 about1 = true := by
  rw [allAtoms_all]
  show words1.all (fun c => c.before args0 about1) = true
  refine all_split ?_ w_codes
  rw [w_t1]
set_option maxRecDepth 65536 in
theorem w_case : (Jvm.Cond.and given_1 narrow_1).before args0 about1 = true := by decide +kernel
theorem w_applies : (headSpec (Jvm.Cond.code x code maxLocals ret :: tables_1) room_1).applies x e0.platform about1 = true :=
  (Spec.applies_iff w_frames).mpr ⟨w_running, w_runnable, w_alone, w_named, w_hears, w_ripe, w_room, w_tables⟩
theorem atStart : AtStart classFile x code maxLocals ret World_1 tables_1 room_1 Calls_1 rest_1 Pre_1 launch0 p0 e0 about1 theMethod args0 below0 :=
  ⟨lists_1, trivial, launch0.admits_env _ _ _, launch0.least_env, fairChoices_fair.cas, fairChoices_fair.clock, w_frames, w_args, w_heap, w_applies, trivial, trivial, w_case⟩
end start1
theorem witness_1 : WitnessClaimed_1 := ⟨start1.p0, start1.e0, start1.about1, start1.theMethod, start1.args0, start1.below0, start1.atStart⟩
end Jvm.Pilot.@@N@@
