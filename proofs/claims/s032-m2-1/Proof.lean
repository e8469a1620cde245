import JvmDerived
import JvmDerived.Pilot.@@N@@Statement
import JvmDerived.Pilot.@@N@@Code
set_option linter.unusedVariables false
set_option linter.unusedSimpArgs false
namespace Jvm.Pilot.@@N@@
open Jvm Jvm.ClassFile Sem Op Lib Jvm.Free Jvm.Stand Jvm.LawKit Jvm.RoadKit Bundle Jvm.Pilot.@@N@@.Jvm.D
/-! own laws: the run from a state to the return, in continuation form -/
section OwnG
variable {p : Program} {l : Launch} {e : Env} {R : Room} {s : State} {m : MethodId} {args : Array Value} {below : List Frame} {meth : Method} {c : Code} {T : State} {locs : List Loc} {cells slots : Nat} {Z : State} {a0 : Array Value} {h : Heap} {Q : Option Value → Heap → List Loc → Prop} {ck sk : Nat}
def own_G (p : Program) (e : Env) (below : List Frame) (s : State) (Q : Option Value → Heap → List Loc → Prop) (ck sk : Nat) (U : State) : Prop :=
  ∃ s₂ o, Steps p.tables e below U s₂ ∧ s₂.status = .running ∧ Ended s₂ below o ∧ ∃ v L, o = .returned v ∧ Q v s₂.heap L ∧ FrameEnd s o s₂ L ck sk
theorem own_via {U U' : State} (k : ∀ t, Steps p.tables e below U' t → Steps p.tables e below U t) (g : own_G p e below s Q ck sk U') : own_G p e below s Q ck sk U := by
  obtain ⟨s2, o, h1, r⟩ := g
  exact ⟨s2, o, k _ h1, r⟩
theorem own_mono {Q' : Option Value → Heap → List Loc → Prop} {U : State} (k : ∀ v h L, Q v h L → Q' v h L) (g : own_G p e below s Q ck sk U) : own_G p e below s Q' ck sk U := by
  obtain ⟨s2, o, h1, h2, h3, v, L, h4, h5, h6⟩ := g
  exact ⟨s2, o, h1, h2, h3, v, L, h4, k _ _ _ h5, h6⟩
theorem own_ret (X : Stand p l e R s m args below meth c T locs cells slots) {v : Option Value} (hv : meth.sig.returnType = none → v = none) (hlk : meth.locks = false) {f : JFrame}
    (st : ∀ fs, (∀ (f : JFrame) (acts : List Action), f.method = m → f.locked = none → f.entered = [] → (doReturn e (T.setTop f) acts v).1 = T.setFrames fs) → Steps p.tables e below (T.setTop f) (T.setFrames fs))
    (hQ : Q v T.heap locs) (hc : cells ≤ ck) (hs : slots ≤ sk) : own_G p e below s Q ck sk (T.setTop f) := by
  obtain ⟨fs, hr, hrun, hended, hW, hsame⟩ := X.leave (v := v) hv hlk
  exact ⟨_, _, st fs hr, hrun, hended, _, _, rfl, hQ, ⟨_, rfl⟩, hW, hsame.mono hc hs⟩
theorem own_callS (X : Stand p l e R s m args below meth c T locs cells slots) (hx : p.tables.exec = Jvm.exec) (hZ : Z.Warmed39 s.vm) {own : String} {index : Nat} {y : MethodName} {bytes : ByteArray} {maxL : Nat} {ret : Option FieldType} {rm : Room} {as' : Array Value} {W : Nat}
    (hown : s.vm.findClass own = some m.cls) (w1 : (Jvm.Cond.methodLink own index y).before a0 Z = true) (w2 : (Jvm.Cond.static y).before a0 Z = true) (w3 : (Jvm.Cond.initialized y.cls).before a0 Z = true) (w4 : (Jvm.Cond.code y bytes maxL ret).before a0 Z = true)
    (hy : y.cls ≠ "java/lang/invoke/MethodHandle" ∧ y.cls ≠ "java/lang/invoke/VarHandle")
    (hM : MetFree l y (head1 [Jvm.Cond.code y bytes maxL ret] rm) (fun a U => a = as' ∧ Z.Warmed39 U.vm ∧ U.heap = h) (fun _ _ _ _ _ => True) (fun _ U o U' => ∃ v L, o = .returned v ∧ Q v U'.heap L ∧ FrameEnd U o U' L rm.cells rm.slots))
    (hf : rm.frames + 1 ≤ R.frames) (hl : W + (maxL + 11) + rm.locals ≤ R.locals) (eT : T.heap = h)
    {g : JFrame} (hg : g.method = m) (hsize : g.locals.size = c.maxLocals) {argsL rest : List Value} (has : argsL.toArray = as') (hlen : ∀ sig, parseMethodDescriptor y.desc = some sig → argsL.length = sig.parameters.length)
    (hstack : g.stack = argsL.reverse ++ rest) (hW : 2 * g.monitorRoom + (rest.map fun v => v.category).sum ≤ W) (hdg : decode c.code g.pc = .ok (.invokestatic index, 3))
    (hcells : cells + rm.cells ≤ R.cells) (hslots : slots + rm.slots ≤ R.slots) :
    ∃ v T' L', Stand p l e R s m args below meth c T' (locs ++ L') (cells + rm.cells) (slots + rm.slots) ∧ Q v T'.heap L' ∧ ∀ t, Steps p.tables e below (T'.setTop { g with pc := g.pc + 3, stack := v.toList ++ rest }) t → Steps p.tables e below (T.setTop g) t := by
  obtain ⟨v, vm1, ⟨T', L', k', n'⟩, -, X', ⟨Lc, hQ, q1, q2, q3⟩, st⟩ := Jvm.LawKit.callS X hx hown (mvT hZ w1) (mvT hZ w2) (mvT hZ w3) (mvT hZ w4) hy (backOf (W := W) hM hZ w4 w3 hf hl) hg hsize hlen hstack hW hdg (fun _ _ => ⟨has, eT, hcells, hslots⟩)
  dsimp only [Pt.U, Pt.locs, Pt.cells, Pt.slots] at X' q1 q2 q3 st hQ
  subst q1 q2 q3
  exact ⟨v, T', Lc, X', hQ, st⟩
theorem own_callI (X : Stand p l e R s m args below meth c T locs cells slots) (hx : p.tables.exec = Jvm.exec) (hZ : Z.Warmed39 s.vm) {own : String} {index : Nat} {y : MethodName} (hy1 : y.name = "<init>") {bytes : ByteArray} {maxL : Nat} {rm : Room} {as' : Array Value} {W : Nat}
    (hown : s.vm.findClass own = some m.cls) (w1 : (Jvm.Cond.methodLink own index y).before a0 Z = true) (w2 : (Jvm.Cond.instanceMethod y).before a0 Z = true) (w3 : (Jvm.Cond.initialized y.cls).before a0 Z = true) (w4 : (Jvm.Cond.code y bytes maxL none).before a0 Z = true)
    (hy : y.cls ≠ "java/lang/invoke/MethodHandle" ∧ y.cls ≠ "java/lang/invoke/VarHandle")
    (hM : MetFree l y (head1 [Jvm.Cond.code y bytes maxL none] rm) (fun a U => a = as' ∧ Z.Warmed39 U.vm ∧ U.heap = h) (fun _ _ _ _ _ => True) (fun _ U o U' => ∃ v L, o = .returned v ∧ Q v U'.heap L ∧ FrameEnd U o U' L rm.cells rm.slots))
    (hf : rm.frames + 1 ≤ R.frames) (hl : W + (maxL + 11) + rm.locals ≤ R.locals) (eT : T.heap = h)
    {g : JFrame} (hg : g.method = m) (hsize : g.locals.size = c.maxLocals) {a : Addr} {argsL rest : List Value} (has : (.ref a :: argsL).toArray = as') (hlen : ∀ sig, parseMethodDescriptor y.desc = some sig → argsL.length = sig.parameters.length)
    (hstack : g.stack = argsL.reverse ++ .ref a :: rest) (hW : 2 * g.monitorRoom + (rest.map fun v => v.category).sum ≤ W) (hdg : decode c.code g.pc = .ok (.invokespecial index, 3))
    (hcells : cells + rm.cells ≤ R.cells) (hslots : slots + rm.slots ≤ R.slots) :
    ∃ v T' L', Stand p l e R s m args below meth c T' (locs ++ L') (cells + rm.cells) (slots + rm.slots) ∧ Q v T'.heap L' ∧ ∀ t, Steps p.tables e below (T'.setTop { g with pc := g.pc + 3, stack := v.toList ++ rest }) t → Steps p.tables e below (T.setTop g) t := by
  obtain ⟨v, vm1, ⟨T', L', k', n'⟩, -, X', ⟨Lc, hQ, q1, q2, q3⟩, st⟩ := X.specialBack hx hy1 hown (mvT hZ w1) (mvT hZ w2) (mvT hZ w4) hy (backOf (W := W) hM hZ w4 w3 hf hl) hg hsize (Steps.refl _) hlen hstack hW hdg (fun _ _ => ⟨has, eT, hcells, hslots⟩)
  dsimp only [Pt.U, Pt.locs, Pt.cells, Pt.slots] at X' q1 q2 q3 st hQ
  subst q1 q2 q3
  exact ⟨v, T', Lc, X', hQ, fun t k => st.trans k⟩
theorem own_callV (X : Stand p l e R s m args below meth c T locs cells slots) (hx : p.tables.exec = Jvm.exec) (hZ : Z.Warmed39 s.vm) {own : String} {index : Nat} {y : MethodName} {bytes : ByteArray} {maxL : Nat} {ret : Option FieldType} {rm : Room} {as' : Array Value} {W : Nat} {C : String}
    (hown : s.vm.findClass own = some m.cls) (w1 : (Jvm.Cond.methodLink own index y).before a0 Z = true) (w2 : (Jvm.Cond.declares y).before a0 Z = true) (w5 : (Jvm.Cond.selects C y y).before a0 Z = true) (w6 : (Jvm.Cond.instanceMethod y).before a0 Z = true) (w3 : (Jvm.Cond.initialized y.cls).before a0 Z = true) (w4 : (Jvm.Cond.code y bytes maxL ret).before a0 Z = true)
    (hy : y.cls ≠ "java/lang/invoke/MethodHandle" ∧ y.cls ≠ "java/lang/invoke/VarHandle")
    (hM : MetFree l y (head1 [Jvm.Cond.code y bytes maxL ret] rm) (fun a U => a = as' ∧ Z.Warmed39 U.vm ∧ U.heap = h) (fun _ _ _ _ _ => True) (fun _ U o U' => ∃ v L, o = .returned v ∧ Q v U'.heap L ∧ FrameEnd U o U' L rm.cells rm.slots))
    (hf : rm.frames + 1 ≤ R.frames) (hl : W + (maxL + 11) + rm.locals ≤ R.locals) (eT : T.heap = h) {b : Addr} (E : Exa Z h b C)
    {g : JFrame} (hg : g.method = m) (hsize : g.locals.size = c.maxLocals) {argsL rest : List Value} (has : (.ref b :: argsL).toArray = as') (hlen : ∀ sig, parseMethodDescriptor y.desc = some sig → argsL.length = sig.parameters.length)
    (hstack : g.stack = argsL.reverse ++ .ref b :: rest) (hW : 2 * g.monitorRoom + (rest.map fun v => v.category).sum ≤ W) (hdg : decode c.code g.pc = .ok (.invokevirtual index, 3))
    (hcells : cells + rm.cells ≤ R.cells) (hslots : slots + rm.slots ≤ R.slots) :
    ∃ v T' L', Stand p l e R s m args below meth c T' (locs ++ L') (cells + rm.cells) (slots + rm.slots) ∧ Q v T'.heap L' ∧ ∀ t, Steps p.tables e below (T'.setTop { g with pc := g.pc + 3, stack := v.toList ++ rest }) t → Steps p.tables e below (T.setTop g) t := by
  obtain ⟨cq, kq, qa, qb, qc⟩ := isOf hZ eT E
  obtain ⟨v, vm1, ⟨T', L', k', n'⟩, -, X', ⟨Lc, hQ, q1, q2, q3⟩, st⟩ := X.virtualBack hx hown (mvT hZ w1) (mvT hZ w2) (notFace_of_selects (args := #[]) (mvT hZ w5)) (mvT hZ w5) (mvT hZ w6) hy (backOf (W := W) hM hZ w4 w3 hf hl) qa qc hg hsize (Steps.refl _) hlen hstack hW hdg (fun _ _ => ⟨has, eT, hcells, hslots⟩)
  dsimp only [Pt.U, Pt.locs, Pt.cells, Pt.slots] at X' q1 q2 q3 st hQ
  subst q1 q2 q3
  exact ⟨v, T', Lc, X', hQ, fun t k => st.trans k⟩
end OwnG
theorem own_jlt {x y : Int64} (h : x < y) : ifCond.holds .lt (lcmpW x y) = true ∧ ifCond.holds .ge (lcmpW x y) = false := by
  have q := (lw_lt x y).mpr h
  exact ⟨(if0 _ _).trans (tlt q).1, (if0 _ _).trans (tlt q).2.1⟩
theorem own_jnlt {x y : Int64} (h : ¬ x < y) : ifCond.holds .lt (lcmpW x y) = false ∧ ifCond.holds .ge (lcmpW x y) = true := by
  have q := fun z => h ((lw_lt x y).mp z)
  exact ⟨(if0 _ _).trans (flt q).1, (if0 _ _).trans (flt q).2.1⟩
theorem own_jgt {x y : Int64} (h : y < x) : ifCond.holds .gt (lcmpW x y) = true ∧ ifCond.holds .le (lcmpW x y) = false := by
  have q := (lw_gt x y).mpr h
  exact ⟨(if0 _ _).trans (tlt q).2.2.1, (if0 _ _).trans (tlt q).2.2.2⟩
theorem own_jngt {x y : Int64} (h : ¬ y < x) : ifCond.holds .gt (lcmpW x y) = false ∧ ifCond.holds .le (lcmpW x y) = true := by
  have q := fun z => h ((lw_gt x y).mp z)
  exact ⟨(if0 _ _).trans (flt q).2.2.1, (if0 _ _).trans (flt q).2.2.2⟩
theorem own_jeq {x y : Int64} (h : x = y) : ifCond.holds .eq (lcmpW x y) = true ∧ ifCond.holds .ne (lcmpW x y) = false := by
  have q := (lw_eq x y).mpr h
  exact ⟨(if0 _ _).trans (teq q).1, (if0 _ _).trans (teq q).2⟩
theorem own_jne {x y : Int64} (h : ¬ x = y) : ifCond.holds .eq (lcmpW x y) = false ∧ ifCond.holds .ne (lcmpW x y) = true := by
  have q := fun z => h ((lw_eq x y).mp z)
  exact ⟨(if0 _ _).trans (feq q).1, (if0 _ _).trans (feq q).2⟩
theorem own_sta_keep {Z : State} {h h' : Heap} {C n d : String} {v : Value} {ws : List Addr} (F : Sta Z h C n d v) (K : Keep h h' ws) (q : ∀ x ∈ ws, ∃ cell : Cell, h[x]? = some cell ∧ cell.vm.isStatics = false) : Sta Z h' C n d v := by
  obtain ⟨cf, i, k, f, st, cell, h1, h2, h3, h4, h5, h6, h7⟩ := F
  refine ⟨cf, i, k, f, st, cell, h1, h2, h3, h4, K.2.1 st cell h5 (fun hm => ?_), h6, h7⟩
  obtain ⟨c', e1, e2⟩ := q st hm
  cases h5.symm.trans e1
  rw [e2] at h6; cases h6
theorem own_exa_ns {Z : State} {h : Heap} {a : Addr} {C : String} (E : Exa Z h a C) : ∃ cell : Cell, h[a]? = some cell ∧ cell.vm.isStatics = false := by
  obtain ⟨cell, k, h1, -, -, h4, -⟩ := E
  exact ⟨cell, h1, h4⟩
theorem own_arv_ns {Z : State} {h : Heap} {a : Addr} {k : ClassId} {ty : FieldType} {z : Int32} {vs : List Value} {dv : Value} (F : Arv Z h a k ty z vs dv) : ∃ cell : Cell, h[a]? = some cell ∧ cell.vm.isStatics = false := by
  obtain ⟨c, A, -⟩ := F
  exact ⟨c, A.1, A.plain⟩
theorem own_seg {tb : Tables} {e : Env} {below : List Frame} {U U' t : State} (a : Steps tb e below U' t → Steps tb e below U t) (b : Steps tb e below U' t) : Steps tb e below U t := a b
theorem own_NSroot {Z : State} {a0 : Array Value} {O K : String} {n : Nat} (w : (Jvm.Cond.noSuperclass O).before a0 Z = true) (wk : (Jvm.Cond.instantiable K n).before a0 Z = true) (hn : O ≠ K) : NS Z O K := by
  obtain ⟨c, k, h1, h2, h3, -, -⟩ := Cond.noSuperclass_spec w
  obtain ⟨t, kt, g1, -⟩ := Cond.instantiable_spec wk
  refine ⟨c, t, h1, g1, fun fuel => ?_⟩
  have ne := ids_ne h1 g1 hn
  cases fuel <;> simp [Vm.isSubclassAux, ne, h2, h3]
theorem own_NSno {Z : State} {a0 : Array Value} {C S K : String} {n : Nat} (w : (Jvm.Cond.superclass C S).before a0 Z = true) (wk : (Jvm.Cond.instantiable K n).before a0 Z = true) (nn : NS Z C K) (hn : C ≠ K) : ∃ c t, Z.vm.findClass C = some c ∧ Z.vm.findClass K = some t ∧ Z.vm.assignable c t = false := by
  obtain ⟨c, t, h0, g0, n3⟩ := nn
  obtain ⟨p, k, kp, h1, h2, h3, h4, h5, -, h7⟩ := Cond.superclass_spec h0 w
  obtain ⟨t', kt, g1, g2, g3, g4, -⟩ := Cond.instantiable_spec wk
  cases g0.symm.trans g1
  have g7 : kt.isInterface = false := by cases q : kt.isInterface <;> simp [q] at g4 ⊢
  have ne := ids_ne h0 g0 hn
  refine ⟨c, t, h0, g0, ?_⟩
  show Z.vm.assignableAux (255 + 1) c t = false
  simp [Vm.assignableAux, ne, h2, g2, h5, g3, g7, Vm.isSubclass, n3]
theorem own_vs (x : Int32) (h : ¬ (if x < (0 : Int32) then (0 : Int32) else (if (104857600 : Int32) < x then (0 : Int32) else (1 : Int32))) = (0 : Int32)) : ¬ x < (0 : Int32) ∧ ¬ (104857600 : Int32) < x := by
  refine ⟨fun q => h (if_pos q), fun q => h ?_⟩
  split
  · rfl
  · rfl
theorem own_cv (lo hi b : Int32) (h1 : ¬ b < lo) (h2 : ¬ hi < b) (h3 : ¬ (if lo < (0 : Int32) then (0 : Int32) else (if (104857600 : Int32) < lo then (0 : Int32) else (1 : Int32))) = (0 : Int32)) (h4 : ¬ (if hi < (0 : Int32) then (0 : Int32) else (if (104857600 : Int32) < hi then (0 : Int32) else (1 : Int32))) = (0 : Int32)) : ¬ (if b < (0 : Int32) then (0 : Int32) else (if (104857600 : Int32) < b then (0 : Int32) else (1 : Int32))) = (0 : Int32) := by
  have q1 := own_vs lo h3
  have q2 := own_vs hi h4
  have q3 : ¬ b < (0 : Int32) := by simp only [Int32.lt_iff_toInt_lt] at *; omega
  have q4 : ¬ (104857600 : Int32) < b := by simp only [Int32.lt_iff_toInt_lt] at *; omega
  rw [if_neg q3, if_neg q4]; decide
def Qmax (Z : State) (x1 x2 : Int32) (h0 : Heap) (n0 : Nat) (v : Option Value) (h : Heap) (L : List Loc) : Prop := v = some (.int (if x1 < x2 then x2 else x1)) ∧ Fr n0 L ∧ h = h0
theorem d_jdk_29_method_65_0 : decode jdk_29_method_65_code 0 = .ok (.iload_n 0, 1) := by decide +kernel
theorem d_jdk_29_method_65_1 : decode jdk_29_method_65_code 1 = .ok (.iload_n 1, 1) := by decide +kernel
theorem d_jdk_29_method_65_2 : decode jdk_29_method_65_code 2 = .ok (.if_icmp .lt 7, 3) := by decide +kernel
theorem d_jdk_29_method_65_9 : decode jdk_29_method_65_code 9 = .ok (.iload_n 1, 1) := by decide +kernel
theorem d_jdk_29_method_65_10 : decode jdk_29_method_65_code 10 = .ok (.ireturn, 1) := by decide +kernel
theorem d_jdk_29_method_65_5 : decode jdk_29_method_65_code 5 = .ok (.iload_n 0, 1) := by decide +kernel
theorem d_jdk_29_method_65_6 : decode jdk_29_method_65_code 6 = .ok (.goto 4, 3) := by decide +kernel
theorem ef_rm_Qmax (m : MethodId) (x0 : Int32) (x1 : Int32) : entryFrame m #[(.int x0), (.int x1)] 2 = mkF m 0 #[.val (.int x0), .val (.int x1)] [] := by first | (simp [entryFrame, mkF, argsToLocals, Value.category]; done) | rfl
set_option maxRecDepth 65536 in
set_option maxHeartbeats 40000000 in
theorem rm_Qmax (l : Launch) (Z : State) (a0 : Array Value) (hw : ∀ d ∈ tables_1, d.before a0 Z = true) (ws : List Jvm.Cond) (x1 x2 : Int32) (h0 : Heap) (n0 : Nat) (Z0 : n0 ≤ h0.size) :
    MetFree l (⟨"java/lang/Math", "max", "(II)I"⟩ : MethodName) (head1 (Jvm.Cond.code (⟨"java/lang/Math", "max", "(II)I"⟩ : MethodName) jdk_29_method_65_code 2 (some .int) :: ws) ({ frames := 0, cells := 0, slots := 0, locals := 0 } : Room)) (fun aa_ UU_ => aa_ = #[(.int x1), (.int x2)] ∧ Z.Warmed39 UU_.vm ∧ UU_.heap = h0) (fun _ _ _ _ _ => True) (fun _ UU_ oo_ VV_ => ∃ vv_ LL_, oo_ = .returned vv_ ∧ Qmax Z x1 x2 h0 n0 vv_ VV_.heap LL_ ∧ FrameEnd UU_ oo_ VV_ LL_ ({ frames := 0, cells := 0, slots := 0, locals := 0 } : Room).cells ({ frames := 0, cells := 0, slots := 0, locals := 0 } : Room).slots) := by
  refine MetFree.of_bodySF (Jvm.Free.JP.mathPlain rfl (by decide +kernel)) hisR ?_
  intro p e s m args below meth c s₁ Bd hml0 hP hK
  obtain ⟨rfl, hZ, hh⟩ := hP
  have hx := Bd.exec
  have hby := Bd.bytes
  have hml : c.maxLocals = 2 := hml0
  have hown : s.vm.findClass "java/lang/Math" = some m.cls := findClass_of_methodNamed Bd.named
  have hnm := (name_of_methodNamed Bd.named Bd.method).1
  have hlk : meth.locks = false := Bd.notSynchronized
  have X0 : Stand p l e ({ frames := 0, cells := 0, slots := 0, locals := 0 } : Room) s m #[(.int x1), (.int x2)] below meth c s₁ [] 0 0 := Stand.of_body Bd
  have e0 : s₁.heap = h0 := by rw [← hh, Bd.state]; rfl
  have N0 := Fr.nil n0
  have K0 := Keep.refl h0 []
  show own_G p e below s (Qmax Z x1 x2 h0 n0) _ _ (s₁.setTop (entryFrame m #[(.int x1), (.int x2)] 2))
  rw [ef_rm_Qmax m x1 x2]
  refine own_via (U' := s₁.setTop (mkF m 1 #[.val (.int x1), .val (.int x2)] [(.int x1)])) (fun t k => XS.iloadN X0.here hx rfl (hb hby d_jdk_29_method_65_0) rfl k) ?_
  refine own_via (U' := s₁.setTop (mkF m 2 #[.val (.int x1), .val (.int x2)] [(.int x2), (.int x1)])) (fun t k => XS.iloadN X0.here hx rfl (hb hby d_jdk_29_method_65_1) rfl k) ?_
  by_cases hc1 : x1 < x2
  case pos =>
    refine own_via (U' := s₁.setTop (mkF m 9 #[.val (.int x1), .val (.int x2)] [])) (fun t k => XS.icmpYes X0.here hx rfl (pc0 := 2) (pc' := 9) rfl (hb hby d_jdk_29_method_65_2) rfl (tlt hc1).1 (by decide) (by decide) k) ?_
    refine own_via (U' := s₁.setTop (mkF m 10 #[.val (.int x1), .val (.int x2)] [(.int x2)])) (fun t k => XS.iloadN X0.here hx rfl (hb hby d_jdk_29_method_65_9) rfl k) ?_
    exact own_ret X0 (v := some (.int x2)) (fun h => by rw [Bd.returns] at h; cases h) hlk (fun fs hr => retOut X0 hx (t := .int) Bd.returns rfl (Or.inl ⟨rfl, Or.inl rfl, _, rfl⟩) (hb hby d_jdk_29_method_65_10) hr) (by rw [e0]; exact ⟨by first | rfl | (simp only [if_pos hc1]), N0, rfl⟩) (by decide) (by decide)
  case neg =>
    refine own_via (U' := s₁.setTop (mkF m 5 #[.val (.int x1), .val (.int x2)] [])) (fun t k => XS.icmpNo X0.here hx rfl (hb hby d_jdk_29_method_65_2) rfl (flt hc1).1 k) ?_
    refine own_via (U' := s₁.setTop (mkF m 6 #[.val (.int x1), .val (.int x2)] [(.int x1)])) (fun t k => XS.iloadN X0.here hx rfl (hb hby d_jdk_29_method_65_5) rfl k) ?_
    refine own_via (U' := s₁.setTop (mkF m 10 #[.val (.int x1), .val (.int x2)] [(.int x1)])) (fun t k => XS.goto X0.here hx rfl (pc0 := 6) (pc' := 10) rfl (hb hby d_jdk_29_method_65_6) (by decide) (by decide) k) ?_
    exact own_ret X0 (v := some (.int x1)) (fun h => by rw [Bd.returns] at h; cases h) hlk (fun fs hr => retOut X0 hx (t := .int) Bd.returns rfl (Or.inl ⟨rfl, Or.inl rfl, _, rfl⟩) (hb hby d_jdk_29_method_65_10) hr) (by rw [e0]; exact ⟨by first | rfl | (simp only [if_neg hc1]), N0, rfl⟩) (by decide) (by decide)
def Qmin (Z : State) (x1 x2 : Int32) (h0 : Heap) (n0 : Nat) (v : Option Value) (h : Heap) (L : List Loc) : Prop := v = some (.int (if x2 < x1 then x2 else x1)) ∧ Fr n0 L ∧ h = h0
theorem d_jdk_29_method_69_0 : decode jdk_29_method_69_code 0 = .ok (.iload_n 0, 1) := by decide +kernel
theorem d_jdk_29_method_69_1 : decode jdk_29_method_69_code 1 = .ok (.iload_n 1, 1) := by decide +kernel
theorem d_jdk_29_method_69_2 : decode jdk_29_method_69_code 2 = .ok (.if_icmp .gt 7, 3) := by decide +kernel
theorem d_jdk_29_method_69_9 : decode jdk_29_method_69_code 9 = .ok (.iload_n 1, 1) := by decide +kernel
theorem d_jdk_29_method_69_10 : decode jdk_29_method_69_code 10 = .ok (.ireturn, 1) := by decide +kernel
theorem d_jdk_29_method_69_5 : decode jdk_29_method_69_code 5 = .ok (.iload_n 0, 1) := by decide +kernel
theorem d_jdk_29_method_69_6 : decode jdk_29_method_69_code 6 = .ok (.goto 4, 3) := by decide +kernel
theorem ef_rm_Qmin (m : MethodId) (x0 : Int32) (x1 : Int32) : entryFrame m #[(.int x0), (.int x1)] 2 = mkF m 0 #[.val (.int x0), .val (.int x1)] [] := by first | (simp [entryFrame, mkF, argsToLocals, Value.category]; done) | rfl
set_option maxRecDepth 65536 in
set_option maxHeartbeats 40000000 in
theorem rm_Qmin (l : Launch) (Z : State) (a0 : Array Value) (hw : ∀ d ∈ tables_1, d.before a0 Z = true) (ws : List Jvm.Cond) (x1 x2 : Int32) (h0 : Heap) (n0 : Nat) (Z0 : n0 ≤ h0.size) :
    MetFree l (⟨"java/lang/Math", "min", "(II)I"⟩ : MethodName) (head1 (Jvm.Cond.code (⟨"java/lang/Math", "min", "(II)I"⟩ : MethodName) jdk_29_method_69_code 2 (some .int) :: ws) ({ frames := 0, cells := 0, slots := 0, locals := 0 } : Room)) (fun aa_ UU_ => aa_ = #[(.int x1), (.int x2)] ∧ Z.Warmed39 UU_.vm ∧ UU_.heap = h0) (fun _ _ _ _ _ => True) (fun _ UU_ oo_ VV_ => ∃ vv_ LL_, oo_ = .returned vv_ ∧ Qmin Z x1 x2 h0 n0 vv_ VV_.heap LL_ ∧ FrameEnd UU_ oo_ VV_ LL_ ({ frames := 0, cells := 0, slots := 0, locals := 0 } : Room).cells ({ frames := 0, cells := 0, slots := 0, locals := 0 } : Room).slots) := by
  refine MetFree.of_bodySF (Jvm.Free.JP.mathPlain rfl (by decide +kernel)) hisR ?_
  intro p e s m args below meth c s₁ Bd hml0 hP hK
  obtain ⟨rfl, hZ, hh⟩ := hP
  have hx := Bd.exec
  have hby := Bd.bytes
  have hml : c.maxLocals = 2 := hml0
  have hown : s.vm.findClass "java/lang/Math" = some m.cls := findClass_of_methodNamed Bd.named
  have hnm := (name_of_methodNamed Bd.named Bd.method).1
  have hlk : meth.locks = false := Bd.notSynchronized
  have X0 : Stand p l e ({ frames := 0, cells := 0, slots := 0, locals := 0 } : Room) s m #[(.int x1), (.int x2)] below meth c s₁ [] 0 0 := Stand.of_body Bd
  have e0 : s₁.heap = h0 := by rw [← hh, Bd.state]; rfl
  have N0 := Fr.nil n0
  have K0 := Keep.refl h0 []
  show own_G p e below s (Qmin Z x1 x2 h0 n0) _ _ (s₁.setTop (entryFrame m #[(.int x1), (.int x2)] 2))
  rw [ef_rm_Qmin m x1 x2]
  refine own_via (U' := s₁.setTop (mkF m 1 #[.val (.int x1), .val (.int x2)] [(.int x1)])) (fun t k => XS.iloadN X0.here hx rfl (hb hby d_jdk_29_method_69_0) rfl k) ?_
  refine own_via (U' := s₁.setTop (mkF m 2 #[.val (.int x1), .val (.int x2)] [(.int x2), (.int x1)])) (fun t k => XS.iloadN X0.here hx rfl (hb hby d_jdk_29_method_69_1) rfl k) ?_
  by_cases hc1 : x2 < x1
  case pos =>
    refine own_via (U' := s₁.setTop (mkF m 9 #[.val (.int x1), .val (.int x2)] [])) (fun t k => XS.icmpYes X0.here hx rfl (pc0 := 2) (pc' := 9) rfl (hb hby d_jdk_29_method_69_2) rfl (tlt hc1).2.2.1 (by decide) (by decide) k) ?_
    refine own_via (U' := s₁.setTop (mkF m 10 #[.val (.int x1), .val (.int x2)] [(.int x2)])) (fun t k => XS.iloadN X0.here hx rfl (hb hby d_jdk_29_method_69_9) rfl k) ?_
    exact own_ret X0 (v := some (.int x2)) (fun h => by rw [Bd.returns] at h; cases h) hlk (fun fs hr => retOut X0 hx (t := .int) Bd.returns rfl (Or.inl ⟨rfl, Or.inl rfl, _, rfl⟩) (hb hby d_jdk_29_method_69_10) hr) (by rw [e0]; exact ⟨by first | rfl | (simp only [if_pos hc1]), N0, rfl⟩) (by decide) (by decide)
  case neg =>
    refine own_via (U' := s₁.setTop (mkF m 5 #[.val (.int x1), .val (.int x2)] [])) (fun t k => XS.icmpNo X0.here hx rfl (hb hby d_jdk_29_method_69_2) rfl (flt hc1).2.2.1 k) ?_
    refine own_via (U' := s₁.setTop (mkF m 6 #[.val (.int x1), .val (.int x2)] [(.int x1)])) (fun t k => XS.iloadN X0.here hx rfl (hb hby d_jdk_29_method_69_5) rfl k) ?_
    refine own_via (U' := s₁.setTop (mkF m 10 #[.val (.int x1), .val (.int x2)] [(.int x1)])) (fun t k => XS.goto X0.here hx rfl (pc0 := 6) (pc' := 10) rfl (hb hby d_jdk_29_method_69_6) (by decide) (by decide) k) ?_
    exact own_ret X0 (v := some (.int x1)) (fun h => by rw [Bd.returns] at h; cases h) hlk (fun fs hr => retOut X0 hx (t := .int) Bd.returns rfl (Or.inl ⟨rfl, Or.inl rfl, _, rfl⟩) (hb hby d_jdk_29_method_69_10) hr) (by rw [e0]; exact ⟨by first | rfl | (simp only [if_neg hc1]), N0, rfl⟩) (by decide) (by decide)
def Qvs (Z : State) (x1 : Int32) (h0 : Heap) (n0 : Nat) (v : Option Value) (h : Heap) (L : List Loc) : Prop := v = some (.int (if x1 < (0 : Int32) then (0 : Int32) else (if (104857600 : Int32) < x1 then (0 : Int32) else (1 : Int32)))) ∧ Fr n0 L ∧ h = h0
theorem d_prog_48_method_2_0 : decode prog_48_method_2_code 0 = .ok (.iload_n 0, 1) := by decide +kernel
theorem d_prog_48_method_2_1 : decode prog_48_method_2_code 1 = .ok (.ifCond .lt 13, 3) := by decide +kernel
theorem d_prog_48_method_2_14 : decode prog_48_method_2_code 14 = .ok (.iconst 0, 1) := by decide +kernel
theorem d_prog_48_method_2_15 : decode prog_48_method_2_code 15 = .ok (.ireturn, 1) := by decide +kernel
theorem d_prog_48_method_2_4 : decode prog_48_method_2_code 4 = .ok (.iload_n 0, 1) := by decide +kernel
theorem d_prog_48_method_2_5 : decode prog_48_method_2_code 5 = .ok (.ldc 9, 2) := by decide +kernel
theorem d_prog_48_method_2_7 : decode prog_48_method_2_code 7 = .ok (.if_icmp .gt 7, 3) := by decide +kernel
theorem d_prog_48_method_2_10 : decode prog_48_method_2_code 10 = .ok (.iconst 1, 1) := by decide +kernel
theorem d_prog_48_method_2_11 : decode prog_48_method_2_code 11 = .ok (.goto 4, 3) := by decide +kernel
theorem ef_rm_Qvs (m : MethodId) (x0 : Int32) : entryFrame m #[(.int x0)] 1 = mkF m 0 #[.val (.int x0)] [] := by first | (simp [entryFrame, mkF, argsToLocals, Value.category]; done) | rfl
theorem pn_com_example_colla_colla_wire_Frame : plainName "com/example/colla/colla/wire/Frame" = true := by first | (simp [plainName, overriddenIn]; done) | decide +kernel
set_option maxRecDepth 65536 in
set_option maxHeartbeats 40000000 in
theorem rm_Qvs (l : Launch) (Z : State) (a0 : Array Value) (hw : ∀ d ∈ tables_1, d.before a0 Z = true) (ws : List Jvm.Cond) (x1 : Int32) (h0 : Heap) (n0 : Nat) (Z0 : n0 ≤ h0.size) :
    MetFree l (⟨"com/example/colla/colla/wire/Frame", "isValidSize", "(I)Z"⟩ : MethodName) (head1 (Jvm.Cond.code (⟨"com/example/colla/colla/wire/Frame", "isValidSize", "(I)Z"⟩ : MethodName) prog_48_method_2_code 1 (some .boolean) :: ws) ({ frames := 0, cells := 0, slots := 0, locals := 0 } : Room)) (fun aa_ UU_ => aa_ = #[(.int x1)] ∧ Z.Warmed39 UU_.vm ∧ UU_.heap = h0) (fun _ _ _ _ _ => True) (fun _ UU_ oo_ VV_ => ∃ vv_ LL_, oo_ = .returned vv_ ∧ Qvs Z x1 h0 n0 vv_ VV_.heap LL_ ∧ FrameEnd UU_ oo_ VV_ LL_ ({ frames := 0, cells := 0, slots := 0, locals := 0 } : Room).cells ({ frames := 0, cells := 0, slots := 0, locals := 0 } : Room).slots) := by
  refine MetFree.of_bodySF (plainFor_of_name pn_com_example_colla_colla_wire_Frame) hisR ?_
  intro p e s m args below meth c s₁ Bd hml0 hP hK
  obtain ⟨rfl, hZ, hh⟩ := hP
  have hx := Bd.exec
  have hby := Bd.bytes
  have hml : c.maxLocals = 1 := hml0
  have hown : s.vm.findClass "com/example/colla/colla/wire/Frame" = some m.cls := findClass_of_methodNamed Bd.named
  have hnm := (name_of_methodNamed Bd.named Bd.method).1
  have hlk : meth.locks = false := Bd.notSynchronized
  have X0 : Stand p l e ({ frames := 0, cells := 0, slots := 0, locals := 0 } : Room) s m #[(.int x1)] below meth c s₁ [] 0 0 := Stand.of_body Bd
  have e0 : s₁.heap = h0 := by rw [← hh, Bd.state]; rfl
  have N0 := Fr.nil n0
  have K0 := Keep.refl h0 []
  show own_G p e below s (Qvs Z x1 h0 n0) _ _ (s₁.setTop (entryFrame m #[(.int x1)] 1))
  rw [ef_rm_Qvs m x1]
  refine own_via (U' := s₁.setTop (mkF m 1 #[.val (.int x1)] [(.int x1)])) (fun t k => XS.iloadN X0.here hx rfl (hb hby d_prog_48_method_2_0) rfl k) ?_
  by_cases hc1 : x1 < (0 : Int32)
  case pos =>
    refine own_via (U' := s₁.setTop (mkF m 14 #[.val (.int x1)] [])) (fun t k => XS.ifYes X0.here hx rfl (pc0 := 1) (pc' := 14) rfl (hb hby d_prog_48_method_2_1) rfl ((if0 _ _).trans (tlt hc1).1) (by decide) (by decide) k) ?_
    refine own_via (U' := s₁.setTop (mkF m 15 #[.val (.int x1)] [(.int (0 : Int32))])) (fun t k => XS.iconst X0.here hx rfl (hb hby d_prog_48_method_2_14) k) ?_
    exact own_ret X0 (v := some (.int (0 : Int32))) (fun h => by rw [Bd.returns] at h; cases h) hlk (fun fs hr => retN X0 hx (t := .boolean) Bd.returns (by simp) (hb hby d_prog_48_method_2_15) hr) (by rw [e0]; exact ⟨by first | rfl | (simp only [if_pos hc1]), N0, rfl⟩) (by decide) (by decide)
  case neg =>
    refine own_via (U' := s₁.setTop (mkF m 4 #[.val (.int x1)] [])) (fun t k => XS.ifNo X0.here hx rfl (hb hby d_prog_48_method_2_1) rfl ((if0 _ _).trans (flt hc1).1) k) ?_
    refine own_via (U' := s₁.setTop (mkF m 5 #[.val (.int x1)] [(.int x1)])) (fun t k => XS.iloadN X0.here hx rfl (hb hby d_prog_48_method_2_4) rfl k) ?_
    refine own_via (U' := s₁.setTop (mkF m 7 #[.val (.int x1)] [(.int (104857600 : Int32)), (.int x1)])) (fun t k => X0.ldcInt hx hown (mvT hZ (hw _ (List.mem_of_getElem? (i := 4) rfl))) (g := (mkF m 5 #[.val (.int x1)] [(.int x1)])) rfl (hb hby d_prog_48_method_2_5) _ k) ?_
    by_cases hc2 : (104857600 : Int32) < x1
    case pos =>
      refine own_via (U' := s₁.setTop (mkF m 14 #[.val (.int x1)] [])) (fun t k => XS.icmpYes X0.here hx rfl (pc0 := 7) (pc' := 14) rfl (hb hby d_prog_48_method_2_7) rfl (tlt hc2).2.2.1 (by decide) (by decide) k) ?_
      refine own_via (U' := s₁.setTop (mkF m 15 #[.val (.int x1)] [(.int (0 : Int32))])) (fun t k => XS.iconst X0.here hx rfl (hb hby d_prog_48_method_2_14) k) ?_
      exact own_ret X0 (v := some (.int (0 : Int32))) (fun h => by rw [Bd.returns] at h; cases h) hlk (fun fs hr => retN X0 hx (t := .boolean) Bd.returns (by simp) (hb hby d_prog_48_method_2_15) hr) (by rw [e0]; exact ⟨by first | rfl | (simp only [if_neg hc1, if_pos hc2]), N0, rfl⟩) (by decide) (by decide)
    case neg =>
      refine own_via (U' := s₁.setTop (mkF m 10 #[.val (.int x1)] [])) (fun t k => XS.icmpNo X0.here hx rfl (hb hby d_prog_48_method_2_7) rfl (flt hc2).2.2.1 k) ?_
      refine own_via (U' := s₁.setTop (mkF m 11 #[.val (.int x1)] [(.int (1 : Int32))])) (fun t k => XS.iconst X0.here hx rfl (hb hby d_prog_48_method_2_10) k) ?_
      refine own_via (U' := s₁.setTop (mkF m 15 #[.val (.int x1)] [(.int (1 : Int32))])) (fun t k => XS.goto X0.here hx rfl (pc0 := 11) (pc' := 15) rfl (hb hby d_prog_48_method_2_11) (by decide) (by decide) k) ?_
      exact own_ret X0 (v := some (.int (1 : Int32))) (fun h => by rw [Bd.returns] at h; cases h) hlk (fun fs hr => retN X0 hx (t := .boolean) Bd.returns (by simp) (hb hby d_prog_48_method_2_15) hr) (by rw [e0]; exact ⟨by first | rfl | (simp only [if_neg hc1, if_neg hc2]), N0, rfl⟩) (by decide) (by decide)
def Q0 (Z : State) (x1 x2 x3 : Int32) (h0 : Heap) (n0 : Nat) (v : Option Value) (h : Heap) (L : List Loc) : Prop := v = some (.int 1) ∧ Fr n0 L
theorem pd_I__Z : parseMethodDescriptor "(I)Z" = some ⟨[.int], some .boolean⟩ := by decide +kernel
theorem pd_II__I : parseMethodDescriptor "(II)I" = some ⟨[.int, .int], some .int⟩ := by decide +kernel
theorem ef_rm_Q0 (m : MethodId) (x0 : Int32) (x1 : Int32) (x2 : Int32) : entryFrame m #[(.int x0), (.int x1), (.int x2)] maxLocals = mkF m 0 #[.val (.int x0), .val (.int x1), .val (.int x2), .unset, .unset, .unset, .unset] [] := by first | (simp [entryFrame, mkF, argsToLocals, Value.category, maxLocals]; done) | rfl
theorem pn_com_example_colla_colla_wire_FrameIsValidSizePinLaw : plainName "com/example/colla/colla/wire/FrameIsValidSizePinLaw" = true := by first | (simp [plainName, overriddenIn]; done) | decide +kernel
set_option maxRecDepth 65536 in
set_option maxHeartbeats 40000000 in
theorem rm_Q0 (l : Launch) (Z : State) (a0 : Array Value) (hw : ∀ d ∈ tables_1, d.before a0 Z = true) (ws : List Jvm.Cond) (x1 x2 x3 : Int32) (h0 : Heap) (n0 : Nat) (Z0 : n0 ≤ h0.size) :
    MetFree l x (head1 (Jvm.Cond.code x code maxLocals ret :: ws) room_1) (fun aa_ UU_ => aa_ = #[(.int x1), (.int x2), (.int x3)] ∧ Z.Warmed39 UU_.vm ∧ UU_.heap = h0) (fun _ _ _ _ _ => True) (fun _ UU_ oo_ VV_ => ∃ vv_ LL_, oo_ = .returned vv_ ∧ Q0 Z x1 x2 x3 h0 n0 vv_ VV_.heap LL_ ∧ FrameEnd UU_ oo_ VV_ LL_ room_1.cells room_1.slots) := by
  refine MetFree.of_bodySF (plainFor_of_name pn_com_example_colla_colla_wire_FrameIsValidSizePinLaw) hisR ?_
  intro p e s m args below meth c s₁ Bd hml0 hP hK
  obtain ⟨rfl, hZ, hh⟩ := hP
  have hx := Bd.exec
  have hby := Bd.bytes
  have hml : c.maxLocals = 7 := hml0
  have hown : s.vm.findClass "com/example/colla/colla/wire/FrameIsValidSizePinLaw" = some m.cls := findClass_of_methodNamed Bd.named
  have hnm := (name_of_methodNamed Bd.named Bd.method).1
  have hlk : meth.locks = false := Bd.notSynchronized
  have X0 : Stand p l e room_1 s m #[(.int x1), (.int x2), (.int x3)] below meth c s₁ [] 0 0 := Stand.of_body Bd
  have e0 : s₁.heap = h0 := by rw [← hh, Bd.state]; rfl
  have N0 := Fr.nil n0
  have K0 := Keep.refl h0 []
  show own_G p e below s (Q0 Z x1 x2 x3 h0 n0) _ _ (s₁.setTop (entryFrame m #[(.int x1), (.int x2), (.int x3)] maxLocals))
  rw [ef_rm_Q0 m x1 x2 x3]
  refine own_via (U' := s₁.setTop (mkF m 1 #[.val (.int x1), .val (.int x2), .val (.int x3), .unset, .unset, .unset, .unset] [(.int (0 : Int32))])) (fun t k => XS.iconst X0.here hx rfl (hb hby at_0) k) ?_
  obtain ⟨_, T1, L1, X1, hQ1, st1⟩ := own_callS X0 hx hZ (y := (⟨"com/example/colla/colla/wire/Frame", "isValidSize", "(I)Z"⟩ : MethodName)) (W := 0) hown (hw _ (List.mem_of_getElem? (i := 0) rfl)) (hw _ (List.mem_of_getElem? (i := 1) rfl)) (hw _ (List.mem_of_getElem? (i := 2) rfl)) (hw _ (List.mem_of_getElem? (i := 3) rfl)) (by decide) (rm_Qvs l Z a0 hw [] (0 : Int32) h0 n0 Z0) (by decide) (by decide) e0 (g := (mkF m 1 #[.val (.int x1), .val (.int x2), .val (.int x3), .unset, .unset, .unset, .unset] [(.int (0 : Int32))])) rfl (by rw [hml]; rfl) (argsL := [(.int (0 : Int32))]) (rest := []) rfl (lenOf pd_I__Z rfl) rfl (by show 2 * 0 + _ ≤ _; exact Nat.le_of_eq rfl) (hb hby at_1) (by decide) (by decide)
  obtain ⟨rfl, N1q, e1⟩ := hQ1
  have N1 := Fr.app N0 N1q
  refine own_via (U' := T1.setTop (mkF m 4 #[.val (.int x1), .val (.int x2), .val (.int x3), .unset, .unset, .unset, .unset] [(.int (if (0 : Int32) < (0 : Int32) then (0 : Int32) else (if (104857600 : Int32) < (0 : Int32) then (0 : Int32) else (1 : Int32))))])) (fun t k => st1 t k) ?_
  refine own_via (U' := T1.setTop (mkF m 7 #[.val (.int x1), .val (.int x2), .val (.int x3), .unset, .unset, .unset, .unset] [])) (fun t k => XS.ifNo X1.here hx rfl (hb hby at_4) rfl ((if0 _ _).trans (feq (by decide)).1) k) ?_
  refine own_via (U' := T1.setTop (mkF m 9 #[.val (.int x1), .val (.int x2), .val (.int x3), .unset, .unset, .unset, .unset] [(.int (104857600 : Int32))])) (fun t k => X1.ldcInt hx hown (mvT hZ (hw _ (List.mem_of_getElem? (i := 5) rfl))) (g := (mkF m 7 #[.val (.int x1), .val (.int x2), .val (.int x3), .unset, .unset, .unset, .unset] [])) rfl (hb hby at_7) _ k) ?_
  obtain ⟨_, T2, L2, X2, hQ2, st2⟩ := own_callS X1 hx hZ (y := (⟨"com/example/colla/colla/wire/Frame", "isValidSize", "(I)Z"⟩ : MethodName)) (W := 0) hown (hw _ (List.mem_of_getElem? (i := 0) rfl)) (hw _ (List.mem_of_getElem? (i := 1) rfl)) (hw _ (List.mem_of_getElem? (i := 2) rfl)) (hw _ (List.mem_of_getElem? (i := 3) rfl)) (by decide) (rm_Qvs l Z a0 hw [] (104857600 : Int32) h0 n0 Z0) (by decide) (by decide) e1 (g := (mkF m 9 #[.val (.int x1), .val (.int x2), .val (.int x3), .unset, .unset, .unset, .unset] [(.int (104857600 : Int32))])) rfl (by rw [hml]; rfl) (argsL := [(.int (104857600 : Int32))]) (rest := []) rfl (lenOf pd_I__Z rfl) rfl (by show 2 * 0 + _ ≤ _; exact Nat.le_of_eq rfl) (hb hby at_9) (by decide) (by decide)
  obtain ⟨rfl, N2q, e2⟩ := hQ2
  have N2 := Fr.app N1 N2q
  refine own_via (U' := T2.setTop (mkF m 12 #[.val (.int x1), .val (.int x2), .val (.int x3), .unset, .unset, .unset, .unset] [(.int (if (104857600 : Int32) < (0 : Int32) then (0 : Int32) else (if (104857600 : Int32) < (104857600 : Int32) then (0 : Int32) else (1 : Int32))))])) (fun t k => st2 t k) ?_
  refine own_via (U' := T2.setTop (mkF m 15 #[.val (.int x1), .val (.int x2), .val (.int x3), .unset, .unset, .unset, .unset] [])) (fun t k => XS.ifNo X2.here hx rfl (hb hby at_12) rfl ((if0 _ _).trans (feq (by decide)).1) k) ?_
  refine own_via (U' := T2.setTop (mkF m 16 #[.val (.int x1), .val (.int x2), .val (.int x3), .unset, .unset, .unset, .unset] [(.int (-1 : Int32))])) (fun t k => XS.iconst X2.here hx rfl (hb hby at_15) k) ?_
  obtain ⟨_, T3, L3, X3, hQ3, st3⟩ := own_callS X2 hx hZ (y := (⟨"com/example/colla/colla/wire/Frame", "isValidSize", "(I)Z"⟩ : MethodName)) (W := 0) hown (hw _ (List.mem_of_getElem? (i := 0) rfl)) (hw _ (List.mem_of_getElem? (i := 1) rfl)) (hw _ (List.mem_of_getElem? (i := 2) rfl)) (hw _ (List.mem_of_getElem? (i := 3) rfl)) (by decide) (rm_Qvs l Z a0 hw [] (-1 : Int32) h0 n0 Z0) (by decide) (by decide) e2 (g := (mkF m 16 #[.val (.int x1), .val (.int x2), .val (.int x3), .unset, .unset, .unset, .unset] [(.int (-1 : Int32))])) rfl (by rw [hml]; rfl) (argsL := [(.int (-1 : Int32))]) (rest := []) rfl (lenOf pd_I__Z rfl) rfl (by show 2 * 0 + _ ≤ _; exact Nat.le_of_eq rfl) (hb hby at_16) (by decide) (by decide)
  obtain ⟨rfl, N3q, e3⟩ := hQ3
  have N3 := Fr.app N2 N3q
  refine own_via (U' := T3.setTop (mkF m 19 #[.val (.int x1), .val (.int x2), .val (.int x3), .unset, .unset, .unset, .unset] [(.int (if (-1 : Int32) < (0 : Int32) then (0 : Int32) else (if (104857600 : Int32) < (-1 : Int32) then (0 : Int32) else (1 : Int32))))])) (fun t k => st3 t k) ?_
  refine own_via (U' := T3.setTop (mkF m 22 #[.val (.int x1), .val (.int x2), .val (.int x3), .unset, .unset, .unset, .unset] [])) (fun t k => XS.ifNo X3.here hx rfl (hb hby at_19) rfl ((if0 _ _).trans (teq (by decide)).2) k) ?_
  refine own_via (U' := T3.setTop (mkF m 24 #[.val (.int x1), .val (.int x2), .val (.int x3), .unset, .unset, .unset, .unset] [(.int (104857601 : Int32))])) (fun t k => X3.ldcInt hx hown (mvT hZ (hw _ (List.mem_of_getElem? (i := 6) rfl))) (g := (mkF m 22 #[.val (.int x1), .val (.int x2), .val (.int x3), .unset, .unset, .unset, .unset] [])) rfl (hb hby at_22) _ k) ?_
  obtain ⟨_, T4, L4, X4, hQ4, st4⟩ := own_callS X3 hx hZ (y := (⟨"com/example/colla/colla/wire/Frame", "isValidSize", "(I)Z"⟩ : MethodName)) (W := 0) hown (hw _ (List.mem_of_getElem? (i := 0) rfl)) (hw _ (List.mem_of_getElem? (i := 1) rfl)) (hw _ (List.mem_of_getElem? (i := 2) rfl)) (hw _ (List.mem_of_getElem? (i := 3) rfl)) (by decide) (rm_Qvs l Z a0 hw [] (104857601 : Int32) h0 n0 Z0) (by decide) (by decide) e3 (g := (mkF m 24 #[.val (.int x1), .val (.int x2), .val (.int x3), .unset, .unset, .unset, .unset] [(.int (104857601 : Int32))])) rfl (by rw [hml]; rfl) (argsL := [(.int (104857601 : Int32))]) (rest := []) rfl (lenOf pd_I__Z rfl) rfl (by show 2 * 0 + _ ≤ _; exact Nat.le_of_eq rfl) (hb hby at_24) (by decide) (by decide)
  obtain ⟨rfl, N4q, e4⟩ := hQ4
  have N4 := Fr.app N3 N4q
  refine own_via (U' := T4.setTop (mkF m 27 #[.val (.int x1), .val (.int x2), .val (.int x3), .unset, .unset, .unset, .unset] [(.int (if (104857601 : Int32) < (0 : Int32) then (0 : Int32) else (if (104857600 : Int32) < (104857601 : Int32) then (0 : Int32) else (1 : Int32))))])) (fun t k => st4 t k) ?_
  refine own_via (U' := T4.setTop (mkF m 30 #[.val (.int x1), .val (.int x2), .val (.int x3), .unset, .unset, .unset, .unset] [])) (fun t k => XS.ifNo X4.here hx rfl (hb hby at_27) rfl ((if0 _ _).trans (teq (by decide)).2) k) ?_
  refine own_via (U' := T4.setTop (mkF m 31 #[.val (.int x1), .val (.int x2), .val (.int x3), .unset, .unset, .unset, .unset] [(.int (1 : Int32))])) (fun t k => XS.iconst X4.here hx rfl (hb hby at_30) k) ?_
  refine own_via (U' := T4.setTop (mkF m 35 #[.val (.int x1), .val (.int x2), .val (.int x3), .unset, .unset, .unset, .unset] [(.int (1 : Int32))])) (fun t k => XS.goto X4.here hx rfl (pc0 := 31) (pc' := 35) rfl (hb hby at_31) (by decide) (by decide) k) ?_
  refine own_via (U' := T4.setTop (mkF m 36 #[.val (.int x1), .val (.int x2), .val (.int x3), .val (.int (1 : Int32)), .unset, .unset, .unset] [])) (fun t k => XS.istoreN X4.here hx rfl (hb hby at_35) rfl (l' := #[.val (.int x1), .val (.int x2), .val (.int x3), .val (.int (1 : Int32)), .unset, .unset, .unset]) rfl k) ?_
  refine own_via (U' := T4.setTop (mkF m 37 #[.val (.int x1), .val (.int x2), .val (.int x3), .val (.int (1 : Int32)), .unset, .unset, .unset] [(.int x1)])) (fun t k => XS.iloadN X4.here hx rfl (hb hby at_36) rfl k) ?_
  refine own_via (U' := T4.setTop (mkF m 38 #[.val (.int x1), .val (.int x2), .val (.int x3), .val (.int (1 : Int32)), .unset, .unset, .unset] [(.int x3), (.int x1)])) (fun t k => XS.iloadN X4.here hx rfl (hb hby at_37) rfl k) ?_
  obtain ⟨_, T5, L5, X5, hQ5, st5⟩ := own_callS X4 hx hZ (y := (⟨"java/lang/Math", "min", "(II)I"⟩ : MethodName)) (W := 0) hown (hw _ (List.mem_of_getElem? (i := 7) rfl)) (hw _ (List.mem_of_getElem? (i := 8) rfl)) (hw _ (List.mem_of_getElem? (i := 9) rfl)) (hw _ (List.mem_of_getElem? (i := 10) rfl)) (by decide) (rm_Qmin l Z a0 hw [] x1 x3 h0 n0 Z0) (by decide) (by decide) e4 (g := (mkF m 38 #[.val (.int x1), .val (.int x2), .val (.int x3), .val (.int (1 : Int32)), .unset, .unset, .unset] [(.int x3), (.int x1)])) rfl (by rw [hml]; rfl) (argsL := [(.int x1), (.int x3)]) (rest := []) rfl (lenOf pd_II__I rfl) rfl (by show 2 * 0 + _ ≤ _; exact Nat.le_of_eq rfl) (hb hby at_38) (by decide) (by decide)
  obtain ⟨rfl, N5q, e5⟩ := hQ5
  have N5 := Fr.app N4 N5q
  refine own_via (U' := T5.setTop (mkF m 41 #[.val (.int x1), .val (.int x2), .val (.int x3), .val (.int (1 : Int32)), .unset, .unset, .unset] [(.int (if x3 < x1 then x3 else x1))])) (fun t k => st5 t k) ?_
  refine own_via (U' := T5.setTop (mkF m 43 #[.val (.int x1), .val (.int x2), .val (.int x3), .val (.int (1 : Int32)), .val (.int (if x3 < x1 then x3 else x1)), .unset, .unset] [])) (fun t k => XS.istore X5.here hx rfl (hb hby at_41) rfl (l' := #[.val (.int x1), .val (.int x2), .val (.int x3), .val (.int (1 : Int32)), .val (.int (if x3 < x1 then x3 else x1)), .unset, .unset]) rfl k) ?_
  generalize (if x3 < x1 then x3 else x1) = lo
  refine own_via (U' := T5.setTop (mkF m 44 #[.val (.int x1), .val (.int x2), .val (.int x3), .val (.int (1 : Int32)), .val (.int lo), .unset, .unset] [(.int x1)])) (fun t k => XS.iloadN X5.here hx rfl (hb hby at_43) rfl k) ?_
  refine own_via (U' := T5.setTop (mkF m 45 #[.val (.int x1), .val (.int x2), .val (.int x3), .val (.int (1 : Int32)), .val (.int lo), .unset, .unset] [(.int x3), (.int x1)])) (fun t k => XS.iloadN X5.here hx rfl (hb hby at_44) rfl k) ?_
  obtain ⟨_, T6, L6, X6, hQ6, st6⟩ := own_callS X5 hx hZ (y := (⟨"java/lang/Math", "max", "(II)I"⟩ : MethodName)) (W := 0) hown (hw _ (List.mem_of_getElem? (i := 11) rfl)) (hw _ (List.mem_of_getElem? (i := 12) rfl)) (hw _ (List.mem_of_getElem? (i := 9) rfl)) (hw _ (List.mem_of_getElem? (i := 13) rfl)) (by decide) (rm_Qmax l Z a0 hw [] x1 x3 h0 n0 Z0) (by decide) (by decide) e5 (g := (mkF m 45 #[.val (.int x1), .val (.int x2), .val (.int x3), .val (.int (1 : Int32)), .val (.int lo), .unset, .unset] [(.int x3), (.int x1)])) rfl (by rw [hml]; rfl) (argsL := [(.int x1), (.int x3)]) (rest := []) rfl (lenOf pd_II__I rfl) rfl (by show 2 * 0 + _ ≤ _; exact Nat.le_of_eq rfl) (hb hby at_45) (by decide) (by decide)
  obtain ⟨rfl, N6q, e6⟩ := hQ6
  have N6 := Fr.app N5 N6q
  refine own_via (U' := T6.setTop (mkF m 48 #[.val (.int x1), .val (.int x2), .val (.int x3), .val (.int (1 : Int32)), .val (.int lo), .unset, .unset] [(.int (if x1 < x3 then x3 else x1))])) (fun t k => st6 t k) ?_
  refine own_via (U' := T6.setTop (mkF m 50 #[.val (.int x1), .val (.int x2), .val (.int x3), .val (.int (1 : Int32)), .val (.int lo), .val (.int (if x1 < x3 then x3 else x1)), .unset] [])) (fun t k => XS.istore X6.here hx rfl (hb hby at_48) rfl (l' := #[.val (.int x1), .val (.int x2), .val (.int x3), .val (.int (1 : Int32)), .val (.int lo), .val (.int (if x1 < x3 then x3 else x1)), .unset]) rfl k) ?_
  generalize (if x1 < x3 then x3 else x1) = hi
  refine own_via (U' := T6.setTop (mkF m 51 #[.val (.int x1), .val (.int x2), .val (.int x3), .val (.int (1 : Int32)), .val (.int lo), .val (.int hi), .unset] [(.int (1 : Int32))])) (fun t k => XS.iconst X6.here hx rfl (hb hby at_50) k) ?_
  refine own_via (U' := T6.setTop (mkF m 53 #[.val (.int x1), .val (.int x2), .val (.int x3), .val (.int (1 : Int32)), .val (.int lo), .val (.int hi), .val (.int (1 : Int32))] [])) (fun t k => XS.istore X6.here hx rfl (hb hby at_51) rfl (l' := #[.val (.int x1), .val (.int x2), .val (.int x3), .val (.int (1 : Int32)), .val (.int lo), .val (.int hi), .val (.int (1 : Int32))]) rfl k) ?_
  refine own_via (U' := T6.setTop (mkF m 55 #[.val (.int x1), .val (.int x2), .val (.int x3), .val (.int (1 : Int32)), .val (.int lo), .val (.int hi), .val (.int (1 : Int32))] [(.int lo)])) (fun t k => XS.iload X6.here hx rfl (hb hby at_53) rfl k) ?_
  refine own_via (U' := T6.setTop (mkF m 56 #[.val (.int x1), .val (.int x2), .val (.int x3), .val (.int (1 : Int32)), .val (.int lo), .val (.int hi), .val (.int (1 : Int32))] [(.int x2), (.int lo)])) (fun t k => XS.iloadN X6.here hx rfl (hb hby at_55) rfl k) ?_
  by_cases hc7 : x2 < lo
  case pos =>
    refine own_via (U' := T6.setTop (mkF m 87 #[.val (.int x1), .val (.int x2), .val (.int x3), .val (.int (1 : Int32)), .val (.int lo), .val (.int hi), .val (.int (1 : Int32))] [])) (fun t k => XS.icmpYes X6.here hx rfl (pc0 := 56) (pc' := 87) rfl (hb hby at_56) rfl (tlt hc7).2.2.1 (by decide) (by decide) k) ?_
    refine own_via (U' := T6.setTop (mkF m 88 #[.val (.int x1), .val (.int x2), .val (.int x3), .val (.int (1 : Int32)), .val (.int lo), .val (.int hi), .val (.int (1 : Int32))] [(.int (1 : Int32))])) (fun t k => XS.iloadN X6.here hx rfl (hb hby at_87) rfl k) ?_
    refine own_via (U' := T6.setTop (mkF m 91 #[.val (.int x1), .val (.int x2), .val (.int x3), .val (.int (1 : Int32)), .val (.int lo), .val (.int hi), .val (.int (1 : Int32))] [])) (fun t k => XS.ifNo X6.here hx rfl (hb hby at_88) rfl ((if0 _ _).trans (feq (by decide : ¬ ((1 : Int32) = (0 : Int32)))).1) k) ?_
    refine own_via (U' := T6.setTop (mkF m 93 #[.val (.int x1), .val (.int x2), .val (.int x3), .val (.int (1 : Int32)), .val (.int lo), .val (.int hi), .val (.int (1 : Int32))] [(.int (1 : Int32))])) (fun t k => XS.iload X6.here hx rfl (hb hby at_91) rfl k) ?_
    refine own_via (U' := T6.setTop (mkF m 96 #[.val (.int x1), .val (.int x2), .val (.int x3), .val (.int (1 : Int32)), .val (.int lo), .val (.int hi), .val (.int (1 : Int32))] [])) (fun t k => XS.ifNo X6.here hx rfl (hb hby at_93) rfl ((if0 _ _).trans (feq (by decide : ¬ ((1 : Int32) = (0 : Int32)))).1) k) ?_
    refine own_via (U' := T6.setTop (mkF m 97 #[.val (.int x1), .val (.int x2), .val (.int x3), .val (.int (1 : Int32)), .val (.int lo), .val (.int hi), .val (.int (1 : Int32))] [(.int (1 : Int32))])) (fun t k => XS.iconst X6.here hx rfl (hb hby at_96) k) ?_
    refine own_via (U' := T6.setTop (mkF m 101 #[.val (.int x1), .val (.int x2), .val (.int x3), .val (.int (1 : Int32)), .val (.int lo), .val (.int hi), .val (.int (1 : Int32))] [(.int (1 : Int32))])) (fun t k => XS.goto X6.here hx rfl (pc0 := 97) (pc' := 101) rfl (hb hby at_97) (by decide) (by decide) k) ?_
    exact own_ret X6 (v := some (.int (1 : Int32))) (fun h => by rw [Bd.returns] at h; cases h) hlk (fun fs hr => retN X6 hx (t := .boolean) Bd.returns (by simp) (hb hby at_101) hr) (by rw [e6]; exact ⟨rfl, N6⟩) (by decide) (by decide)
  case neg =>
    refine own_via (U' := T6.setTop (mkF m 59 #[.val (.int x1), .val (.int x2), .val (.int x3), .val (.int (1 : Int32)), .val (.int lo), .val (.int hi), .val (.int (1 : Int32))] [])) (fun t k => XS.icmpNo X6.here hx rfl (hb hby at_56) rfl (flt hc7).2.2.1 k) ?_
    refine own_via (U' := T6.setTop (mkF m 60 #[.val (.int x1), .val (.int x2), .val (.int x3), .val (.int (1 : Int32)), .val (.int lo), .val (.int hi), .val (.int (1 : Int32))] [(.int x2)])) (fun t k => XS.iloadN X6.here hx rfl (hb hby at_59) rfl k) ?_
    refine own_via (U' := T6.setTop (mkF m 62 #[.val (.int x1), .val (.int x2), .val (.int x3), .val (.int (1 : Int32)), .val (.int lo), .val (.int hi), .val (.int (1 : Int32))] [(.int hi), (.int x2)])) (fun t k => XS.iload X6.here hx rfl (hb hby at_60) rfl k) ?_
    by_cases hc8 : hi < x2
    case pos =>
      refine own_via (U' := T6.setTop (mkF m 87 #[.val (.int x1), .val (.int x2), .val (.int x3), .val (.int (1 : Int32)), .val (.int lo), .val (.int hi), .val (.int (1 : Int32))] [])) (fun t k => XS.icmpYes X6.here hx rfl (pc0 := 62) (pc' := 87) rfl (hb hby at_62) rfl (tlt hc8).2.2.1 (by decide) (by decide) k) ?_
      refine own_via (U' := T6.setTop (mkF m 88 #[.val (.int x1), .val (.int x2), .val (.int x3), .val (.int (1 : Int32)), .val (.int lo), .val (.int hi), .val (.int (1 : Int32))] [(.int (1 : Int32))])) (fun t k => XS.iloadN X6.here hx rfl (hb hby at_87) rfl k) ?_
      refine own_via (U' := T6.setTop (mkF m 91 #[.val (.int x1), .val (.int x2), .val (.int x3), .val (.int (1 : Int32)), .val (.int lo), .val (.int hi), .val (.int (1 : Int32))] [])) (fun t k => XS.ifNo X6.here hx rfl (hb hby at_88) rfl ((if0 _ _).trans (feq (by decide : ¬ ((1 : Int32) = (0 : Int32)))).1) k) ?_
      refine own_via (U' := T6.setTop (mkF m 93 #[.val (.int x1), .val (.int x2), .val (.int x3), .val (.int (1 : Int32)), .val (.int lo), .val (.int hi), .val (.int (1 : Int32))] [(.int (1 : Int32))])) (fun t k => XS.iload X6.here hx rfl (hb hby at_91) rfl k) ?_
      refine own_via (U' := T6.setTop (mkF m 96 #[.val (.int x1), .val (.int x2), .val (.int x3), .val (.int (1 : Int32)), .val (.int lo), .val (.int hi), .val (.int (1 : Int32))] [])) (fun t k => XS.ifNo X6.here hx rfl (hb hby at_93) rfl ((if0 _ _).trans (feq (by decide : ¬ ((1 : Int32) = (0 : Int32)))).1) k) ?_
      refine own_via (U' := T6.setTop (mkF m 97 #[.val (.int x1), .val (.int x2), .val (.int x3), .val (.int (1 : Int32)), .val (.int lo), .val (.int hi), .val (.int (1 : Int32))] [(.int (1 : Int32))])) (fun t k => XS.iconst X6.here hx rfl (hb hby at_96) k) ?_
      refine own_via (U' := T6.setTop (mkF m 101 #[.val (.int x1), .val (.int x2), .val (.int x3), .val (.int (1 : Int32)), .val (.int lo), .val (.int hi), .val (.int (1 : Int32))] [(.int (1 : Int32))])) (fun t k => XS.goto X6.here hx rfl (pc0 := 97) (pc' := 101) rfl (hb hby at_97) (by decide) (by decide) k) ?_
      exact own_ret X6 (v := some (.int (1 : Int32))) (fun h => by rw [Bd.returns] at h; cases h) hlk (fun fs hr => retN X6 hx (t := .boolean) Bd.returns (by simp) (hb hby at_101) hr) (by rw [e6]; exact ⟨rfl, N6⟩) (by decide) (by decide)
    case neg =>
      refine own_via (U' := T6.setTop (mkF m 65 #[.val (.int x1), .val (.int x2), .val (.int x3), .val (.int (1 : Int32)), .val (.int lo), .val (.int hi), .val (.int (1 : Int32))] [])) (fun t k => XS.icmpNo X6.here hx rfl (hb hby at_62) rfl (flt hc8).2.2.1 k) ?_
      refine own_via (U' := T6.setTop (mkF m 67 #[.val (.int x1), .val (.int x2), .val (.int x3), .val (.int (1 : Int32)), .val (.int lo), .val (.int hi), .val (.int (1 : Int32))] [(.int lo)])) (fun t k => XS.iload X6.here hx rfl (hb hby at_65) rfl k) ?_
      obtain ⟨_, T9, L9, X9, hQ9, st9⟩ := own_callS X6 hx hZ (y := (⟨"com/example/colla/colla/wire/Frame", "isValidSize", "(I)Z"⟩ : MethodName)) (W := 0) hown (hw _ (List.mem_of_getElem? (i := 0) rfl)) (hw _ (List.mem_of_getElem? (i := 1) rfl)) (hw _ (List.mem_of_getElem? (i := 2) rfl)) (hw _ (List.mem_of_getElem? (i := 3) rfl)) (by decide) (rm_Qvs l Z a0 hw [] lo h0 n0 Z0) (by decide) (by decide) e6 (g := (mkF m 67 #[.val (.int x1), .val (.int x2), .val (.int x3), .val (.int (1 : Int32)), .val (.int lo), .val (.int hi), .val (.int (1 : Int32))] [(.int lo)])) rfl (by rw [hml]; rfl) (argsL := [(.int lo)]) (rest := []) rfl (lenOf pd_I__Z rfl) rfl (by show 2 * 0 + _ ≤ _; exact Nat.le_of_eq rfl) (hb hby at_67) (by decide) (by decide)
      obtain ⟨rfl, N9q, e9⟩ := hQ9
      have N9 := Fr.app N6 N9q
      refine own_via (U' := T9.setTop (mkF m 70 #[.val (.int x1), .val (.int x2), .val (.int x3), .val (.int (1 : Int32)), .val (.int lo), .val (.int hi), .val (.int (1 : Int32))] [(.int (if lo < (0 : Int32) then (0 : Int32) else (if (104857600 : Int32) < lo then (0 : Int32) else (1 : Int32))))])) (fun t k => st9 t k) ?_
      by_cases hc10 : (if lo < (0 : Int32) then (0 : Int32) else (if (104857600 : Int32) < lo then (0 : Int32) else (1 : Int32))) = (0 : Int32)
      case pos =>
        refine own_via (U' := T9.setTop (mkF m 87 #[.val (.int x1), .val (.int x2), .val (.int x3), .val (.int (1 : Int32)), .val (.int lo), .val (.int hi), .val (.int (1 : Int32))] [])) (fun t k => XS.ifYes X9.here hx rfl (pc0 := 70) (pc' := 87) rfl (hb hby at_70) rfl ((if0 _ _).trans (teq hc10).1) (by decide) (by decide) k) ?_
        refine own_via (U' := T9.setTop (mkF m 88 #[.val (.int x1), .val (.int x2), .val (.int x3), .val (.int (1 : Int32)), .val (.int lo), .val (.int hi), .val (.int (1 : Int32))] [(.int (1 : Int32))])) (fun t k => XS.iloadN X9.here hx rfl (hb hby at_87) rfl k) ?_
        refine own_via (U' := T9.setTop (mkF m 91 #[.val (.int x1), .val (.int x2), .val (.int x3), .val (.int (1 : Int32)), .val (.int lo), .val (.int hi), .val (.int (1 : Int32))] [])) (fun t k => XS.ifNo X9.here hx rfl (hb hby at_88) rfl ((if0 _ _).trans (feq (by decide : ¬ ((1 : Int32) = (0 : Int32)))).1) k) ?_
        refine own_via (U' := T9.setTop (mkF m 93 #[.val (.int x1), .val (.int x2), .val (.int x3), .val (.int (1 : Int32)), .val (.int lo), .val (.int hi), .val (.int (1 : Int32))] [(.int (1 : Int32))])) (fun t k => XS.iload X9.here hx rfl (hb hby at_91) rfl k) ?_
        refine own_via (U' := T9.setTop (mkF m 96 #[.val (.int x1), .val (.int x2), .val (.int x3), .val (.int (1 : Int32)), .val (.int lo), .val (.int hi), .val (.int (1 : Int32))] [])) (fun t k => XS.ifNo X9.here hx rfl (hb hby at_93) rfl ((if0 _ _).trans (feq (by decide : ¬ ((1 : Int32) = (0 : Int32)))).1) k) ?_
        refine own_via (U' := T9.setTop (mkF m 97 #[.val (.int x1), .val (.int x2), .val (.int x3), .val (.int (1 : Int32)), .val (.int lo), .val (.int hi), .val (.int (1 : Int32))] [(.int (1 : Int32))])) (fun t k => XS.iconst X9.here hx rfl (hb hby at_96) k) ?_
        refine own_via (U' := T9.setTop (mkF m 101 #[.val (.int x1), .val (.int x2), .val (.int x3), .val (.int (1 : Int32)), .val (.int lo), .val (.int hi), .val (.int (1 : Int32))] [(.int (1 : Int32))])) (fun t k => XS.goto X9.here hx rfl (pc0 := 97) (pc' := 101) rfl (hb hby at_97) (by decide) (by decide) k) ?_
        exact own_ret X9 (v := some (.int (1 : Int32))) (fun h => by rw [Bd.returns] at h; cases h) hlk (fun fs hr => retN X9 hx (t := .boolean) Bd.returns (by simp) (hb hby at_101) hr) (by rw [e9]; exact ⟨rfl, N9⟩) (by decide) (by decide)
      case neg =>
        refine own_via (U' := T9.setTop (mkF m 73 #[.val (.int x1), .val (.int x2), .val (.int x3), .val (.int (1 : Int32)), .val (.int lo), .val (.int hi), .val (.int (1 : Int32))] [])) (fun t k => XS.ifNo X9.here hx rfl (hb hby at_70) rfl ((if0 _ _).trans (feq hc10).1) k) ?_
        refine own_via (U' := T9.setTop (mkF m 75 #[.val (.int x1), .val (.int x2), .val (.int x3), .val (.int (1 : Int32)), .val (.int lo), .val (.int hi), .val (.int (1 : Int32))] [(.int hi)])) (fun t k => XS.iload X9.here hx rfl (hb hby at_73) rfl k) ?_
        obtain ⟨_, T11, L11, X11, hQ11, st11⟩ := own_callS X9 hx hZ (y := (⟨"com/example/colla/colla/wire/Frame", "isValidSize", "(I)Z"⟩ : MethodName)) (W := 0) hown (hw _ (List.mem_of_getElem? (i := 0) rfl)) (hw _ (List.mem_of_getElem? (i := 1) rfl)) (hw _ (List.mem_of_getElem? (i := 2) rfl)) (hw _ (List.mem_of_getElem? (i := 3) rfl)) (by decide) (rm_Qvs l Z a0 hw [] hi h0 n0 Z0) (by decide) (by decide) e9 (g := (mkF m 75 #[.val (.int x1), .val (.int x2), .val (.int x3), .val (.int (1 : Int32)), .val (.int lo), .val (.int hi), .val (.int (1 : Int32))] [(.int hi)])) rfl (by rw [hml]; rfl) (argsL := [(.int hi)]) (rest := []) rfl (lenOf pd_I__Z rfl) rfl (by show 2 * 0 + _ ≤ _; exact Nat.le_of_eq rfl) (hb hby at_75) (by decide) (by decide)
        obtain ⟨rfl, N11q, e11⟩ := hQ11
        have N11 := Fr.app N9 N11q
        refine own_via (U' := T11.setTop (mkF m 78 #[.val (.int x1), .val (.int x2), .val (.int x3), .val (.int (1 : Int32)), .val (.int lo), .val (.int hi), .val (.int (1 : Int32))] [(.int (if hi < (0 : Int32) then (0 : Int32) else (if (104857600 : Int32) < hi then (0 : Int32) else (1 : Int32))))])) (fun t k => st11 t k) ?_
        by_cases hc12 : (if hi < (0 : Int32) then (0 : Int32) else (if (104857600 : Int32) < hi then (0 : Int32) else (1 : Int32))) = (0 : Int32)
        case pos =>
          refine own_via (U' := T11.setTop (mkF m 87 #[.val (.int x1), .val (.int x2), .val (.int x3), .val (.int (1 : Int32)), .val (.int lo), .val (.int hi), .val (.int (1 : Int32))] [])) (fun t k => XS.ifYes X11.here hx rfl (pc0 := 78) (pc' := 87) rfl (hb hby at_78) rfl ((if0 _ _).trans (teq hc12).1) (by decide) (by decide) k) ?_
          refine own_via (U' := T11.setTop (mkF m 88 #[.val (.int x1), .val (.int x2), .val (.int x3), .val (.int (1 : Int32)), .val (.int lo), .val (.int hi), .val (.int (1 : Int32))] [(.int (1 : Int32))])) (fun t k => XS.iloadN X11.here hx rfl (hb hby at_87) rfl k) ?_
          refine own_via (U' := T11.setTop (mkF m 91 #[.val (.int x1), .val (.int x2), .val (.int x3), .val (.int (1 : Int32)), .val (.int lo), .val (.int hi), .val (.int (1 : Int32))] [])) (fun t k => XS.ifNo X11.here hx rfl (hb hby at_88) rfl ((if0 _ _).trans (feq (by decide : ¬ ((1 : Int32) = (0 : Int32)))).1) k) ?_
          refine own_via (U' := T11.setTop (mkF m 93 #[.val (.int x1), .val (.int x2), .val (.int x3), .val (.int (1 : Int32)), .val (.int lo), .val (.int hi), .val (.int (1 : Int32))] [(.int (1 : Int32))])) (fun t k => XS.iload X11.here hx rfl (hb hby at_91) rfl k) ?_
          refine own_via (U' := T11.setTop (mkF m 96 #[.val (.int x1), .val (.int x2), .val (.int x3), .val (.int (1 : Int32)), .val (.int lo), .val (.int hi), .val (.int (1 : Int32))] [])) (fun t k => XS.ifNo X11.here hx rfl (hb hby at_93) rfl ((if0 _ _).trans (feq (by decide : ¬ ((1 : Int32) = (0 : Int32)))).1) k) ?_
          refine own_via (U' := T11.setTop (mkF m 97 #[.val (.int x1), .val (.int x2), .val (.int x3), .val (.int (1 : Int32)), .val (.int lo), .val (.int hi), .val (.int (1 : Int32))] [(.int (1 : Int32))])) (fun t k => XS.iconst X11.here hx rfl (hb hby at_96) k) ?_
          refine own_via (U' := T11.setTop (mkF m 101 #[.val (.int x1), .val (.int x2), .val (.int x3), .val (.int (1 : Int32)), .val (.int lo), .val (.int hi), .val (.int (1 : Int32))] [(.int (1 : Int32))])) (fun t k => XS.goto X11.here hx rfl (pc0 := 97) (pc' := 101) rfl (hb hby at_97) (by decide) (by decide) k) ?_
          exact own_ret X11 (v := some (.int (1 : Int32))) (fun h => by rw [Bd.returns] at h; cases h) hlk (fun fs hr => retN X11 hx (t := .boolean) Bd.returns (by simp) (hb hby at_101) hr) (by rw [e11]; exact ⟨rfl, N11⟩) (by decide) (by decide)
        case neg =>
          refine own_via (U' := T11.setTop (mkF m 81 #[.val (.int x1), .val (.int x2), .val (.int x3), .val (.int (1 : Int32)), .val (.int lo), .val (.int hi), .val (.int (1 : Int32))] [])) (fun t k => XS.ifNo X11.here hx rfl (hb hby at_78) rfl ((if0 _ _).trans (feq hc12).1) k) ?_
          refine own_via (U' := T11.setTop (mkF m 82 #[.val (.int x1), .val (.int x2), .val (.int x3), .val (.int (1 : Int32)), .val (.int lo), .val (.int hi), .val (.int (1 : Int32))] [(.int x2)])) (fun t k => XS.iloadN X11.here hx rfl (hb hby at_81) rfl k) ?_
          obtain ⟨_, T13, L13, X13, hQ13, st13⟩ := own_callS X11 hx hZ (y := (⟨"com/example/colla/colla/wire/Frame", "isValidSize", "(I)Z"⟩ : MethodName)) (W := 0) hown (hw _ (List.mem_of_getElem? (i := 0) rfl)) (hw _ (List.mem_of_getElem? (i := 1) rfl)) (hw _ (List.mem_of_getElem? (i := 2) rfl)) (hw _ (List.mem_of_getElem? (i := 3) rfl)) (by decide) (rm_Qvs l Z a0 hw [] x2 h0 n0 Z0) (by decide) (by decide) e11 (g := (mkF m 82 #[.val (.int x1), .val (.int x2), .val (.int x3), .val (.int (1 : Int32)), .val (.int lo), .val (.int hi), .val (.int (1 : Int32))] [(.int x2)])) rfl (by rw [hml]; rfl) (argsL := [(.int x2)]) (rest := []) rfl (lenOf pd_I__Z rfl) rfl (by show 2 * 0 + _ ≤ _; exact Nat.le_of_eq rfl) (hb hby at_82) (by decide) (by decide)
          obtain ⟨rfl, N13q, e13⟩ := hQ13
          have N13 := Fr.app N11 N13q
          refine own_via (U' := T13.setTop (mkF m 85 #[.val (.int x1), .val (.int x2), .val (.int x3), .val (.int (1 : Int32)), .val (.int lo), .val (.int hi), .val (.int (1 : Int32))] [(.int (if x2 < (0 : Int32) then (0 : Int32) else (if (104857600 : Int32) < x2 then (0 : Int32) else (1 : Int32))))])) (fun t k => st13 t k) ?_
          refine own_via (U' := T13.setTop (mkF m 87 #[.val (.int x1), .val (.int x2), .val (.int x3), .val (.int (1 : Int32)), .val (.int lo), .val (.int hi), .val (.int (if x2 < (0 : Int32) then (0 : Int32) else (if (104857600 : Int32) < x2 then (0 : Int32) else (1 : Int32))))] [])) (fun t k => XS.istore X13.here hx rfl (hb hby at_85) rfl (l' := #[.val (.int x1), .val (.int x2), .val (.int x3), .val (.int (1 : Int32)), .val (.int lo), .val (.int hi), .val (.int (if x2 < (0 : Int32) then (0 : Int32) else (if (104857600 : Int32) < x2 then (0 : Int32) else (1 : Int32))))]) rfl k) ?_
          refine own_via (U' := T13.setTop (mkF m 88 #[.val (.int x1), .val (.int x2), .val (.int x3), .val (.int (1 : Int32)), .val (.int lo), .val (.int hi), .val (.int (if x2 < (0 : Int32) then (0 : Int32) else (if (104857600 : Int32) < x2 then (0 : Int32) else (1 : Int32))))] [(.int (1 : Int32))])) (fun t k => XS.iloadN X13.here hx rfl (hb hby at_87) rfl k) ?_
          refine own_via (U' := T13.setTop (mkF m 91 #[.val (.int x1), .val (.int x2), .val (.int x3), .val (.int (1 : Int32)), .val (.int lo), .val (.int hi), .val (.int (if x2 < (0 : Int32) then (0 : Int32) else (if (104857600 : Int32) < x2 then (0 : Int32) else (1 : Int32))))] [])) (fun t k => XS.ifNo X13.here hx rfl (hb hby at_88) rfl ((if0 _ _).trans (feq (by decide : ¬ ((1 : Int32) = (0 : Int32)))).1) k) ?_
          refine own_via (U' := T13.setTop (mkF m 93 #[.val (.int x1), .val (.int x2), .val (.int x3), .val (.int (1 : Int32)), .val (.int lo), .val (.int hi), .val (.int (if x2 < (0 : Int32) then (0 : Int32) else (if (104857600 : Int32) < x2 then (0 : Int32) else (1 : Int32))))] [(.int (if x2 < (0 : Int32) then (0 : Int32) else (if (104857600 : Int32) < x2 then (0 : Int32) else (1 : Int32))))])) (fun t k => XS.iload X13.here hx rfl (hb hby at_91) rfl k) ?_
          refine own_via (U' := T13.setTop (mkF m 96 #[.val (.int x1), .val (.int x2), .val (.int x3), .val (.int (1 : Int32)), .val (.int lo), .val (.int hi), .val (.int (if x2 < (0 : Int32) then (0 : Int32) else (if (104857600 : Int32) < x2 then (0 : Int32) else (1 : Int32))))] [])) (fun t k => XS.ifNo X13.here hx rfl (hb hby at_93) rfl ((if0 _ _).trans (feq (own_cv _ _ _ hc7 hc8 hc10 hc12)).1) k) ?_
          refine own_via (U' := T13.setTop (mkF m 97 #[.val (.int x1), .val (.int x2), .val (.int x3), .val (.int (1 : Int32)), .val (.int lo), .val (.int hi), .val (.int (if x2 < (0 : Int32) then (0 : Int32) else (if (104857600 : Int32) < x2 then (0 : Int32) else (1 : Int32))))] [(.int (1 : Int32))])) (fun t k => XS.iconst X13.here hx rfl (hb hby at_96) k) ?_
          refine own_via (U' := T13.setTop (mkF m 101 #[.val (.int x1), .val (.int x2), .val (.int x3), .val (.int (1 : Int32)), .val (.int lo), .val (.int hi), .val (.int (if x2 < (0 : Int32) then (0 : Int32) else (if (104857600 : Int32) < x2 then (0 : Int32) else (1 : Int32))))] [(.int (1 : Int32))])) (fun t k => XS.goto X13.here hx rfl (pc0 := 97) (pc' := 101) rfl (hb hby at_97) (by decide) (by decide) k) ?_
          exact own_ret X13 (v := some (.int (1 : Int32))) (fun h => by rw [Bd.returns] at h; cases h) hlk (fun fs hr => retN X13 hx (t := .boolean) Bd.returns (by simp) (hb hby at_101) hr) (by rw [e13]; exact ⟨rfl, N13⟩) (by decide) (by decide)
set_option maxRecDepth 65536 in
set_option maxHeartbeats 40000000 in
theorem comes_1 {Post : Tables → Env → Array Value → State → Outcome → State → Prop} (hpost : ∀ tb e args s v u, (limb_1_1.after args s (.returned v) u = true ∧ limb_1_2.after args s (.returned v) u = true ∧ True) → FrameEnd s (.returned v) u (Jvm.fieldLocs frame_1_writes args s ++ Jvm.arrayLocs frame_1_arrays args s ++ Jvm.staticLocs frame_1_statics s) 0 0 → Post tb e args s (.returned v) u) :
    ArmFor flags0 classFile x code maxLocals ret World_1 tables_1 room_1 Calls_1 rest_1 Pre_1 Post := by
  intro l hfl _ _ p e ha hc hk s m args below hf hA hF happ hP
  obtain ⟨hcalls, hrest, hpre⟩ := hP
  obtain ⟨-, -, -, hnamed, -, -, -, hat⟩ := (Spec.applies_iff hf).mp happ
  obtain ⟨hg, hn⟩ := and_e (Cond.before_iff.mp (show (Jvm.Cond.and given_1 narrow_1).before args s = true from hpre))
  obtain ⟨hcount, r0⟩ := and_e hg
  obtain ⟨k0, r1⟩ := and_e r0
  obtain ⟨k1, r2⟩ := and_e r1
  obtain ⟨w0, w1, w2, rfl⟩ : ∃ w0 w1 w2 : Value, args = #[w0, w1, w2] := by
    have hs : args.size = 3 := by simpa [Cond.value, given_1] using hcount
    obtain ⟨L⟩ := args
    match L, hs with
    | [w0, w1, w2], _ => exact ⟨w0, w1, w2, rfl⟩
  have hw := fun d (hd : d ∈ tables_1) => atoms_spec (ws := Jvm.Cond.code x code maxLocals ret :: tables_1) hat d (List.mem_cons_of_mem _ hd)
  have hfit : Fit s := fun {y c} hc i hi => by
    obtain ⟨ha, rfl⟩ := Array.getElem?_eq_some_iff.mp hc
    have q := List.all_eq_true.mp ((Array.all_eq_true_iff_forall_mem.mp hF) _ (Array.getElem_mem ha)) i (List.mem_range.mpr hi)
    simpa [Array.getElem?_eq_getElem hi] using q
  obtain ⟨i0, ei0⟩ := is_v k0
  obtain rfl : w0 = (.int i0) := Option.some.inj ei0
  obtain ⟨i1, ei1⟩ := is_v k1
  obtain rfl : w1 = (.int i1) := Option.some.inj ei1
  obtain ⟨i2, ei2⟩ := is_v r2
  obtain rfl : w2 = (.int i2) := Option.some.inj ei2
  obtain ⟨n, o, h1, h2, h3, _, L, rfl, ⟨rfl, N⟩, hq⟩ := rm_Q0 l s _ hw tables_1 i0 i1 i2 s.heap s.heap.size (Nat.le_refl _) p e ha hc hk s m _ below hf ((Spec.applies_iff_loose hf).mp happ).1 ⟨rfl, State.Warmed39.refl s, rfl⟩ trivial
  refine ⟨n, _, h1, h2, h3, hpost _ _ _ _ _ _ ⟨Cond.after_iff.mpr rfl, Cond.after_iff.mpr (eq_i res_at (Term.int_eval (1)) rfl), trivial⟩ ⟨hq.1, hq.2.1, (hq.2.2.sift fun y hy => Or.inr (N y hy)).mono (by decide) (by decide)⟩⟩
theorem main_1_1 : Claimed_1_1 := comes_1 fun _ _ _ _ _ _ h hF => ⟨h.1, hF⟩
theorem main_1_2 : Claimed_1_2 := comes_1 fun _ _ _ _ _ _ h hF => ⟨h.2.1, hF⟩
end Jvm.Pilot.@@N@@
namespace Jvm.Pilot.@@N@@
open Jvm Jvm.ClassFile Sem Op Lib Jvm.Free Jvm.Stand Jvm.Pilot.@@N@@.Jvm.D
/-! MADE BY PROGRAM (witnessworld.py) out of the Statement's table words and the real class files: 10 classes; the members and pool entries that the words name. The judged class is class 1, her method 1. -/
namespace start1
open Jvm.ClassFile
def u (s : String) : CpInfo := .utf8 (stringToUtf16 s)
/-- a pool by its gaps: so many unusable entries, then the entry; so many at the end -/
def gap : Nat → List CpInfo → List CpInfo
  | 0, r => r
  | n + 1, r => .unusable :: gap n r
def poolList (es : List (Nat × CpInfo)) (last : Nat) : List CpInfo := es.foldr (fun e r => gap e.1 (e.2 :: r)) (gap last [])
def pool (es : List (Nat × CpInfo)) (last : Nat) : Array CpInfo := ⟨poolList es last⟩
def fileOf (pool : Array CpInfo) (this : Nat) (attrs : Array Attribute := #[]) (ms : Array MethodInfo := #[]) (fl : Nat := 33) (sup : Nat := 0) (ifs : Array Nat := #[]) (fds : Array FieldInfo := #[]) : ClassFile where
  minorVersion := 0
  majorVersion := 65
  constantPool := pool
  accessFlags := fl
  thisClass := this
  superClass := sup
  interfaces := ifs
  fields := fds
  methods := ms
  attributes := attrs
def plain (name : String) (sup : Option ClassId) : Class where
  name := name
  kind := .ordinary
  loader := none
  accessFlags := 33
  super := sup
  interfaces := #[]
  cf := none
  fields := #[]
  methods := #[]
  instanceTypes := #[]
  staticTypes := #[]
  resolved := #[]
  callSites := []
  init := .initialized
  statics := none
  mirror := none

def pool0 : Array CpInfo := pool [(5, u "<init>"), (0, u "()V"), (1, .class_ 10), (1, u "java/lang/Object")] 113

def k0m0 : Method := { name := "<init>", desc := "()V", sig := { parameters := [], returnType := none }, accessFlags := 1, code := none }
/-- java/lang/Object -/
def k0 : Class := { plain "java/lang/Object" none with
  accessFlags := 33
  interfaces := #[]
  cf := some (fileOf pool0 8 #[] #[{ accessFlags := 1, nameIndex := 5, descriptorIndex := 6, attributes := #[] }] 33 0 #[] #[])
  fields := #[]
  methods := #[k0m0]
  instanceTypes := #[]
  staticTypes := #[]
  resolved := Array.replicate 124 none
  statics := none }

def pool1 : Array CpInfo := pool [(2, .class_ 4), (1, u "java/lang/Object"), (0, u "<init>"), (0, u "()V"), (0, .methodref 8 9), (0, .class_ 10), (0, .nameAndType 11 12), (0, u "com/example/colla/colla/wire/Frame"), (0, u "isValidSize"), (0, u "(I)Z"), (0, .integer 104857600), (0, .integer 104857601), (0, .methodref 16 17), (0, .class_ 18), (0, .nameAndType 19 20), (0, u "java/lang/Math"), (0, u "min"), (0, u "(II)I"), (0, .methodref 16 22), (0, .nameAndType 23 20), (0, u "max"), (0, .class_ 25), (0, u "com/example/colla/colla/wire/FrameIsValidSizePinLaw"), (2, u "law"), (0, u "(III)Z")] 3

def k1m0 : Method := { name := "<init>", desc := "()V", sig := { parameters := [], returnType := none }, accessFlags := 1, code := none }
def k1c1 : Code := { maxStack := 2, maxLocals := 7, code := code, exceptionTable := #[], attributes := #[] }
def k1m1 : Method := { name := "law", desc := "(III)Z", sig := { parameters := [.int, .int, .int], returnType := some .boolean }, accessFlags := 9, code := some k1c1 }
/-- com/example/colla/colla/wire/FrameIsValidSizePinLaw -/
def k1 : Class := { plain "com/example/colla/colla/wire/FrameIsValidSizePinLaw" (some 0) with
  accessFlags := 49
  interfaces := #[]
  cf := some (fileOf pool1 24 #[] #[{ accessFlags := 1, nameIndex := 5, descriptorIndex := 6, attributes := #[] }, { accessFlags := 9, nameIndex := 28, descriptorIndex := 29, attributes := #[] }] 49 2 #[] #[])
  fields := #[]
  methods := #[k1m0, k1m1]
  instanceTypes := #[]
  staticTypes := #[]
  resolved := Array.replicate 33 none
  statics := none }

def pool2 : Array CpInfo := pool [(2, .class_ 4), (1, u "java/lang/Object"), (0, u "<init>"), (0, u "()V"), (0, .class_ 8), (0, u "com/example/colla/colla/wire/Frame"), (0, .integer 104857600), (109, u "MAX_SIZE"), (0, u "I"), (3, u "isValidSize"), (0, u "(I)Z")] 26

def k2m0 : Method := { name := "<init>", desc := "()V", sig := { parameters := [], returnType := none }, accessFlags := 2, code := none }
def k2c1 : Code := { maxStack := 2, maxLocals := 1, code := prog_48_method_2_code, exceptionTable := #[], attributes := #[] }
def k2m1 : Method := { name := "isValidSize", desc := "(I)Z", sig := { parameters := [.int], returnType := some .boolean }, accessFlags := 9, code := some k2c1 }
/-- com/example/colla/colla/wire/Frame -/
def k2 : Class := { plain "com/example/colla/colla/wire/Frame" (some 0) with
  accessFlags := 49
  interfaces := #[]
  cf := some (fileOf pool2 7 #[] #[{ accessFlags := 2, nameIndex := 5, descriptorIndex := 6, attributes := #[] }, { accessFlags := 9, nameIndex := 124, descriptorIndex := 125, attributes := #[] }] 49 2 #[] #[{ accessFlags := 25, nameIndex := 119, descriptorIndex := 120, attributes := #[] }])
  fields := #[{ name := "MAX_SIZE", type := .int, accessFlags := 25, slot := 0, constantValue := 0 }]
  methods := #[k2m0, k2m1]
  instanceTypes := #[]
  staticTypes := #[.int]
  resolved := Array.replicate 152 none
  statics := none }

def pool3 : Array CpInfo := pool [(1, .class_ 2), (0, u "java/lang/Math"), (1, .class_ 6), (1, u "java/lang/Object"), (0, u "<init>"), (0, u "()V"), (89, .class_ 100), (1, u "java/lang/Math$RandomNumberGeneratorHolder"), (71, u "negativeZeroFloatBits"), (0, u "J"), (2, u "negativeZeroDoubleBits"), (21, u "max"), (2, u "min"), (43, u "$assertionsDisabled"), (0, u "Z"), (88, u "(II)I"), (2, u "twoToTheDoubleScaleDown"), (0, u "D"), (4, u "twoToTheDoubleScaleUp"), (9, u "E"), (3, u "PI"), (2, u "TAU"), (2, u "DEGREES_TO_RADIANS"), (0, u "RADIANS_TO_DEGREES")] 94

def k3m0 : Method := { name := "<init>", desc := "()V", sig := { parameters := [], returnType := none }, accessFlags := 2, code := none }
def k3c1 : Code := { maxStack := 2, maxLocals := 2, code := jdk_29_method_65_code, exceptionTable := #[], attributes := #[] }
def k3m1 : Method := { name := "max", desc := "(II)I", sig := { parameters := [.int, .int], returnType := some .int }, accessFlags := 9, code := some k3c1 }
def k3c2 : Code := { maxStack := 2, maxLocals := 2, code := jdk_29_method_69_code, exceptionTable := #[], attributes := #[] }
def k3m2 : Method := { name := "min", desc := "(II)I", sig := { parameters := [.int, .int], returnType := some .int }, accessFlags := 9, code := some k3c2 }
/-- java/lang/Math -/
def k3 : Class := { plain "java/lang/Math" (some 0) with
  accessFlags := 49
  interfaces := #[]
  cf := some (fileOf pool3 1 #[.nestMembers #[98]] #[{ accessFlags := 2, nameIndex := 7, descriptorIndex := 8, attributes := #[] }, { accessFlags := 9, nameIndex := 198, descriptorIndex := 335, attributes := #[] }, { accessFlags := 9, nameIndex := 201, descriptorIndex := 335, attributes := #[] }] 49 4 #[] #[{ accessFlags := 25, nameIndex := 354, descriptorIndex := 339, attributes := #[] }, { accessFlags := 25, nameIndex := 358, descriptorIndex := 339, attributes := #[] }, { accessFlags := 25, nameIndex := 361, descriptorIndex := 339, attributes := #[] }, { accessFlags := 26, nameIndex := 364, descriptorIndex := 339, attributes := #[] }, { accessFlags := 26, nameIndex := 365, descriptorIndex := 339, attributes := #[] }, { accessFlags := 26, nameIndex := 172, descriptorIndex := 173, attributes := #[] }, { accessFlags := 26, nameIndex := 176, descriptorIndex := 173, attributes := #[] }, { accessFlags := 8, nameIndex := 344, descriptorIndex := 339, attributes := #[] }, { accessFlags := 8, nameIndex := 338, descriptorIndex := 339, attributes := #[] }, { accessFlags := 4120, nameIndex := 245, descriptorIndex := 246, attributes := #[] }])
  fields := #[{ name := "E", type := .double, accessFlags := 25, slot := 0, constantValue := 0 }, { name := "PI", type := .double, accessFlags := 25, slot := 1, constantValue := 0 }, { name := "TAU", type := .double, accessFlags := 25, slot := 2, constantValue := 0 }, { name := "DEGREES_TO_RADIANS", type := .double, accessFlags := 26, slot := 3, constantValue := 0 }, { name := "RADIANS_TO_DEGREES", type := .double, accessFlags := 26, slot := 4, constantValue := 0 }, { name := "negativeZeroFloatBits", type := .long, accessFlags := 26, slot := 5, constantValue := 0 }, { name := "negativeZeroDoubleBits", type := .long, accessFlags := 26, slot := 6, constantValue := 0 }, { name := "twoToTheDoubleScaleUp", type := .double, accessFlags := 8, slot := 7, constantValue := 0 }, { name := "twoToTheDoubleScaleDown", type := .double, accessFlags := 8, slot := 8, constantValue := 0 }, { name := "$assertionsDisabled", type := .boolean, accessFlags := 4120, slot := 9, constantValue := 0 }]
  methods := #[k3m0, k3m1, k3m2]
  instanceTypes := #[]
  staticTypes := #[.double, .double, .double, .double, .double, .long, .long, .double, .double, .boolean]
  resolved := Array.replicate 460 none
  statics := none }

def pool4 : Array CpInfo := pool [(1, u "java/lang/Cloneable"), (0, .class_ 1), (0, u "java/lang/Object"), (0, .class_ 3)] 3

/-- java/lang/Cloneable -/
def k4 : Class := { plain "java/lang/Cloneable" (some 0) with
  accessFlags := 1537
  interfaces := #[]
  cf := some (fileOf pool4 2 #[] #[] 1537 4 #[] #[])
  fields := #[]
  methods := #[]
  instanceTypes := #[]
  staticTypes := #[]
  resolved := Array.replicate 8 none
  statics := none }

def pool5 : Array CpInfo := pool [(1, u "java/io/Serializable"), (0, .class_ 1), (0, u "java/lang/Object"), (0, .class_ 3)] 3

/-- java/io/Serializable -/
def k5 : Class := { plain "java/io/Serializable" (some 0) with
  accessFlags := 1537
  interfaces := #[]
  cf := some (fileOf pool5 2 #[] #[] 1537 4 #[] #[])
  fields := #[]
  methods := #[]
  instanceTypes := #[]
  staticTypes := #[]
  resolved := Array.replicate 8 none
  statics := none }

/-- the primitive byte -/
def k6 : Class := { plain "byte" none with kind := .primitive 'B', accessFlags := 0x411 }
/-- [B -/
def k7 : Class := { plain "[B" (some 0) with kind := .array 6 .byte, interfaces := #[4, 5], accessFlags := 1041 }

/-- the primitive int -/
def k8 : Class := { plain "int" none with kind := .primitive 'I', accessFlags := 0x411 }
/-- [I -/
def k9 : Class := { plain "[I" (some 0) with kind := .array 8 .int, interfaces := #[4, 5], accessFlags := 1041 }

def heap : Heap := #[]
def classes : Array Class := #[k0, k1, k2, k3, k4, k5, k6, k7, k8, k9]
def interned : List (Array UInt16 × Addr) := []
def slotsUsed : Nat := 0
def theMethod : MethodId := ⟨1, 1⟩
def args0 : Array Value := #[.int 5, .int 7, .int 9]
def aboutOver (below : List Frame) : State where
  vm := { classes := classes, interned := interned.toArray }
  heap := heap
  slotsUsed := slotsUsed
  threads := #[{ frames := .invoking theMethod args0 :: below }]
def below0 : List Frame := [.native { method := ⟨0, 0⟩, args := #[] }]
def about1 : State := aboutOver below0
def p0 : Program := .bare "" "" ""
def e0 : Env := launch0.env 0 0 0
theorem w_frames : about1.frames = Frame.invoking theMethod args0 :: below0 := rfl
set_option maxRecDepth 65536 in
theorem w_args : argsFit about1.vm theMethod args0 = true := by decide +kernel
set_option maxRecDepth 65536 in
theorem w_heap : heapFits about1 = true := by decide +kernel
set_option maxRecDepth 65536 in
theorem w_runnable : about1.curStatus? = some .runnable := by decide +kernel
set_option maxRecDepth 65536 in
theorem w_alone : about1.alone = true := by decide +kernel
set_option maxRecDepth 65536 in
theorem w_named : about1.methodNamed? x = some theMethod := by decide +kernel
set_option maxRecDepth 65536 in
theorem w_hears : about1.hears theMethod below0 = true := by decide +kernel
set_option maxRecDepth 65536 in
theorem w_ripe : about1.ripe theMethod args0 below0 = true := by decide +kernel
theorem w_running : about1.status = .running := rfl
set_option maxRecDepth 65536 in
theorem w_room : about1.hasRoom e0.platform room_1 = true :=
  launch0.hasRoom_least _ room_1 (by decide +kernel) (by decide +kernel) (by decide +kernel) (by decide +kernel) (by decide +kernel) (by decide +kernel)
theorem allAtoms_all (ts : List Jvm.Cond) (a : Array Jvm.Value) (st : Jvm.State) : (allAtoms ts).before a st = ts.all (fun c => c.before a st) := by
  induction ts with
  | nil => rfl
  | cons c t ih =>
    show (Jvm.Cond.and c (allAtoms t)).before a st = _
    rw [Jvm.Cond.before_and, ih, List.all_cons]
def words1 : List Jvm.Cond := Jvm.Cond.code x code maxLocals ret :: tables_1
/-- a 'code' word, met by the world's own term for the bytes: nothing is compared byte by byte -/
theorem code_word {y : MethodName} {bytes : ByteArray} {mx : Nat} {rt : Option FieldType} {a : Array Value} {s : State} {m : MethodId} {meth : Method} {c : Code} (h1 : s.methodNamed? y = some m) (h2 : s.vm.method? m = some meth) (h3 : meth.code = some c) (h4 : c.code = bytes)
    (h5 : (c.maxLocals == mx && c.exceptionTable.isEmpty && decide (c.maxStack ≤ mostOperands) && decide (meth.sig.returnType = rt) && !meth.locks && decide (parseMethodDescriptor y.desc = some meth.sig)) = true) : (Jvm.Cond.code y bytes mx rt).before a s = true := by
  simp only [Bool.and_eq_true, beq_iff_eq, Bool.not_eq_true', decide_eq_true_eq] at h5
  obtain ⟨⟨⟨⟨⟨g1, g2⟩, g3⟩, g4⟩, g5⟩, g6⟩ := h5
  simp [Cond.before, Cond.holds, Cond.value, h1, h2, h3, h4, g1, g2, g3, g4, g5, g6]
def isCode : Jvm.Cond → Bool
  | .code _ _ _ _ => true
  | _ => false
theorem all_split {L : List Jvm.Cond} {P : Jvm.Cond → Bool} (h1 : L.all (fun c => isCode c || P c) = true) (h2 : ∀ c ∈ L.filter isCode, P c = true) : L.all P = true := by
  refine List.all_eq_true.mpr fun c hc => ?_
  have h := List.all_eq_true.mp h1 c hc
  rcases Bool.eq_false_or_eq_true (isCode c) with hi | hi
  · exact h2 c (List.mem_filter.mpr ⟨hc, hi⟩)
  · simpa [hi] using h
set_option maxRecDepth 65536 in
theorem w_c0 : (Jvm.Cond.code x code maxLocals ret).before args0 about1 = true := code_word (m := ⟨1, 1⟩) (meth := k1m1) (c := k1c1) (by decide +kernel) rfl rfl rfl (by decide +kernel)
set_option maxRecDepth 65536 in
theorem w_c1 : (Jvm.Cond.code ({ cls := "com/example/colla/colla/wire/Frame", name := "isValidSize", desc := "(I)Z" } : Jvm.MethodName) prog_48_method_2_code (1 : Nat) (Option.some Jvm.ClassFile.FieldType.boolean)).before args0 about1 = true := code_word (m := ⟨2, 1⟩) (meth := k2m1) (c := k2c1) (by decide +kernel) rfl rfl rfl (by decide +kernel)
set_option maxRecDepth 65536 in
theorem w_c2 : (Jvm.Cond.code ({ cls := "java/lang/Math", name := "min", desc := "(II)I" } : Jvm.MethodName) jdk_29_method_69_code (2 : Nat) (Option.some Jvm.ClassFile.FieldType.int)).before args0 about1 = true := code_word (m := ⟨3, 2⟩) (meth := k3m2) (c := k3c2) (by decide +kernel) rfl rfl rfl (by decide +kernel)
set_option maxRecDepth 65536 in
theorem w_c3 : (Jvm.Cond.code ({ cls := "java/lang/Math", name := "max", desc := "(II)I" } : Jvm.MethodName) jdk_29_method_65_code (2 : Nat) (Option.some Jvm.ClassFile.FieldType.int)).before args0 about1 = true := code_word (m := ⟨3, 1⟩) (meth := k3m1) (c := k3c1) (by decide +kernel) rfl rfl rfl (by decide +kernel)
def codes1 : List Jvm.Cond := [Jvm.Cond.code x code maxLocals ret, Jvm.Cond.code ({ cls := "com/example/colla/colla/wire/Frame", name := "isValidSize", desc := "(I)Z" } : Jvm.MethodName) prog_48_method_2_code (1 : Nat) (Option.some Jvm.ClassFile.FieldType.boolean), Jvm.Cond.code ({ cls := "java/lang/Math", name := "min", desc := "(II)I" } : Jvm.MethodName) jdk_29_method_69_code (2 : Nat) (Option.some Jvm.ClassFile.FieldType.int), Jvm.Cond.code ({ cls := "java/lang/Math", name := "max", desc := "(II)I" } : Jvm.MethodName) jdk_29_method_65_code (2 : Nat) (Option.some Jvm.ClassFile.FieldType.int)]
set_option maxRecDepth 65536 in
theorem codes_eq : words1.filter isCode = codes1 := rfl
theorem w_codes : ∀ c ∈ words1.filter isCode, c.before args0 about1 = true := by
  rw [codes_eq]
  intro c hc
  simp only [codes1, List.mem_cons, List.not_mem_nil, or_false] at hc
  rcases hc with rfl | rfl | rfl | rfl
  · exact w_c0
  · exact w_c1
  · exact w_c2
  · exact w_c3
set_option maxRecDepth 65536 in
theorem w_t1 : words1.all (fun c => isCode c || c.before args0 about1) = true := by decide +kernel
theorem w_tables : (allAtoms (Jvm.Cond.code x code maxLocals ret :: tables_1)).before args0 about1 = true := by
  rw [allAtoms_all]
  show words1.all (fun c => c.before args0 about1) = true
  refine all_split ?_ w_codes
  rw [w_t1]
set_option maxRecDepth 65536 in
theorem w_case : (Jvm.Cond.and given_1 narrow_1).before args0 about1 = true := by decide +kernel
theorem w_applies : (headSpec (Jvm.Cond.code x code maxLocals ret :: tables_1) room_1).applies x e0.platform about1 = true :=
  (Spec.applies_iff w_frames).mpr ⟨w_running, w_runnable, w_alone, w_named, w_hears, w_ripe, w_room, w_tables⟩
theorem atStart : AtStart classFile x code maxLocals ret World_1 tables_1 room_1 Calls_1 rest_1 Pre_1 launch0 p0 e0 about1 theMethod args0 below0 :=
  ⟨lists_1, trivial, launch0.admits_env _ _ _, launch0.least_env, fairChoices_fair.cas, fairChoices_fair.clock, w_frames, w_args, w_heap, w_applies, trivial, trivial, w_case⟩
end start1
theorem witness_1 : WitnessClaimed_1 := ⟨start1.p0, start1.e0, start1.about1, start1.theMethod, start1.args0, start1.below0, start1.atStart⟩
end Jvm.Pilot.@@N@@
