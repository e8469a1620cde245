import JvmDerived
import JvmDerived.Pilot.@@N@@Statement
import JvmDerived.Pilot.@@N@@Code
set_option linter.unusedVariables false
set_option linter.unusedSimpArgs false
namespace Jvm.Pilot.@@N@@
open Jvm Jvm.ClassFile Sem Op Lib Jvm.Free Jvm.Stand Jvm.LawKit Jvm.RoadKit Bundle Jvm.Pilot.@@N@@.Jvm.D
/-! own laws: the run from a state to the return, in continuation form -/
section OwnG
variable {p : Program} {l : Launch} {e : Env} {R : Room} {s : State} {m : MethodId} {args : Array Value} {below : List Frame} {meth : Method} {c : Code} {T : State} {locs : List Loc} {cells slots : Nat} {Z : State} {a0 : Array Value} {h : Heap} {Q : Option Value → Heap → List Loc → Prop} {ck sk : Nat}
def own_G (p : Program) (e : Env) (below : List Frame) (s : State) (Q : Option Value → Heap → List Loc → Prop) (ck sk : Nat) (U : State) : Prop :=
  ∃ s₂ o, Steps p.tables e below U s₂ ∧ s₂.status = .running ∧ Ended s₂ below o ∧ ∃ v L, o = .returned v ∧ Q v s₂.heap L ∧ FrameEnd s o s₂ L ck sk
theorem own_via {U U' : State} (k : ∀ t, Steps p.tables e below U' t → Steps p.tables e below U t) (g : own_G p e below s Q ck sk U') : own_G p e below s Q ck sk U := by
  obtain ⟨s2, o, h1, r⟩ := g
  exact ⟨s2, o, k _ h1, r⟩
theorem own_mono {Q' : Option Value → Heap → List Loc → Prop} {U : State} (k : ∀ v h L, Q v h L → Q' v h L) (g : own_G p e below s Q ck sk U) : own_G p e below s Q' ck sk U := by
  obtain ⟨s2, o, h1, h2, h3, v, L, h4, h5, h6⟩ := g
  exact ⟨s2, o, h1, h2, h3, v, L, h4, k _ _ _ h5, h6⟩
theorem own_ret (X : Stand p l e R s m args below meth c T locs cells slots) {v : Option Value} (hv : meth.sig.returnType = none → v = none) (hlk : meth.locks = false) {f : JFrame}
    (st : ∀ fs, (∀ (f : JFrame) (acts : List Action), f.method = m → f.locked = none → f.entered = [] → (doReturn e (T.setTop f) acts v).1 = T.setFrames fs) → Steps p.tables e below (T.setTop f) (T.setFrames fs))
    (hQ : Q v T.heap locs) (hc : cells ≤ ck) (hs : slots ≤ sk) : own_G p e below s Q ck sk (T.setTop f) := by
  obtain ⟨fs, hr, hrun, hended, hW, hsame⟩ := X.leave (v := v) hv hlk
  exact ⟨_, _, st fs hr, hrun, hended, _, _, rfl, hQ, ⟨_, rfl⟩, hW, hsame.mono hc hs⟩
theorem own_callS (X : Stand p l e R s m args below meth c T locs cells slots) (hx : p.tables.exec = Jvm.exec) (hZ : Z.Warmed39 s.vm) {own : String} {index : Nat} {y : MethodName} {bytes : ByteArray} {maxL : Nat} {ret : Option FieldType} {rm : Room} {as' : Array Value} {W : Nat}
    (hown : s.vm.findClass own = some m.cls) (w1 : (Jvm.Cond.methodLink own index y).before a0 Z = true) (w2 : (Jvm.Cond.static y).before a0 Z = true) (w3 : (Jvm.Cond.initialized y.cls).before a0 Z = true) (w4 : (Jvm.Cond.code y bytes maxL ret).before a0 Z = true)
    (hy : y.cls ≠ "java/lang/invoke/MethodHandle" ∧ y.cls ≠ "java/lang/invoke/VarHandle")
    (hM : MetFree l y (head1 [Jvm.Cond.code y bytes maxL ret] rm) (fun a U => a = as' ∧ Z.Warmed39 U.vm ∧ U.heap = h) (fun _ _ _ _ _ => True) (fun _ U o U' => ∃ v L, o = .returned v ∧ Q v U'.heap L ∧ FrameEnd U o U' L rm.cells rm.slots))
    (hf : rm.frames + 1 ≤ R.frames) (hl : W + (maxL + 11) + rm.locals ≤ R.locals) (eT : T.heap = h)
    {g : JFrame} (hg : g.method = m) (hsize : g.locals.size = c.maxLocals) {argsL rest : List Value} (has : argsL.toArray = as') (hlen : ∀ sig, parseMethodDescriptor y.desc = some sig → argsL.length = sig.parameters.length)
    (hstack : g.stack = argsL.reverse ++ rest) (hW : 2 * g.monitorRoom + (rest.map fun v => v.category).sum ≤ W) (hdg : decode c.code g.pc = .ok (.invokestatic index, 3))
    (hcells : cells + rm.cells ≤ R.cells) (hslots : slots + rm.slots ≤ R.slots) :
    ∃ v T' L', Stand p l e R s m args below meth c T' (locs ++ L') (cells + rm.cells) (slots + rm.slots) ∧ Q v T'.heap L' ∧ ∀ t, Steps p.tables e below (T'.setTop { g with pc := g.pc + 3, stack := v.toList ++ rest }) t → Steps p.tables e below (T.setTop g) t := by
  obtain ⟨v, vm1, ⟨T', L', k', n'⟩, -, X', ⟨Lc, hQ, q1, q2, q3⟩, st⟩ := Jvm.LawKit.callS X hx hown (mvT hZ w1) (mvT hZ w2) (mvT hZ w3) (mvT hZ w4) hy (backOf (W := W) hM hZ w4 w3 hf hl) hg hsize hlen hstack hW hdg (fun _ _ => ⟨has, eT, hcells, hslots⟩)
  dsimp only [Pt.U, Pt.locs, Pt.cells, Pt.slots] at X' q1 q2 q3 st hQ
  subst q1 q2 q3
  exact ⟨v, T', Lc, X', hQ, st⟩
theorem own_callI (X : Stand p l e R s m args below meth c T locs cells slots) (hx : p.tables.exec = Jvm.exec) (hZ : Z.Warmed39 s.vm) {own : String} {index : Nat} {y : MethodName} (hy1 : y.name = "<init>") {bytes : ByteArray} {maxL : Nat} {rm : Room} {as' : Array Value} {W : Nat}
    (hown : s.vm.findClass own = some m.cls) (w1 : (Jvm.Cond.methodLink own index y).before a0 Z = true) (w2 : (Jvm.Cond.instanceMethod y).before a0 Z = true) (w3 : (Jvm.Cond.initialized y.cls).before a0 Z = true) (w4 : (Jvm.Cond.code y bytes maxL none).before a0 Z = true)
    (hy : y.cls ≠ "java/lang/invoke/MethodHandle" ∧ y.cls ≠ "java/lang/invoke/VarHandle")
    (hM : MetFree l y (head1 [Jvm.Cond.code y bytes maxL none] rm) (fun a U => a = as' ∧ Z.Warmed39 U.vm ∧ U.heap = h) (fun _ _ _ _ _ => True) (fun _ U o U' => ∃ v L, o = .returned v ∧ Q v U'.heap L ∧ FrameEnd U o U' L rm.cells rm.slots))
    (hf : rm.frames + 1 ≤ R.frames) (hl : W + (maxL + 11) + rm.locals ≤ R.locals) (eT : T.heap = h)
    {g : JFrame} (hg : g.method = m) (hsize : g.locals.size = c.maxLocals) {a : Addr} {argsL rest : List Value} (has : (.ref a :: argsL).toArray = as') (hlen : ∀ sig, parseMethodDescriptor y.desc = some sig → argsL.length = sig.parameters.length)
    (hstack : g.stack = argsL.reverse ++ .ref a :: rest) (hW : 2 * g.monitorRoom + (rest.map fun v => v.category).sum ≤ W) (hdg : decode c.code g.pc = .ok (.invokespecial index, 3))
    (hcells : cells + rm.cells ≤ R.cells) (hslots : slots + rm.slots ≤ R.slots) :
    ∃ v T' L', Stand p l e R s m args below meth c T' (locs ++ L') (cells + rm.cells) (slots + rm.slots) ∧ Q v T'.heap L' ∧ ∀ t, Steps p.tables e below (T'.setTop { g with pc := g.pc + 3, stack := v.toList ++ rest }) t → Steps p.tables e below (T.setTop g) t := by
  obtain ⟨v, vm1, ⟨T', L', k', n'⟩, -, X', ⟨Lc, hQ, q1, q2, q3⟩, st⟩ := X.specialBack hx hy1 hown (mvT hZ w1) (mvT hZ w2) (mvT hZ w4) hy (backOf (W := W) hM hZ w4 w3 hf hl) hg hsize (Steps.refl _) hlen hstack hW hdg (fun _ _ => ⟨has, eT, hcells, hslots⟩)
  dsimp only [Pt.U, Pt.locs, Pt.cells, Pt.slots] at X' q1 q2 q3 st hQ
  subst q1 q2 q3
  exact ⟨v, T', Lc, X', hQ, fun t k => st.trans k⟩
theorem own_callV (X : Stand p l e R s m args below meth c T locs cells slots) (hx : p.tables.exec = Jvm.exec) (hZ : Z.Warmed39 s.vm) {own : String} {index : Nat} {y : MethodName} {bytes : ByteArray} {maxL : Nat} {ret : Option FieldType} {rm : Room} {as' : Array Value} {W : Nat} {C : String}
    (hown : s.vm.findClass own = some m.cls) (w1 : (Jvm.Cond.methodLink own index y).before a0 Z = true) (w2 : (Jvm.Cond.declares y).before a0 Z = true) (w5 : (Jvm.Cond.selects C y y).before a0 Z = true) (w6 : (Jvm.Cond.instanceMethod y).before a0 Z = true) (w3 : (Jvm.Cond.initialized y.cls).before a0 Z = true) (w4 : (Jvm.Cond.code y bytes maxL ret).before a0 Z = true)
    (hy : y.cls ≠ "java/lang/invoke/MethodHandle" ∧ y.cls ≠ "java/lang/invoke/VarHandle")
    (hM : MetFree l y (head1 [Jvm.Cond.code y bytes maxL ret] rm) (fun a U => a = as' ∧ Z.Warmed39 U.vm ∧ U.heap = h) (fun _ _ _ _ _ => True) (fun _ U o U' => ∃ v L, o = .returned v ∧ Q v U'.heap L ∧ FrameEnd U o U' L rm.cells rm.slots))
    (hf : rm.frames + 1 ≤ R.frames) (hl : W + (maxL + 11) + rm.locals ≤ R.locals) (eT : T.heap = h) {b : Addr} (E : Exa Z h b C)
    {g : JFrame} (hg : g.method = m) (hsize : g.locals.size = c.maxLocals) {argsL rest : List Value} (has : (.ref b :: argsL).toArray = as') (hlen : ∀ sig, parseMethodDescriptor y.desc = some sig → argsL.length = sig.parameters.length)
    (hstack : g.stack = argsL.reverse ++ .ref b :: rest) (hW : 2 * g.monitorRoom + (rest.map fun v => v.category).sum ≤ W) (hdg : decode c.code g.pc = .ok (.invokevirtual index, 3))
    (hcells : cells + rm.cells ≤ R.cells) (hslots : slots + rm.slots ≤ R.slots) :
    ∃ v T' L', Stand p l e R s m args below meth c T' (locs ++ L') (cells + rm.cells) (slots + rm.slots) ∧ Q v T'.heap L' ∧ ∀ t, Steps p.tables e below (T'.setTop { g with pc := g.pc + 3, stack := v.toList ++ rest }) t → Steps p.tables e below (T.setTop g) t := by
  obtain ⟨cq, kq, qa, qb, qc⟩ := isOf hZ eT E
  obtain ⟨v, vm1, ⟨T', L', k', n'⟩, -, X', ⟨Lc, hQ, q1, q2, q3⟩, st⟩ := X.virtualBack hx hown (mvT hZ w1) (mvT hZ w2) (notFace_of_selects (args := #[]) (mvT hZ w5)) (mvT hZ w5) (mvT hZ w6) hy (backOf (W := W) hM hZ w4 w3 hf hl) qa qc hg hsize (Steps.refl _) hlen hstack hW hdg (fun _ _ => ⟨has, eT, hcells, hslots⟩)
  dsimp only [Pt.U, Pt.locs, Pt.cells, Pt.slots] at X' q1 q2 q3 st hQ
  subst q1 q2 q3
  exact ⟨v, T', Lc, X', hQ, fun t k => st.trans k⟩
end OwnG
theorem own_jlt {x y : Int64} (h : x < y) : ifCond.holds .lt (lcmpW x y) = true ∧ ifCond.holds .ge (lcmpW x y) = false := by
  have q := (lw_lt x y).mpr h
  exact ⟨(if0 _ _).trans (tlt q).1, (if0 _ _).trans (tlt q).2.1⟩
theorem own_jnlt {x y : Int64} (h : ¬ x < y) : ifCond.holds .lt (lcmpW x y) = false ∧ ifCond.holds .ge (lcmpW x y) = true := by
  have q := fun z => h ((lw_lt x y).mp z)
  exact ⟨(if0 _ _).trans (flt q).1, (if0 _ _).trans (flt q).2.1⟩
theorem own_jgt {x y : Int64} (h : y < x) : ifCond.holds .gt (lcmpW x y) = true ∧ ifCond.holds .le (lcmpW x y) = false := by
  have q := (lw_gt x y).mpr h
  exact ⟨(if0 _ _).trans (tlt q).2.2.1, (if0 _ _).trans (tlt q).2.2.2⟩
theorem own_jngt {x y : Int64} (h : ¬ y < x) : ifCond.holds .gt (lcmpW x y) = false ∧ ifCond.holds .le (lcmpW x y) = true := by
  have q := fun z => h ((lw_gt x y).mp z)
  exact ⟨(if0 _ _).trans (flt q).2.2.1, (if0 _ _).trans (flt q).2.2.2⟩
theorem own_jeq {x y : Int64} (h : x = y) : ifCond.holds .eq (lcmpW x y) = true ∧ ifCond.holds .ne (lcmpW x y) = false := by
  have q := (lw_eq x y).mpr h
  exact ⟨(if0 _ _).trans (teq q).1, (if0 _ _).trans (teq q).2⟩
theorem own_jne {x y : Int64} (h : ¬ x = y) : ifCond.holds .eq (lcmpW x y) = false ∧ ifCond.holds .ne (lcmpW x y) = true := by
  have q := fun z => h ((lw_eq x y).mp z)
  exact ⟨(if0 _ _).trans (feq q).1, (if0 _ _).trans (feq q).2⟩
theorem own_sta_keep {Z : State} {h h' : Heap} {C n d : String} {v : Value} {ws : List Addr} (F : Sta Z h C n d v) (K : Keep h h' ws) (q : ∀ x ∈ ws, ∃ cell : Cell, h[x]? = some cell ∧ cell.vm.isStatics = false) : Sta Z h' C n d v := by
  obtain ⟨cf, i, k, f, st, cell, h1, h2, h3, h4, h5, h6, h7⟩ := F
  refine ⟨cf, i, k, f, st, cell, h1, h2, h3, h4, K.2.1 st cell h5 (fun hm => ?_), h6, h7⟩
  obtain ⟨c', e1, e2⟩ := q st hm
  cases h5.symm.trans e1
  rw [e2] at h6; cases h6
theorem own_exa_ns {Z : State} {h : Heap} {a : Addr} {C : String} (E : Exa Z h a C) : ∃ cell : Cell, h[a]? = some cell ∧ cell.vm.isStatics = false := by
  obtain ⟨cell, k, h1, -, -, h4, -⟩ := E
  exact ⟨cell, h1, h4⟩
theorem own_arv_ns {Z : State} {h : Heap} {a : Addr} {k : ClassId} {ty : FieldType} {z : Int32} {vs : List Value} {dv : Value} (F : Arv Z h a k ty z vs dv) : ∃ cell : Cell, h[a]? = some cell ∧ cell.vm.isStatics = false := by
  obtain ⟨c, A, -⟩ := F
  exact ⟨c, A.1, A.plain⟩
theorem own_seg {tb : Tables} {e : Env} {below : List Frame} {U U' t : State} (a : Steps tb e below U' t → Steps tb e below U t) (b : Steps tb e below U' t) : Steps tb e below U t := a b
theorem own_NSroot {Z : State} {a0 : Array Value} {O K : String} {n : Nat} (w : (Jvm.Cond.noSuperclass O).before a0 Z = true) (wk : (Jvm.Cond.instantiable K n).before a0 Z = true) (hn : O ≠ K) : NS Z O K := by
  obtain ⟨c, k, h1, h2, h3, -, -⟩ := Cond.noSuperclass_spec w
  obtain ⟨t, kt, g1, -⟩ := Cond.instantiable_spec wk
  refine ⟨c, t, h1, g1, fun fuel => ?_⟩
  have ne := ids_ne h1 g1 hn
  cases fuel <;> simp [Vm.isSubclassAux, ne, h2, h3]
theorem own_NSno {Z : State} {a0 : Array Value} {C S K : String} {n : Nat} (w : (Jvm.Cond.superclass C S).before a0 Z = true) (wk : (Jvm.Cond.instantiable K n).before a0 Z = true) (nn : NS Z C K) (hn : C ≠ K) : ∃ c t, Z.vm.findClass C = some c ∧ Z.vm.findClass K = some t ∧ Z.vm.assignable c t = false := by
  obtain ⟨c, t, h0, g0, n3⟩ := nn
  obtain ⟨p, k, kp, h1, h2, h3, h4, h5, -, h7⟩ := Cond.superclass_spec h0 w
  obtain ⟨t', kt, g1, g2, g3, g4, -⟩ := Cond.instantiable_spec wk
  cases g0.symm.trans g1
  have g7 : kt.isInterface = false := by cases q : kt.isInterface <;> simp [q] at g4 ⊢
  have ne := ids_ne h0 g0 hn
  refine ⟨c, t, h0, g0, ?_⟩
  show Z.vm.assignableAux (255 + 1) c t = false
  simp [Vm.assignableAux, ne, h2, g2, h5, g3, g7, Vm.isSubclass, n3]
theorem own_eqI {args : Array Value} {s : State} {t : Term} {C n d : String} {a : Addr} {k : Int32} (ht : t.eval args s none [] s = some (.ref a)) (h : (Jvm.Cond.eq (.field t C n d) (.int k)).value args s none s [] = some true) : Fld s s.heap a C n d (.int k) := by
  obtain ⟨x, y, hx, hy, K1, K2⟩ := cmp_v (Or.inl h)
  have e : y = .int k := Option.some.inj (hy.symm.trans (Term.int_eval k))
  subst e
  obtain ⟨z, rfl⟩ := K2
  have q := gotT (Cond.eq_ints hx hy) h
  subst q
  exact Fld.start ((fld_at ht).symm.trans hx)

def Qif (Z : State) (o : Addr) (f1 x1 : Int32) (h0 : Heap) (n0 : Nat) (v : Option Value) (h : Heap) (L : List Loc) : Prop := v = some (.int (if x1 < f1 then (0 : Int32) else (1 : Int32))) ∧ Fr n0 L ∧ h = h0
theorem d_prog_33_method_9_0 : decode prog_33_method_9_code 0 = .ok (.iload_n 1, 1) := by decide +kernel
theorem d_prog_33_method_9_1 : decode prog_33_method_9_code 1 = .ok (.aload_n 0, 1) := by decide +kernel
theorem d_prog_33_method_9_2 : decode prog_33_method_9_code 2 = .ok (.getfield 54, 3) := by decide +kernel
theorem d_prog_33_method_9_5 : decode prog_33_method_9_code 5 = .ok (.if_icmp .lt 7, 3) := by decide +kernel
theorem d_prog_33_method_9_12 : decode prog_33_method_9_code 12 = .ok (.iconst 0, 1) := by decide +kernel
theorem d_prog_33_method_9_13 : decode prog_33_method_9_code 13 = .ok (.ireturn, 1) := by decide +kernel
theorem d_prog_33_method_9_8 : decode prog_33_method_9_code 8 = .ok (.iconst 1, 1) := by decide +kernel
theorem d_prog_33_method_9_9 : decode prog_33_method_9_code 9 = .ok (.goto 4, 3) := by decide +kernel
theorem ef_rm_Qif (m : MethodId) (x0 : Addr) (x1 : Int32) : entryFrame m #[(.ref x0), (.int x1)] 2 = mkF m 0 #[.val (.ref x0), .val (.int x1)] [] := by first | (simp [entryFrame, mkF, argsToLocals, Value.category]; done) | rfl
theorem pn_com_example_colla_colla_wire_ApiKey : plainName "com/example/colla/colla/wire/ApiKey" = true := by first | (simp [plainName, overriddenIn]; done) | decide +kernel
set_option maxRecDepth 65536 in
set_option maxHeartbeats 40000000 in
theorem rm_Qif (l : Launch) (Z : State) (a0 : Array Value) (hw : ∀ d ∈ tables_1, d.before a0 Z = true) (ws : List Jvm.Cond) (o : Addr) (f1 x1 : Int32) (h0 : Heap) (n0 : Nat) (Z0 : n0 ≤ h0.size) (Ff : Fld Z h0 o "com/example/colla/colla/wire/ApiKey" "firstFlexibleVersion" "S" (.int f1)) :
    MetFree l (⟨"com/example/colla/colla/wire/ApiKey", "isFlexible", "(S)Z"⟩ : MethodName) (head1 (Jvm.Cond.code (⟨"com/example/colla/colla/wire/ApiKey", "isFlexible", "(S)Z"⟩ : MethodName) prog_33_method_9_code 2 (some .boolean) :: ws) ({ frames := 0, cells := 0, slots := 0, locals := 0 } : Room)) (fun aa_ UU_ => aa_ = #[(.ref o), (.int x1)] ∧ Z.Warmed39 UU_.vm ∧ UU_.heap = h0) (fun _ _ _ _ _ => True) (fun _ UU_ oo_ VV_ => ∃ vv_ LL_, oo_ = .returned vv_ ∧ Qif Z o f1 x1 h0 n0 vv_ VV_.heap LL_ ∧ FrameEnd UU_ oo_ VV_ LL_ ({ frames := 0, cells := 0, slots := 0, locals := 0 } : Room).cells ({ frames := 0, cells := 0, slots := 0, locals := 0 } : Room).slots) := by
  refine MetFree.of_bodySF (plainFor_of_name pn_com_example_colla_colla_wire_ApiKey) hisR ?_
  intro p e s m args below meth c s₁ Bd hml0 hP hK
  obtain ⟨rfl, hZ, hh⟩ := hP
  have hx := Bd.exec
  have hby := Bd.bytes
  have hml : c.maxLocals = 2 := hml0
  have hown : s.vm.findClass "com/example/colla/colla/wire/ApiKey" = some m.cls := findClass_of_methodNamed Bd.named
  have hnm := (name_of_methodNamed Bd.named Bd.method).1
  have hlk : meth.locks = false := Bd.notSynchronized
  have X0 : Stand p l e ({ frames := 0, cells := 0, slots := 0, locals := 0 } : Room) s m #[(.ref o), (.int x1)] below meth c s₁ [] 0 0 := Stand.of_body Bd
  have e0 : s₁.heap = h0 := by rw [← hh, Bd.state]; rfl
  have N0 := Fr.nil n0
  have K0 := Keep.refl h0 []
  show own_G p e below s (Qif Z o f1 x1 h0 n0) _ _ (s₁.setTop (entryFrame m #[(.ref o), (.int x1)] 2))
  rw [ef_rm_Qif m o x1]
  refine own_via (U' := s₁.setTop (mkF m 1 #[.val (.ref o), .val (.int x1)] [(.int x1)])) (fun t k => XS.iloadN X0.here hx rfl (hb hby d_prog_33_method_9_0) rfl k) ?_
  refine own_via (U' := s₁.setTop (mkF m 2 #[.val (.ref o), .val (.int x1)] [(.ref o), (.int x1)])) (fun t k => XS.aloadN X0.here hx rfl (hb hby d_prog_33_method_9_1) rfl rfl k) ?_
  obtain ⟨T1, X1, e1, st1⟩ := getF (host := "") X0 hx hZ hown (Or.inl (hw _ (List.mem_of_getElem? (i := 9) rfl))) Via.refl e0 Ff (g := (mkF m 2 #[.val (.ref o), .val (.int x1)] [(.ref o), (.int x1)])) rfl rfl (hb hby d_prog_33_method_9_2)
  refine own_via (U' := T1.setTop (mkF m 5 #[.val (.ref o), .val (.int x1)] [(.int f1), (.int x1)])) (fun t k => st1 t k) ?_
  by_cases hc2 : x1 < f1
  case pos =>
    refine own_via (U' := T1.setTop (mkF m 12 #[.val (.ref o), .val (.int x1)] [])) (fun t k => XS.icmpYes X1.here hx rfl (pc0 := 5) (pc' := 12) rfl (hb hby d_prog_33_method_9_5) rfl (tlt hc2).1 (by decide) (by decide) k) ?_
    refine own_via (U' := T1.setTop (mkF m 13 #[.val (.ref o), .val (.int x1)] [(.int (0 : Int32))])) (fun t k => XS.iconst X1.here hx rfl (hb hby d_prog_33_method_9_12) k) ?_
    exact own_ret X1 (v := some (.int (0 : Int32))) (fun h => by rw [Bd.returns] at h; cases h) hlk (fun fs hr => retN X1 hx (t := .boolean) Bd.returns (by simp) (hb hby d_prog_33_method_9_13) hr) (by rw [e1]; exact ⟨by first | rfl | (simp only [if_pos hc2]), N0, rfl⟩) (by decide) (by decide)
  case neg =>
    refine own_via (U' := T1.setTop (mkF m 8 #[.val (.ref o), .val (.int x1)] [])) (fun t k => XS.icmpNo X1.here hx rfl (hb hby d_prog_33_method_9_5) rfl (flt hc2).1 k) ?_
    refine own_via (U' := T1.setTop (mkF m 9 #[.val (.ref o), .val (.int x1)] [(.int (1 : Int32))])) (fun t k => XS.iconst X1.here hx rfl (hb hby d_prog_33_method_9_8) k) ?_
    refine own_via (U' := T1.setTop (mkF m 13 #[.val (.ref o), .val (.int x1)] [(.int (1 : Int32))])) (fun t k => XS.goto X1.here hx rfl (pc0 := 9) (pc' := 13) rfl (hb hby d_prog_33_method_9_9) (by decide) (by decide) k) ?_
    exact own_ret X1 (v := some (.int (1 : Int32))) (fun h => by rw [Bd.returns] at h; cases h) hlk (fun fs hr => retN X1 hx (t := .boolean) Bd.returns (by simp) (hb hby d_prog_33_method_9_13) hr) (by rw [e1]; exact ⟨by first | rfl | (simp only [if_neg hc2]), N0, rfl⟩) (by decide) (by decide)
def Q0 (Z : State) (x1 x2 : Int32) (s0_ s1_ s2_ s3_ s4_ s5_ s6_ : Addr) (h0 : Heap) (n0 : Nat) (v : Option Value) (h : Heap) (L : List Loc) : Prop := v = some (.int 1) ∧ Fr n0 L
theorem pd_S__Z : parseMethodDescriptor "(S)Z" = some ⟨[.short], some .boolean⟩ := by decide +kernel
theorem ef_rm_Q0 (m : MethodId) (x0 : Int32) (x1 : Int32) : entryFrame m #[(.int x0), (.int x1)] maxLocals = mkF m 0 #[.val (.int x0), .val (.int x1), .unset, .unset, .unset, .unset, .unset] [] := by first | (simp [entryFrame, mkF, argsToLocals, Value.category, maxLocals]; done) | rfl
theorem pn_com_example_colla_colla_wire_ApiKeyIsFlexiblePinLaw : plainName "com/example/colla/colla/wire/ApiKeyIsFlexiblePinLaw" = true := by first | (simp [plainName, overriddenIn]; done) | decide +kernel
set_option maxRecDepth 65536 in
set_option maxHeartbeats 40000000 in
theorem rm_Q0 (l : Launch) (Z : State) (a0 : Array Value) (hw : ∀ d ∈ tables_1, d.before a0 Z = true) (ws : List Jvm.Cond) (x1 x2 : Int32) (s0_ s1_ s2_ s3_ s4_ s5_ s6_ : Addr) (h0 : Heap) (n0 : Nat) (Z0 : n0 ≤ h0.size) (S0_ : Sta Z h0 "com/example/colla/colla/wire/ApiKey" "METADATA" "Lcom/example/colla/colla/wire/ApiKey;" (.ref s0_)) (E0_ : Exa Z h0 s0_ "com/example/colla/colla/wire/ApiKey") (F0_ : Fld Z h0 s0_ "com/example/colla/colla/wire/ApiKey" "firstFlexibleVersion" "S" (.int (9 : Int32))) (S1_ : Sta Z h0 "com/example/colla/colla/wire/ApiKey" "LIST_GROUPS" "Lcom/example/colla/colla/wire/ApiKey;" (.ref s1_)) (E1_ : Exa Z h0 s1_ "com/example/colla/colla/wire/ApiKey") (F1_ : Fld Z h0 s1_ "com/example/colla/colla/wire/ApiKey" "firstFlexibleVersion" "S" (.int (3 : Int32))) (S2_ : Sta Z h0 "com/example/colla/colla/wire/ApiKey" "OFFSET_FETCH" "Lcom/example/colla/colla/wire/ApiKey;" (.ref s2_)) (E2_ : Exa Z h0 s2_ "com/example/colla/colla/wire/ApiKey") (F2_ : Fld Z h0 s2_ "com/example/colla/colla/wire/ApiKey" "firstFlexibleVersion" "S" (.int (6 : Int32))) (S3_ : Sta Z h0 "com/example/colla/colla/wire/ApiKey" "API_VERSIONS" "Lcom/example/colla/colla/wire/ApiKey;" (.ref s3_)) (E3_ : Exa Z h0 s3_ "com/example/colla/colla/wire/ApiKey") (F3_ : Fld Z h0 s3_ "com/example/colla/colla/wire/ApiKey" "firstFlexibleVersion" "S" (.int (3 : Int32))) (S4_ : Sta Z h0 "com/example/colla/colla/wire/ApiKey" "CONSUMER_GROUP_DESCRIBE" "Lcom/example/colla/colla/wire/ApiKey;" (.ref s4_)) (E4_ : Exa Z h0 s4_ "com/example/colla/colla/wire/ApiKey") (F4_ : Fld Z h0 s4_ "com/example/colla/colla/wire/ApiKey" "firstFlexibleVersion" "S" (.int (0 : Int32))) (S5_ : Sta Z h0 "com/example/colla/colla/wire/ApiKey" "CONSUMER_GROUP_HEARTBEAT" "Lcom/example/colla/colla/wire/ApiKey;" (.ref s5_)) (E5_ : Exa Z h0 s5_ "com/example/colla/colla/wire/ApiKey") (F5_ : Fld Z h0 s5_ "com/example/colla/colla/wire/ApiKey" "firstFlexibleVersion" "S" (.int (0 : Int32))) (S6_ : Sta Z h0 "com/example/colla/colla/wire/ApiKey" "FIND_COORDINATOR" "Lcom/example/colla/colla/wire/ApiKey;" (.ref s6_)) (E6_ : Exa Z h0 s6_ "com/example/colla/colla/wire/ApiKey") (F6_ : Fld Z h0 s6_ "com/example/colla/colla/wire/ApiKey" "firstFlexibleVersion" "S" (.int (3 : Int32))) :
    MetFree l x (head1 (Jvm.Cond.code x code maxLocals ret :: ws) room_1) (fun aa_ UU_ => aa_ = #[(.int x1), (.int x2)] ∧ Z.Warmed39 UU_.vm ∧ UU_.heap = h0) (fun _ _ _ _ _ => True) (fun _ UU_ oo_ VV_ => ∃ vv_ LL_, oo_ = .returned vv_ ∧ Q0 Z x1 x2 s0_ s1_ s2_ s3_ s4_ s5_ s6_ h0 n0 vv_ VV_.heap LL_ ∧ FrameEnd UU_ oo_ VV_ LL_ room_1.cells room_1.slots) := by
  refine MetFree.of_bodySF (plainFor_of_name pn_com_example_colla_colla_wire_ApiKeyIsFlexiblePinLaw) hisR ?_
  intro p e s m args below meth c s₁ Bd hml0 hP hK
  obtain ⟨rfl, hZ, hh⟩ := hP
  have hx := Bd.exec
  have hby := Bd.bytes
  have hml : c.maxLocals = 7 := hml0
  have hown : s.vm.findClass "com/example/colla/colla/wire/ApiKeyIsFlexiblePinLaw" = some m.cls := findClass_of_methodNamed Bd.named
  have hnm := (name_of_methodNamed Bd.named Bd.method).1
  have hlk : meth.locks = false := Bd.notSynchronized
  have X0 : Stand p l e room_1 s m #[(.int x1), (.int x2)] below meth c s₁ [] 0 0 := Stand.of_body Bd
  have e0 : s₁.heap = h0 := by rw [← hh, Bd.state]; rfl
  have N0 := Fr.nil n0
  have K0 := Keep.refl h0 []
  show own_G p e below s (Q0 Z x1 x2 s0_ s1_ s2_ s3_ s4_ s5_ s6_ h0 n0) _ _ (s₁.setTop (entryFrame m #[(.int x1), (.int x2)] maxLocals))
  rw [ef_rm_Q0 m x1 x2]
  refine own_via (U' := s₁.setTop (mkF m 1 #[.val (.int x1), .val (.int x2), .unset, .unset, .unset, .unset, .unset] [(.int x1)])) (fun t k => XS.iloadN X0.here hx rfl (hb hby at_0) rfl k) ?_
  refine own_via (U' := s₁.setTop (mkF m 3 #[.val (.int x1), .val (.int x2), .unset, .unset, .unset, .unset, .unset] [(.int (2147483647 : Int32)), (.int x1)])) (fun t k => X0.ldcInt hx hown (mvT hZ (hw _ (List.mem_of_getElem? (i := 0) rfl))) (g := (mkF m 1 #[.val (.int x1), .val (.int x2), .unset, .unset, .unset, .unset, .unset] [(.int x1)])) rfl (hb hby at_1) _ k) ?_
  refine own_via (U' := s₁.setTop (mkF m 4 #[.val (.int x1), .val (.int x2), .unset, .unset, .unset, .unset, .unset] [(.int (x1 &&& (2147483647 : Int32)))])) (fun t k => XS.iand X0.here hx rfl (hb hby at_3) rfl k) ?_
  refine own_via (U' := s₁.setTop (mkF m 6 #[.val (.int x1), .val (.int x2), .unset, .unset, .unset, .unset, .unset] [(.int (7 : Int32)), (.int (x1 &&& (2147483647 : Int32)))])) (fun t k => XS.bipush X0.here hx rfl (hb hby at_4) k) ?_
  refine own_via (U' := s₁.setTop (mkF m 7 #[.val (.int x1), .val (.int x2), .unset, .unset, .unset, .unset, .unset] [(.int ((x1 &&& (2147483647 : Int32)) % (7 : Int32)))])) (fun t k => iremM X0 hx rfl (hb hby at_6) rfl (by decide) k) ?_
  refine own_via (U' := s₁.setTop (mkF m 8 #[.val (.int x1), .val (.int x2), .val (.int ((x1 &&& (2147483647 : Int32)) % (7 : Int32))), .unset, .unset, .unset, .unset] [])) (fun t k => XS.istoreN X0.here hx rfl (hb hby at_7) rfl (l' := #[.val (.int x1), .val (.int x2), .val (.int ((x1 &&& (2147483647 : Int32)) % (7 : Int32))), .unset, .unset, .unset, .unset]) rfl k) ?_
  generalize ((x1 &&& (2147483647 : Int32)) % (7 : Int32)) = sel
  refine own_via (U' := s₁.setTop (mkF m 9 #[.val (.int x1), .val (.int x2), .val (.int sel), .unset, .unset, .unset, .unset] [(.int sel)])) (fun t k => XS.iloadN X0.here hx rfl (hb hby at_8) rfl k) ?_
  by_cases hc1 : sel = (0 : Int32)
  case pos =>
    refine own_via (U' := s₁.setTop (mkF m 12 #[.val (.int x1), .val (.int x2), .val (.int sel), .unset, .unset, .unset, .unset] [])) (fun t k => XS.ifNo X0.here hx rfl (hb hby at_9) rfl ((if0 _ _).trans (teq hc1).2) k) ?_
    obtain ⟨T2, X2, e2, st2⟩ := getS2 (host := "") X0 hx hZ hown (Or.inl (hw _ (List.mem_of_getElem? (i := 1) rfl))) Via.refl e0 S0_ (g := (mkF m 12 #[.val (.int x1), .val (.int x2), .val (.int sel), .unset, .unset, .unset, .unset] [])) rfl (hb hby at_12)
    refine own_via (U' := T2.setTop (mkF m 15 #[.val (.int x1), .val (.int x2), .val (.int sel), .unset, .unset, .unset, .unset] [(.ref s0_)])) (fun t k => st2 t k) ?_
    refine own_via (U' := T2.setTop (mkF m 16 #[.val (.int x1), .val (.int x2), .val (.int sel), .val (.ref s0_), .unset, .unset, .unset] [])) (fun t k => XS.astoreN X2.here hx rfl (hb hby at_15) rfl rfl (l' := #[.val (.int x1), .val (.int x2), .val (.int sel), .val (.ref s0_), .unset, .unset, .unset]) rfl k) ?_
    refine own_via (U' := T2.setTop (mkF m 18 #[.val (.int x1), .val (.int x2), .val (.int sel), .val (.ref s0_), .unset, .unset, .unset] [(.int (9 : Int32))])) (fun t k => XS.bipush X2.here hx rfl (hb hby at_16) k) ?_
    refine own_via (U' := T2.setTop (mkF m 20 #[.val (.int x1), .val (.int x2), .val (.int sel), .val (.ref s0_), .val (.int (9 : Int32)), .unset, .unset] [])) (fun t k => XS.istore X2.here hx rfl (hb hby at_18) rfl (l' := #[.val (.int x1), .val (.int x2), .val (.int sel), .val (.ref s0_), .val (.int (9 : Int32)), .unset, .unset]) rfl k) ?_
    refine own_via (U' := T2.setTop (mkF m 106 #[.val (.int x1), .val (.int x2), .val (.int sel), .val (.ref s0_), .val (.int (9 : Int32)), .unset, .unset] [])) (fun t k => XS.goto X2.here hx rfl (pc0 := 20) (pc' := 106) rfl (hb hby at_20) (by decide) (by decide) k) ?_
    refine own_via (U' := T2.setTop (mkF m 107 #[.val (.int x1), .val (.int x2), .val (.int sel), .val (.ref s0_), .val (.int (9 : Int32)), .unset, .unset] [(.int x2)])) (fun t k => XS.iloadN X2.here hx rfl (hb hby at_106) rfl k) ?_
    refine own_via (U' := T2.setTop (mkF m 108 #[.val (.int x1), .val (.int x2), .val (.int sel), .val (.ref s0_), .val (.int (9 : Int32)), .unset, .unset] [(.int (x2.toInt16.toInt32))])) (fun t k => XS.i2s X2.here hx rfl (hb hby at_107) rfl k) ?_
    refine own_via (U' := T2.setTop (mkF m 110 #[.val (.int x1), .val (.int x2), .val (.int sel), .val (.ref s0_), .val (.int (9 : Int32)), .val (.int (x2.toInt16.toInt32)), .unset] [])) (fun t k => XS.istore X2.here hx rfl (hb hby at_108) rfl (l' := #[.val (.int x1), .val (.int x2), .val (.int sel), .val (.ref s0_), .val (.int (9 : Int32)), .val (.int (x2.toInt16.toInt32)), .unset]) rfl k) ?_
    generalize (x2.toInt16.toInt32) = ver
    refine own_via (U' := T2.setTop (mkF m 112 #[.val (.int x1), .val (.int x2), .val (.int sel), .val (.ref s0_), .val (.int (9 : Int32)), .val (.int ver), .unset] [(.int ver)])) (fun t k => XS.iload X2.here hx rfl (hb hby at_110) rfl k) ?_
    refine own_via (U' := T2.setTop (mkF m 114 #[.val (.int x1), .val (.int x2), .val (.int sel), .val (.ref s0_), .val (.int (9 : Int32)), .val (.int ver), .unset] [(.int (9 : Int32)), (.int ver)])) (fun t k => XS.iload X2.here hx rfl (hb hby at_112) rfl k) ?_
    by_cases hc3 : ver < (9 : Int32)
    case pos =>
      refine own_via (U' := T2.setTop (mkF m 121 #[.val (.int x1), .val (.int x2), .val (.int sel), .val (.ref s0_), .val (.int (9 : Int32)), .val (.int ver), .unset] [])) (fun t k => XS.icmpYes X2.here hx rfl (pc0 := 114) (pc' := 121) rfl (hb hby at_114) rfl (tlt hc3).1 (by decide) (by decide) k) ?_
      refine own_via (U' := T2.setTop (mkF m 122 #[.val (.int x1), .val (.int x2), .val (.int sel), .val (.ref s0_), .val (.int (9 : Int32)), .val (.int ver), .unset] [(.int (0 : Int32))])) (fun t k => XS.iconst X2.here hx rfl (hb hby at_121) k) ?_
      refine own_via (U' := T2.setTop (mkF m 124 #[.val (.int x1), .val (.int x2), .val (.int sel), .val (.ref s0_), .val (.int (9 : Int32)), .val (.int ver), .val (.int (0 : Int32))] [])) (fun t k => XS.istore X2.here hx rfl (hb hby at_122) rfl (l' := #[.val (.int x1), .val (.int x2), .val (.int sel), .val (.ref s0_), .val (.int (9 : Int32)), .val (.int ver), .val (.int (0 : Int32))]) rfl k) ?_
      refine own_via (U' := T2.setTop (mkF m 125 #[.val (.int x1), .val (.int x2), .val (.int sel), .val (.ref s0_), .val (.int (9 : Int32)), .val (.int ver), .val (.int (0 : Int32))] [(.ref s0_)])) (fun t k => XS.aloadN X2.here hx rfl (hb hby at_124) rfl rfl k) ?_
      refine own_via (U' := T2.setTop (mkF m 127 #[.val (.int x1), .val (.int x2), .val (.int sel), .val (.ref s0_), .val (.int (9 : Int32)), .val (.int ver), .val (.int (0 : Int32))] [(.int ver), (.ref s0_)])) (fun t k => XS.iload X2.here hx rfl (hb hby at_125) rfl k) ?_
      obtain ⟨_, T4, L4, X4, hQ4, st4⟩ := own_callV X2 hx hZ (y := (⟨"com/example/colla/colla/wire/ApiKey", "isFlexible", "(S)Z"⟩ : MethodName)) (W := 0) (C := "com/example/colla/colla/wire/ApiKey") hown (hw _ (List.mem_of_getElem? (i := 4) rfl)) (hw _ (List.mem_of_getElem? (i := 5) rfl)) (hw _ (List.mem_of_getElem? (i := 7) rfl)) (hw _ (List.mem_of_getElem? (i := 6) rfl)) (hw _ (List.mem_of_getElem? (i := 2) rfl)) (hw _ (List.mem_of_getElem? (i := 8) rfl)) (by decide) (rm_Qif l Z a0 hw [] s0_ (9 : Int32) ver h0 n0 Z0 F0_) (by decide) (by decide) e2 E0_ (g := (mkF m 127 #[.val (.int x1), .val (.int x2), .val (.int sel), .val (.ref s0_), .val (.int (9 : Int32)), .val (.int ver), .val (.int (0 : Int32))] [(.int ver), (.ref s0_)])) rfl (by rw [hml]; rfl) (argsL := [(.int ver)]) (rest := []) rfl (lenOf pd_S__Z rfl) rfl (by show 2 * 0 + _ ≤ _; exact Nat.le_of_eq rfl) (hb hby at_127) (by decide) (by decide)
      obtain ⟨rfl, N4q, e4⟩ := hQ4
      have N4 := Fr.app N0 N4q
      refine own_via (U' := T4.setTop (mkF m 130 #[.val (.int x1), .val (.int x2), .val (.int sel), .val (.ref s0_), .val (.int (9 : Int32)), .val (.int ver), .val (.int (0 : Int32))] [(.int (if ver < (9 : Int32) then (0 : Int32) else (1 : Int32)))])) (fun t k => st4 t k) ?_
      refine own_via (U' := T4.setTop (mkF m 132 #[.val (.int x1), .val (.int x2), .val (.int sel), .val (.ref s0_), .val (.int (9 : Int32)), .val (.int ver), .val (.int (0 : Int32))] [(.int (0 : Int32)), (.int (if ver < (9 : Int32) then (0 : Int32) else (1 : Int32)))])) (fun t k => XS.iload X4.here hx rfl (hb hby at_130) rfl k) ?_
      refine own_via (U' := T4.setTop (mkF m 135 #[.val (.int x1), .val (.int x2), .val (.int sel), .val (.ref s0_), .val (.int (9 : Int32)), .val (.int ver), .val (.int (0 : Int32))] [])) (fun t k => XS.icmpNo X4.here hx rfl (hb hby at_132) rfl (teq (if_pos hc3)).2 k) ?_
      refine own_via (U' := T4.setTop (mkF m 136 #[.val (.int x1), .val (.int x2), .val (.int sel), .val (.ref s0_), .val (.int (9 : Int32)), .val (.int ver), .val (.int (0 : Int32))] [(.int (1 : Int32))])) (fun t k => XS.iconst X4.here hx rfl (hb hby at_135) k) ?_
      refine own_via (U' := T4.setTop (mkF m 140 #[.val (.int x1), .val (.int x2), .val (.int sel), .val (.ref s0_), .val (.int (9 : Int32)), .val (.int ver), .val (.int (0 : Int32))] [(.int (1 : Int32))])) (fun t k => XS.goto X4.here hx rfl (pc0 := 136) (pc' := 140) rfl (hb hby at_136) (by decide) (by decide) k) ?_
      exact own_ret X4 (v := some (.int (1 : Int32))) (fun h => by rw [Bd.returns] at h; cases h) hlk (fun fs hr => retN X4 hx (t := .boolean) Bd.returns (by simp) (hb hby at_140) hr) (by rw [e4]; exact ⟨rfl, N4⟩) (by decide) (by decide)
    case neg =>
      refine own_via (U' := T2.setTop (mkF m 117 #[.val (.int x1), .val (.int x2), .val (.int sel), .val (.ref s0_), .val (.int (9 : Int32)), .val (.int ver), .unset] [])) (fun t k => XS.icmpNo X2.here hx rfl (hb hby at_114) rfl (flt hc3).1 k) ?_
      refine own_via (U' := T2.setTop (mkF m 118 #[.val (.int x1), .val (.int x2), .val (.int sel), .val (.ref s0_), .val (.int (9 : Int32)), .val (.int ver), .unset] [(.int (1 : Int32))])) (fun t k => XS.iconst X2.here hx rfl (hb hby at_117) k) ?_
      refine own_via (U' := T2.setTop (mkF m 122 #[.val (.int x1), .val (.int x2), .val (.int sel), .val (.ref s0_), .val (.int (9 : Int32)), .val (.int ver), .unset] [(.int (1 : Int32))])) (fun t k => XS.goto X2.here hx rfl (pc0 := 118) (pc' := 122) rfl (hb hby at_118) (by decide) (by decide) k) ?_
      refine own_via (U' := T2.setTop (mkF m 124 #[.val (.int x1), .val (.int x2), .val (.int sel), .val (.ref s0_), .val (.int (9 : Int32)), .val (.int ver), .val (.int (1 : Int32))] [])) (fun t k => XS.istore X2.here hx rfl (hb hby at_122) rfl (l' := #[.val (.int x1), .val (.int x2), .val (.int sel), .val (.ref s0_), .val (.int (9 : Int32)), .val (.int ver), .val (.int (1 : Int32))]) rfl k) ?_
      refine own_via (U' := T2.setTop (mkF m 125 #[.val (.int x1), .val (.int x2), .val (.int sel), .val (.ref s0_), .val (.int (9 : Int32)), .val (.int ver), .val (.int (1 : Int32))] [(.ref s0_)])) (fun t k => XS.aloadN X2.here hx rfl (hb hby at_124) rfl rfl k) ?_
      refine own_via (U' := T2.setTop (mkF m 127 #[.val (.int x1), .val (.int x2), .val (.int sel), .val (.ref s0_), .val (.int (9 : Int32)), .val (.int ver), .val (.int (1 : Int32))] [(.int ver), (.ref s0_)])) (fun t k => XS.iload X2.here hx rfl (hb hby at_125) rfl k) ?_
      obtain ⟨_, T5, L5, X5, hQ5, st5⟩ := own_callV X2 hx hZ (y := (⟨"com/example/colla/colla/wire/ApiKey", "isFlexible", "(S)Z"⟩ : MethodName)) (W := 0) (C := "com/example/colla/colla/wire/ApiKey") hown (hw _ (List.mem_of_getElem? (i := 4) rfl)) (hw _ (List.mem_of_getElem? (i := 5) rfl)) (hw _ (List.mem_of_getElem? (i := 7) rfl)) (hw _ (List.mem_of_getElem? (i := 6) rfl)) (hw _ (List.mem_of_getElem? (i := 2) rfl)) (hw _ (List.mem_of_getElem? (i := 8) rfl)) (by decide) (rm_Qif l Z a0 hw [] s0_ (9 : Int32) ver h0 n0 Z0 F0_) (by decide) (by decide) e2 E0_ (g := (mkF m 127 #[.val (.int x1), .val (.int x2), .val (.int sel), .val (.ref s0_), .val (.int (9 : Int32)), .val (.int ver), .val (.int (1 : Int32))] [(.int ver), (.ref s0_)])) rfl (by rw [hml]; rfl) (argsL := [(.int ver)]) (rest := []) rfl (lenOf pd_S__Z rfl) rfl (by show 2 * 0 + _ ≤ _; exact Nat.le_of_eq rfl) (hb hby at_127) (by decide) (by decide)
      obtain ⟨rfl, N5q, e5⟩ := hQ5
      have N5 := Fr.app N0 N5q
      refine own_via (U' := T5.setTop (mkF m 130 #[.val (.int x1), .val (.int x2), .val (.int sel), .val (.ref s0_), .val (.int (9 : Int32)), .val (.int ver), .val (.int (1 : Int32))] [(.int (if ver < (9 : Int32) then (0 : Int32) else (1 : Int32)))])) (fun t k => st5 t k) ?_
      refine own_via (U' := T5.setTop (mkF m 132 #[.val (.int x1), .val (.int x2), .val (.int sel), .val (.ref s0_), .val (.int (9 : Int32)), .val (.int ver), .val (.int (1 : Int32))] [(.int (1 : Int32)), (.int (if ver < (9 : Int32) then (0 : Int32) else (1 : Int32)))])) (fun t k => XS.iload X5.here hx rfl (hb hby at_130) rfl k) ?_
      refine own_via (U' := T5.setTop (mkF m 135 #[.val (.int x1), .val (.int x2), .val (.int sel), .val (.ref s0_), .val (.int (9 : Int32)), .val (.int ver), .val (.int (1 : Int32))] [])) (fun t k => XS.icmpNo X5.here hx rfl (hb hby at_132) rfl (teq (if_neg hc3)).2 k) ?_
      refine own_via (U' := T5.setTop (mkF m 136 #[.val (.int x1), .val (.int x2), .val (.int sel), .val (.ref s0_), .val (.int (9 : Int32)), .val (.int ver), .val (.int (1 : Int32))] [(.int (1 : Int32))])) (fun t k => XS.iconst X5.here hx rfl (hb hby at_135) k) ?_
      refine own_via (U' := T5.setTop (mkF m 140 #[.val (.int x1), .val (.int x2), .val (.int sel), .val (.ref s0_), .val (.int (9 : Int32)), .val (.int ver), .val (.int (1 : Int32))] [(.int (1 : Int32))])) (fun t k => XS.goto X5.here hx rfl (pc0 := 136) (pc' := 140) rfl (hb hby at_136) (by decide) (by decide) k) ?_
      exact own_ret X5 (v := some (.int (1 : Int32))) (fun h => by rw [Bd.returns] at h; cases h) hlk (fun fs hr => retN X5 hx (t := .boolean) Bd.returns (by simp) (hb hby at_140) hr) (by rw [e5]; exact ⟨rfl, N5⟩) (by decide) (by decide)
  case neg =>
    refine own_via (U' := s₁.setTop (mkF m 23 #[.val (.int x1), .val (.int x2), .val (.int sel), .unset, .unset, .unset, .unset] [])) (fun t k => XS.ifYes X0.here hx rfl (pc0 := 9) (pc' := 23) rfl (hb hby at_9) rfl ((if0 _ _).trans (feq hc1).2) (by decide) (by decide) k) ?_
    refine own_via (U' := s₁.setTop (mkF m 24 #[.val (.int x1), .val (.int x2), .val (.int sel), .unset, .unset, .unset, .unset] [(.int sel)])) (fun t k => XS.iloadN X0.here hx rfl (hb hby at_23) rfl k) ?_
    refine own_via (U' := s₁.setTop (mkF m 25 #[.val (.int x1), .val (.int x2), .val (.int sel), .unset, .unset, .unset, .unset] [(.int (1 : Int32)), (.int sel)])) (fun t k => XS.iconst X0.here hx rfl (hb hby at_24) k) ?_
    by_cases hc6 : sel = (1 : Int32)
    case pos =>
      refine own_via (U' := s₁.setTop (mkF m 28 #[.val (.int x1), .val (.int x2), .val (.int sel), .unset, .unset, .unset, .unset] [])) (fun t k => XS.icmpNo X0.here hx rfl (hb hby at_25) rfl (teq hc6).2 k) ?_
      obtain ⟨T7, X7, e7, st7⟩ := getS2 (host := "") X0 hx hZ hown (Or.inl (hw _ (List.mem_of_getElem? (i := 13) rfl))) Via.refl e0 S2_ (g := (mkF m 28 #[.val (.int x1), .val (.int x2), .val (.int sel), .unset, .unset, .unset, .unset] [])) rfl (hb hby at_28)
      refine own_via (U' := T7.setTop (mkF m 31 #[.val (.int x1), .val (.int x2), .val (.int sel), .unset, .unset, .unset, .unset] [(.ref s2_)])) (fun t k => st7 t k) ?_
      refine own_via (U' := T7.setTop (mkF m 32 #[.val (.int x1), .val (.int x2), .val (.int sel), .val (.ref s2_), .unset, .unset, .unset] [])) (fun t k => XS.astoreN X7.here hx rfl (hb hby at_31) rfl rfl (l' := #[.val (.int x1), .val (.int x2), .val (.int sel), .val (.ref s2_), .unset, .unset, .unset]) rfl k) ?_
      refine own_via (U' := T7.setTop (mkF m 34 #[.val (.int x1), .val (.int x2), .val (.int sel), .val (.ref s2_), .unset, .unset, .unset] [(.int (6 : Int32))])) (fun t k => XS.bipush X7.here hx rfl (hb hby at_32) k) ?_
      refine own_via (U' := T7.setTop (mkF m 36 #[.val (.int x1), .val (.int x2), .val (.int sel), .val (.ref s2_), .val (.int (6 : Int32)), .unset, .unset] [])) (fun t k => XS.istore X7.here hx rfl (hb hby at_34) rfl (l' := #[.val (.int x1), .val (.int x2), .val (.int sel), .val (.ref s2_), .val (.int (6 : Int32)), .unset, .unset]) rfl k) ?_
      refine own_via (U' := T7.setTop (mkF m 106 #[.val (.int x1), .val (.int x2), .val (.int sel), .val (.ref s2_), .val (.int (6 : Int32)), .unset, .unset] [])) (fun t k => XS.goto X7.here hx rfl (pc0 := 36) (pc' := 106) rfl (hb hby at_36) (by decide) (by decide) k) ?_
      refine own_via (U' := T7.setTop (mkF m 107 #[.val (.int x1), .val (.int x2), .val (.int sel), .val (.ref s2_), .val (.int (6 : Int32)), .unset, .unset] [(.int x2)])) (fun t k => XS.iloadN X7.here hx rfl (hb hby at_106) rfl k) ?_
      refine own_via (U' := T7.setTop (mkF m 108 #[.val (.int x1), .val (.int x2), .val (.int sel), .val (.ref s2_), .val (.int (6 : Int32)), .unset, .unset] [(.int (x2.toInt16.toInt32))])) (fun t k => XS.i2s X7.here hx rfl (hb hby at_107) rfl k) ?_
      refine own_via (U' := T7.setTop (mkF m 110 #[.val (.int x1), .val (.int x2), .val (.int sel), .val (.ref s2_), .val (.int (6 : Int32)), .val (.int (x2.toInt16.toInt32)), .unset] [])) (fun t k => XS.istore X7.here hx rfl (hb hby at_108) rfl (l' := #[.val (.int x1), .val (.int x2), .val (.int sel), .val (.ref s2_), .val (.int (6 : Int32)), .val (.int (x2.toInt16.toInt32)), .unset]) rfl k) ?_
      generalize (x2.toInt16.toInt32) = ver
      refine own_via (U' := T7.setTop (mkF m 112 #[.val (.int x1), .val (.int x2), .val (.int sel), .val (.ref s2_), .val (.int (6 : Int32)), .val (.int ver), .unset] [(.int ver)])) (fun t k => XS.iload X7.here hx rfl (hb hby at_110) rfl k) ?_
      refine own_via (U' := T7.setTop (mkF m 114 #[.val (.int x1), .val (.int x2), .val (.int sel), .val (.ref s2_), .val (.int (6 : Int32)), .val (.int ver), .unset] [(.int (6 : Int32)), (.int ver)])) (fun t k => XS.iload X7.here hx rfl (hb hby at_112) rfl k) ?_
      by_cases hc8 : ver < (6 : Int32)
      case pos =>
        refine own_via (U' := T7.setTop (mkF m 121 #[.val (.int x1), .val (.int x2), .val (.int sel), .val (.ref s2_), .val (.int (6 : Int32)), .val (.int ver), .unset] [])) (fun t k => XS.icmpYes X7.here hx rfl (pc0 := 114) (pc' := 121) rfl (hb hby at_114) rfl (tlt hc8).1 (by decide) (by decide) k) ?_
        refine own_via (U' := T7.setTop (mkF m 122 #[.val (.int x1), .val (.int x2), .val (.int sel), .val (.ref s2_), .val (.int (6 : Int32)), .val (.int ver), .unset] [(.int (0 : Int32))])) (fun t k => XS.iconst X7.here hx rfl (hb hby at_121) k) ?_
        refine own_via (U' := T7.setTop (mkF m 124 #[.val (.int x1), .val (.int x2), .val (.int sel), .val (.ref s2_), .val (.int (6 : Int32)), .val (.int ver), .val (.int (0 : Int32))] [])) (fun t k => XS.istore X7.here hx rfl (hb hby at_122) rfl (l' := #[.val (.int x1), .val (.int x2), .val (.int sel), .val (.ref s2_), .val (.int (6 : Int32)), .val (.int ver), .val (.int (0 : Int32))]) rfl k) ?_
        refine own_via (U' := T7.setTop (mkF m 125 #[.val (.int x1), .val (.int x2), .val (.int sel), .val (.ref s2_), .val (.int (6 : Int32)), .val (.int ver), .val (.int (0 : Int32))] [(.ref s2_)])) (fun t k => XS.aloadN X7.here hx rfl (hb hby at_124) rfl rfl k) ?_
        refine own_via (U' := T7.setTop (mkF m 127 #[.val (.int x1), .val (.int x2), .val (.int sel), .val (.ref s2_), .val (.int (6 : Int32)), .val (.int ver), .val (.int (0 : Int32))] [(.int ver), (.ref s2_)])) (fun t k => XS.iload X7.here hx rfl (hb hby at_125) rfl k) ?_
        obtain ⟨_, T9, L9, X9, hQ9, st9⟩ := own_callV X7 hx hZ (y := (⟨"com/example/colla/colla/wire/ApiKey", "isFlexible", "(S)Z"⟩ : MethodName)) (W := 0) (C := "com/example/colla/colla/wire/ApiKey") hown (hw _ (List.mem_of_getElem? (i := 4) rfl)) (hw _ (List.mem_of_getElem? (i := 5) rfl)) (hw _ (List.mem_of_getElem? (i := 7) rfl)) (hw _ (List.mem_of_getElem? (i := 6) rfl)) (hw _ (List.mem_of_getElem? (i := 2) rfl)) (hw _ (List.mem_of_getElem? (i := 8) rfl)) (by decide) (rm_Qif l Z a0 hw [] s2_ (6 : Int32) ver h0 n0 Z0 F2_) (by decide) (by decide) e7 E2_ (g := (mkF m 127 #[.val (.int x1), .val (.int x2), .val (.int sel), .val (.ref s2_), .val (.int (6 : Int32)), .val (.int ver), .val (.int (0 : Int32))] [(.int ver), (.ref s2_)])) rfl (by rw [hml]; rfl) (argsL := [(.int ver)]) (rest := []) rfl (lenOf pd_S__Z rfl) rfl (by show 2 * 0 + _ ≤ _; exact Nat.le_of_eq rfl) (hb hby at_127) (by decide) (by decide)
        obtain ⟨rfl, N9q, e9⟩ := hQ9
        have N9 := Fr.app N0 N9q
        refine own_via (U' := T9.setTop (mkF m 130 #[.val (.int x1), .val (.int x2), .val (.int sel), .val (.ref s2_), .val (.int (6 : Int32)), .val (.int ver), .val (.int (0 : Int32))] [(.int (if ver < (6 : Int32) then (0 : Int32) else (1 : Int32)))])) (fun t k => st9 t k) ?_
        refine own_via (U' := T9.setTop (mkF m 132 #[.val (.int x1), .val (.int x2), .val (.int sel), .val (.ref s2_), .val (.int (6 : Int32)), .val (.int ver), .val (.int (0 : Int32))] [(.int (0 : Int32)), (.int (if ver < (6 : Int32) then (0 : Int32) else (1 : Int32)))])) (fun t k => XS.iload X9.here hx rfl (hb hby at_130) rfl k) ?_
        refine own_via (U' := T9.setTop (mkF m 135 #[.val (.int x1), .val (.int x2), .val (.int sel), .val (.ref s2_), .val (.int (6 : Int32)), .val (.int ver), .val (.int (0 : Int32))] [])) (fun t k => XS.icmpNo X9.here hx rfl (hb hby at_132) rfl (teq (if_pos hc8)).2 k) ?_
        refine own_via (U' := T9.setTop (mkF m 136 #[.val (.int x1), .val (.int x2), .val (.int sel), .val (.ref s2_), .val (.int (6 : Int32)), .val (.int ver), .val (.int (0 : Int32))] [(.int (1 : Int32))])) (fun t k => XS.iconst X9.here hx rfl (hb hby at_135) k) ?_
        refine own_via (U' := T9.setTop (mkF m 140 #[.val (.int x1), .val (.int x2), .val (.int sel), .val (.ref s2_), .val (.int (6 : Int32)), .val (.int ver), .val (.int (0 : Int32))] [(.int (1 : Int32))])) (fun t k => XS.goto X9.here hx rfl (pc0 := 136) (pc' := 140) rfl (hb hby at_136) (by decide) (by decide) k) ?_
        exact own_ret X9 (v := some (.int (1 : Int32))) (fun h => by rw [Bd.returns] at h; cases h) hlk (fun fs hr => retN X9 hx (t := .boolean) Bd.returns (by simp) (hb hby at_140) hr) (by rw [e9]; exact ⟨rfl, N9⟩) (by decide) (by decide)
      case neg =>
        refine own_via (U' := T7.setTop (mkF m 117 #[.val (.int x1), .val (.int x2), .val (.int sel), .val (.ref s2_), .val (.int (6 : Int32)), .val (.int ver), .unset] [])) (fun t k => XS.icmpNo X7.here hx rfl (hb hby at_114) rfl (flt hc8).1 k) ?_
        refine own_via (U' := T7.setTop (mkF m 118 #[.val (.int x1), .val (.int x2), .val (.int sel), .val (.ref s2_), .val (.int (6 : Int32)), .val (.int ver), .unset] [(.int (1 : Int32))])) (fun t k => XS.iconst X7.here hx rfl (hb hby at_117) k) ?_
        refine own_via (U' := T7.setTop (mkF m 122 #[.val (.int x1), .val (.int x2), .val (.int sel), .val (.ref s2_), .val (.int (6 : Int32)), .val (.int ver), .unset] [(.int (1 : Int32))])) (fun t k => XS.goto X7.here hx rfl (pc0 := 118) (pc' := 122) rfl (hb hby at_118) (by decide) (by decide) k) ?_
        refine own_via (U' := T7.setTop (mkF m 124 #[.val (.int x1), .val (.int x2), .val (.int sel), .val (.ref s2_), .val (.int (6 : Int32)), .val (.int ver), .val (.int (1 : Int32))] [])) (fun t k => XS.istore X7.here hx rfl (hb hby at_122) rfl (l' := #[.val (.int x1), .val (.int x2), .val (.int sel), .val (.ref s2_), .val (.int (6 : Int32)), .val (.int ver), .val (.int (1 : Int32))]) rfl k) ?_
        refine own_via (U' := T7.setTop (mkF m 125 #[.val (.int x1), .val (.int x2), .val (.int sel), .val (.ref s2_), .val (.int (6 : Int32)), .val (.int ver), .val (.int (1 : Int32))] [(.ref s2_)])) (fun t k => XS.aloadN X7.here hx rfl (hb hby at_124) rfl rfl k) ?_
        refine own_via (U' := T7.setTop (mkF m 127 #[.val (.int x1), .val (.int x2), .val (.int sel), .val (.ref s2_), .val (.int (6 : Int32)), .val (.int ver), .val (.int (1 : Int32))] [(.int ver), (.ref s2_)])) (fun t k => XS.iload X7.here hx rfl (hb hby at_125) rfl k) ?_
        obtain ⟨_, T10, L10, X10, hQ10, st10⟩ := own_callV X7 hx hZ (y := (⟨"com/example/colla/colla/wire/ApiKey", "isFlexible", "(S)Z"⟩ : MethodName)) (W := 0) (C := "com/example/colla/colla/wire/ApiKey") hown (hw _ (List.mem_of_getElem? (i := 4) rfl)) (hw _ (List.mem_of_getElem? (i := 5) rfl)) (hw _ (List.mem_of_getElem? (i := 7) rfl)) (hw _ (List.mem_of_getElem? (i := 6) rfl)) (hw _ (List.mem_of_getElem? (i := 2) rfl)) (hw _ (List.mem_of_getElem? (i := 8) rfl)) (by decide) (rm_Qif l Z a0 hw [] s2_ (6 : Int32) ver h0 n0 Z0 F2_) (by decide) (by decide) e7 E2_ (g := (mkF m 127 #[.val (.int x1), .val (.int x2), .val (.int sel), .val (.ref s2_), .val (.int (6 : Int32)), .val (.int ver), .val (.int (1 : Int32))] [(.int ver), (.ref s2_)])) rfl (by rw [hml]; rfl) (argsL := [(.int ver)]) (rest := []) rfl (lenOf pd_S__Z rfl) rfl (by show 2 * 0 + _ ≤ _; exact Nat.le_of_eq rfl) (hb hby at_127) (by decide) (by decide)
        obtain ⟨rfl, N10q, e10⟩ := hQ10
        have N10 := Fr.app N0 N10q
        refine own_via (U' := T10.setTop (mkF m 130 #[.val (.int x1), .val (.int x2), .val (.int sel), .val (.ref s2_), .val (.int (6 : Int32)), .val (.int ver), .val (.int (1 : Int32))] [(.int (if ver < (6 : Int32) then (0 : Int32) else (1 : Int32)))])) (fun t k => st10 t k) ?_
        refine own_via (U' := T10.setTop (mkF m 132 #[.val (.int x1), .val (.int x2), .val (.int sel), .val (.ref s2_), .val (.int (6 : Int32)), .val (.int ver), .val (.int (1 : Int32))] [(.int (1 : Int32)), (.int (if ver < (6 : Int32) then (0 : Int32) else (1 : Int32)))])) (fun t k => XS.iload X10.here hx rfl (hb hby at_130) rfl k) ?_
        refine own_via (U' := T10.setTop (mkF m 135 #[.val (.int x1), .val (.int x2), .val (.int sel), .val (.ref s2_), .val (.int (6 : Int32)), .val (.int ver), .val (.int (1 : Int32))] [])) (fun t k => XS.icmpNo X10.here hx rfl (hb hby at_132) rfl (teq (if_neg hc8)).2 k) ?_
        refine own_via (U' := T10.setTop (mkF m 136 #[.val (.int x1), .val (.int x2), .val (.int sel), .val (.ref s2_), .val (.int (6 : Int32)), .val (.int ver), .val (.int (1 : Int32))] [(.int (1 : Int32))])) (fun t k => XS.iconst X10.here hx rfl (hb hby at_135) k) ?_
        refine own_via (U' := T10.setTop (mkF m 140 #[.val (.int x1), .val (.int x2), .val (.int sel), .val (.ref s2_), .val (.int (6 : Int32)), .val (.int ver), .val (.int (1 : Int32))] [(.int (1 : Int32))])) (fun t k => XS.goto X10.here hx rfl (pc0 := 136) (pc' := 140) rfl (hb hby at_136) (by decide) (by decide) k) ?_
        exact own_ret X10 (v := some (.int (1 : Int32))) (fun h => by rw [Bd.returns] at h; cases h) hlk (fun fs hr => retN X10 hx (t := .boolean) Bd.returns (by simp) (hb hby at_140) hr) (by rw [e10]; exact ⟨rfl, N10⟩) (by decide) (by decide)
    case neg =>
      refine own_via (U' := s₁.setTop (mkF m 39 #[.val (.int x1), .val (.int x2), .val (.int sel), .unset, .unset, .unset, .unset] [])) (fun t k => XS.icmpYes X0.here hx rfl (pc0 := 25) (pc' := 39) rfl (hb hby at_25) rfl (feq hc6).2 (by decide) (by decide) k) ?_
      refine own_via (U' := s₁.setTop (mkF m 40 #[.val (.int x1), .val (.int x2), .val (.int sel), .unset, .unset, .unset, .unset] [(.int sel)])) (fun t k => XS.iloadN X0.here hx rfl (hb hby at_39) rfl k) ?_
      refine own_via (U' := s₁.setTop (mkF m 41 #[.val (.int x1), .val (.int x2), .val (.int sel), .unset, .unset, .unset, .unset] [(.int (2 : Int32)), (.int sel)])) (fun t k => XS.iconst X0.here hx rfl (hb hby at_40) k) ?_
      by_cases hc11 : sel = (2 : Int32)
      case pos =>
        refine own_via (U' := s₁.setTop (mkF m 44 #[.val (.int x1), .val (.int x2), .val (.int sel), .unset, .unset, .unset, .unset] [])) (fun t k => XS.icmpNo X0.here hx rfl (hb hby at_41) rfl (teq hc11).2 k) ?_
        obtain ⟨T12, X12, e12, st12⟩ := getS2 (host := "") X0 hx hZ hown (Or.inl (hw _ (List.mem_of_getElem? (i := 21) rfl))) Via.refl e0 S6_ (g := (mkF m 44 #[.val (.int x1), .val (.int x2), .val (.int sel), .unset, .unset, .unset, .unset] [])) rfl (hb hby at_44)
        refine own_via (U' := T12.setTop (mkF m 47 #[.val (.int x1), .val (.int x2), .val (.int sel), .unset, .unset, .unset, .unset] [(.ref s6_)])) (fun t k => st12 t k) ?_
        refine own_via (U' := T12.setTop (mkF m 48 #[.val (.int x1), .val (.int x2), .val (.int sel), .val (.ref s6_), .unset, .unset, .unset] [])) (fun t k => XS.astoreN X12.here hx rfl (hb hby at_47) rfl rfl (l' := #[.val (.int x1), .val (.int x2), .val (.int sel), .val (.ref s6_), .unset, .unset, .unset]) rfl k) ?_
        refine own_via (U' := T12.setTop (mkF m 49 #[.val (.int x1), .val (.int x2), .val (.int sel), .val (.ref s6_), .unset, .unset, .unset] [(.int (3 : Int32))])) (fun t k => XS.iconst X12.here hx rfl (hb hby at_48) k) ?_
        refine own_via (U' := T12.setTop (mkF m 51 #[.val (.int x1), .val (.int x2), .val (.int sel), .val (.ref s6_), .val (.int (3 : Int32)), .unset, .unset] [])) (fun t k => XS.istore X12.here hx rfl (hb hby at_49) rfl (l' := #[.val (.int x1), .val (.int x2), .val (.int sel), .val (.ref s6_), .val (.int (3 : Int32)), .unset, .unset]) rfl k) ?_
        refine own_via (U' := T12.setTop (mkF m 106 #[.val (.int x1), .val (.int x2), .val (.int sel), .val (.ref s6_), .val (.int (3 : Int32)), .unset, .unset] [])) (fun t k => XS.goto X12.here hx rfl (pc0 := 51) (pc' := 106) rfl (hb hby at_51) (by decide) (by decide) k) ?_
        refine own_via (U' := T12.setTop (mkF m 107 #[.val (.int x1), .val (.int x2), .val (.int sel), .val (.ref s6_), .val (.int (3 : Int32)), .unset, .unset] [(.int x2)])) (fun t k => XS.iloadN X12.here hx rfl (hb hby at_106) rfl k) ?_
        refine own_via (U' := T12.setTop (mkF m 108 #[.val (.int x1), .val (.int x2), .val (.int sel), .val (.ref s6_), .val (.int (3 : Int32)), .unset, .unset] [(.int (x2.toInt16.toInt32))])) (fun t k => XS.i2s X12.here hx rfl (hb hby at_107) rfl k) ?_
        refine own_via (U' := T12.setTop (mkF m 110 #[.val (.int x1), .val (.int x2), .val (.int sel), .val (.ref s6_), .val (.int (3 : Int32)), .val (.int (x2.toInt16.toInt32)), .unset] [])) (fun t k => XS.istore X12.here hx rfl (hb hby at_108) rfl (l' := #[.val (.int x1), .val (.int x2), .val (.int sel), .val (.ref s6_), .val (.int (3 : Int32)), .val (.int (x2.toInt16.toInt32)), .unset]) rfl k) ?_
        generalize (x2.toInt16.toInt32) = ver
        refine own_via (U' := T12.setTop (mkF m 112 #[.val (.int x1), .val (.int x2), .val (.int sel), .val (.ref s6_), .val (.int (3 : Int32)), .val (.int ver), .unset] [(.int ver)])) (fun t k => XS.iload X12.here hx rfl (hb hby at_110) rfl k) ?_
        refine own_via (U' := T12.setTop (mkF m 114 #[.val (.int x1), .val (.int x2), .val (.int sel), .val (.ref s6_), .val (.int (3 : Int32)), .val (.int ver), .unset] [(.int (3 : Int32)), (.int ver)])) (fun t k => XS.iload X12.here hx rfl (hb hby at_112) rfl k) ?_
        by_cases hc13 : ver < (3 : Int32)
        case pos =>
          refine own_via (U' := T12.setTop (mkF m 121 #[.val (.int x1), .val (.int x2), .val (.int sel), .val (.ref s6_), .val (.int (3 : Int32)), .val (.int ver), .unset] [])) (fun t k => XS.icmpYes X12.here hx rfl (pc0 := 114) (pc' := 121) rfl (hb hby at_114) rfl (tlt hc13).1 (by decide) (by decide) k) ?_
          refine own_via (U' := T12.setTop (mkF m 122 #[.val (.int x1), .val (.int x2), .val (.int sel), .val (.ref s6_), .val (.int (3 : Int32)), .val (.int ver), .unset] [(.int (0 : Int32))])) (fun t k => XS.iconst X12.here hx rfl (hb hby at_121) k) ?_
          refine own_via (U' := T12.setTop (mkF m 124 #[.val (.int x1), .val (.int x2), .val (.int sel), .val (.ref s6_), .val (.int (3 : Int32)), .val (.int ver), .val (.int (0 : Int32))] [])) (fun t k => XS.istore X12.here hx rfl (hb hby at_122) rfl (l' := #[.val (.int x1), .val (.int x2), .val (.int sel), .val (.ref s6_), .val (.int (3 : Int32)), .val (.int ver), .val (.int (0 : Int32))]) rfl k) ?_
          refine own_via (U' := T12.setTop (mkF m 125 #[.val (.int x1), .val (.int x2), .val (.int sel), .val (.ref s6_), .val (.int (3 : Int32)), .val (.int ver), .val (.int (0 : Int32))] [(.ref s6_)])) (fun t k => XS.aloadN X12.here hx rfl (hb hby at_124) rfl rfl k) ?_
          refine own_via (U' := T12.setTop (mkF m 127 #[.val (.int x1), .val (.int x2), .val (.int sel), .val (.ref s6_), .val (.int (3 : Int32)), .val (.int ver), .val (.int (0 : Int32))] [(.int ver), (.ref s6_)])) (fun t k => XS.iload X12.here hx rfl (hb hby at_125) rfl k) ?_
          obtain ⟨_, T14, L14, X14, hQ14, st14⟩ := own_callV X12 hx hZ (y := (⟨"com/example/colla/colla/wire/ApiKey", "isFlexible", "(S)Z"⟩ : MethodName)) (W := 0) (C := "com/example/colla/colla/wire/ApiKey") hown (hw _ (List.mem_of_getElem? (i := 4) rfl)) (hw _ (List.mem_of_getElem? (i := 5) rfl)) (hw _ (List.mem_of_getElem? (i := 7) rfl)) (hw _ (List.mem_of_getElem? (i := 6) rfl)) (hw _ (List.mem_of_getElem? (i := 2) rfl)) (hw _ (List.mem_of_getElem? (i := 8) rfl)) (by decide) (rm_Qif l Z a0 hw [] s6_ (3 : Int32) ver h0 n0 Z0 F6_) (by decide) (by decide) e12 E6_ (g := (mkF m 127 #[.val (.int x1), .val (.int x2), .val (.int sel), .val (.ref s6_), .val (.int (3 : Int32)), .val (.int ver), .val (.int (0 : Int32))] [(.int ver), (.ref s6_)])) rfl (by rw [hml]; rfl) (argsL := [(.int ver)]) (rest := []) rfl (lenOf pd_S__Z rfl) rfl (by show 2 * 0 + _ ≤ _; exact Nat.le_of_eq rfl) (hb hby at_127) (by decide) (by decide)
          obtain ⟨rfl, N14q, e14⟩ := hQ14
          have N14 := Fr.app N0 N14q
          refine own_via (U' := T14.setTop (mkF m 130 #[.val (.int x1), .val (.int x2), .val (.int sel), .val (.ref s6_), .val (.int (3 : Int32)), .val (.int ver), .val (.int (0 : Int32))] [(.int (if ver < (3 : Int32) then (0 : Int32) else (1 : Int32)))])) (fun t k => st14 t k) ?_
          refine own_via (U' := T14.setTop (mkF m 132 #[.val (.int x1), .val (.int x2), .val (.int sel), .val (.ref s6_), .val (.int (3 : Int32)), .val (.int ver), .val (.int (0 : Int32))] [(.int (0 : Int32)), (.int (if ver < (3 : Int32) then (0 : Int32) else (1 : Int32)))])) (fun t k => XS.iload X14.here hx rfl (hb hby at_130) rfl k) ?_
          refine own_via (U' := T14.setTop (mkF m 135 #[.val (.int x1), .val (.int x2), .val (.int sel), .val (.ref s6_), .val (.int (3 : Int32)), .val (.int ver), .val (.int (0 : Int32))] [])) (fun t k => XS.icmpNo X14.here hx rfl (hb hby at_132) rfl (teq (if_pos hc13)).2 k) ?_
          refine own_via (U' := T14.setTop (mkF m 136 #[.val (.int x1), .val (.int x2), .val (.int sel), .val (.ref s6_), .val (.int (3 : Int32)), .val (.int ver), .val (.int (0 : Int32))] [(.int (1 : Int32))])) (fun t k => XS.iconst X14.here hx rfl (hb hby at_135) k) ?_
          refine own_via (U' := T14.setTop (mkF m 140 #[.val (.int x1), .val (.int x2), .val (.int sel), .val (.ref s6_), .val (.int (3 : Int32)), .val (.int ver), .val (.int (0 : Int32))] [(.int (1 : Int32))])) (fun t k => XS.goto X14.here hx rfl (pc0 := 136) (pc' := 140) rfl (hb hby at_136) (by decide) (by decide) k) ?_
          exact own_ret X14 (v := some (.int (1 : Int32))) (fun h => by rw [Bd.returns] at h; cases h) hlk (fun fs hr => retN X14 hx (t := .boolean) Bd.returns (by simp) (hb hby at_140) hr) (by rw [e14]; exact ⟨rfl, N14⟩) (by decide) (by decide)
        case neg =>
          refine own_via (U' := T12.setTop (mkF m 117 #[.val (.int x1), .val (.int x2), .val (.int sel), .val (.ref s6_), .val (.int (3 : Int32)), .val (.int ver), .unset] [])) (fun t k => XS.icmpNo X12.here hx rfl (hb hby at_114) rfl (flt hc13).1 k) ?_
          refine own_via (U' := T12.setTop (mkF m 118 #[.val (.int x1), .val (.int x2), .val (.int sel), .val (.ref s6_), .val (.int (3 : Int32)), .val (.int ver), .unset] [(.int (1 : Int32))])) (fun t k => XS.iconst X12.here hx rfl (hb hby at_117) k) ?_
          refine own_via (U' := T12.setTop (mkF m 122 #[.val (.int x1), .val (.int x2), .val (.int sel), .val (.ref s6_), .val (.int (3 : Int32)), .val (.int ver), .unset] [(.int (1 : Int32))])) (fun t k => XS.goto X12.here hx rfl (pc0 := 118) (pc' := 122) rfl (hb hby at_118) (by decide) (by decide) k) ?_
          refine own_via (U' := T12.setTop (mkF m 124 #[.val (.int x1), .val (.int x2), .val (.int sel), .val (.ref s6_), .val (.int (3 : Int32)), .val (.int ver), .val (.int (1 : Int32))] [])) (fun t k => XS.istore X12.here hx rfl (hb hby at_122) rfl (l' := #[.val (.int x1), .val (.int x2), .val (.int sel), .val (.ref s6_), .val (.int (3 : Int32)), .val (.int ver), .val (.int (1 : Int32))]) rfl k) ?_
          refine own_via (U' := T12.setTop (mkF m 125 #[.val (.int x1), .val (.int x2), .val (.int sel), .val (.ref s6_), .val (.int (3 : Int32)), .val (.int ver), .val (.int (1 : Int32))] [(.ref s6_)])) (fun t k => XS.aloadN X12.here hx rfl (hb hby at_124) rfl rfl k) ?_
          refine own_via (U' := T12.setTop (mkF m 127 #[.val (.int x1), .val (.int x2), .val (.int sel), .val (.ref s6_), .val (.int (3 : Int32)), .val (.int ver), .val (.int (1 : Int32))] [(.int ver), (.ref s6_)])) (fun t k => XS.iload X12.here hx rfl (hb hby at_125) rfl k) ?_
          obtain ⟨_, T15, L15, X15, hQ15, st15⟩ := own_callV X12 hx hZ (y := (⟨"com/example/colla/colla/wire/ApiKey", "isFlexible", "(S)Z"⟩ : MethodName)) (W := 0) (C := "com/example/colla/colla/wire/ApiKey") hown (hw _ (List.mem_of_getElem? (i := 4) rfl)) (hw _ (List.mem_of_getElem? (i := 5) rfl)) (hw _ (List.mem_of_getElem? (i := 7) rfl)) (hw _ (List.mem_of_getElem? (i := 6) rfl)) (hw _ (List.mem_of_getElem? (i := 2) rfl)) (hw _ (List.mem_of_getElem? (i := 8) rfl)) (by decide) (rm_Qif l Z a0 hw [] s6_ (3 : Int32) ver h0 n0 Z0 F6_) (by decide) (by decide) e12 E6_ (g := (mkF m 127 #[.val (.int x1), .val (.int x2), .val (.int sel), .val (.ref s6_), .val (.int (3 : Int32)), .val (.int ver), .val (.int (1 : Int32))] [(.int ver), (.ref s6_)])) rfl (by rw [hml]; rfl) (argsL := [(.int ver)]) (rest := []) rfl (lenOf pd_S__Z rfl) rfl (by show 2 * 0 + _ ≤ _; exact Nat.le_of_eq rfl) (hb hby at_127) (by decide) (by decide)
          obtain ⟨rfl, N15q, e15⟩ := hQ15
          have N15 := Fr.app N0 N15q
          refine own_via (U' := T15.setTop (mkF m 130 #[.val (.int x1), .val (.int x2), .val (.int sel), .val (.ref s6_), .val (.int (3 : Int32)), .val (.int ver), .val (.int (1 : Int32))] [(.int (if ver < (3 : Int32) then (0 : Int32) else (1 : Int32)))])) (fun t k => st15 t k) ?_
          refine own_via (U' := T15.setTop (mkF m 132 #[.val (.int x1), .val (.int x2), .val (.int sel), .val (.ref s6_), .val (.int (3 : Int32)), .val (.int ver), .val (.int (1 : Int32))] [(.int (1 : Int32)), (.int (if ver < (3 : Int32) then (0 : Int32) else (1 : Int32)))])) (fun t k => XS.iload X15.here hx rfl (hb hby at_130) rfl k) ?_
          refine own_via (U' := T15.setTop (mkF m 135 #[.val (.int x1), .val (.int x2), .val (.int sel), .val (.ref s6_), .val (.int (3 : Int32)), .val (.int ver), .val (.int (1 : Int32))] [])) (fun t k => XS.icmpNo X15.here hx rfl (hb hby at_132) rfl (teq (if_neg hc13)).2 k) ?_
          refine own_via (U' := T15.setTop (mkF m 136 #[.val (.int x1), .val (.int x2), .val (.int sel), .val (.ref s6_), .val (.int (3 : Int32)), .val (.int ver), .val (.int (1 : Int32))] [(.int (1 : Int32))])) (fun t k => XS.iconst X15.here hx rfl (hb hby at_135) k) ?_
          refine own_via (U' := T15.setTop (mkF m 140 #[.val (.int x1), .val (.int x2), .val (.int sel), .val (.ref s6_), .val (.int (3 : Int32)), .val (.int ver), .val (.int (1 : Int32))] [(.int (1 : Int32))])) (fun t k => XS.goto X15.here hx rfl (pc0 := 136) (pc' := 140) rfl (hb hby at_136) (by decide) (by decide) k) ?_
          exact own_ret X15 (v := some (.int (1 : Int32))) (fun h => by rw [Bd.returns] at h; cases h) hlk (fun fs hr => retN X15 hx (t := .boolean) Bd.returns (by simp) (hb hby at_140) hr) (by rw [e15]; exact ⟨rfl, N15⟩) (by decide) (by decide)
      case neg =>
        refine own_via (U' := s₁.setTop (mkF m 54 #[.val (.int x1), .val (.int x2), .val (.int sel), .unset, .unset, .unset, .unset] [])) (fun t k => XS.icmpYes X0.here hx rfl (pc0 := 41) (pc' := 54) rfl (hb hby at_41) rfl (feq hc11).2 (by decide) (by decide) k) ?_
        refine own_via (U' := s₁.setTop (mkF m 55 #[.val (.int x1), .val (.int x2), .val (.int sel), .unset, .unset, .unset, .unset] [(.int sel)])) (fun t k => XS.iloadN X0.here hx rfl (hb hby at_54) rfl k) ?_
        refine own_via (U' := s₁.setTop (mkF m 56 #[.val (.int x1), .val (.int x2), .val (.int sel), .unset, .unset, .unset, .unset] [(.int (3 : Int32)), (.int sel)])) (fun t k => XS.iconst X0.here hx rfl (hb hby at_55) k) ?_
        by_cases hc16 : sel = (3 : Int32)
        case pos =>
          refine own_via (U' := s₁.setTop (mkF m 59 #[.val (.int x1), .val (.int x2), .val (.int sel), .unset, .unset, .unset, .unset] [])) (fun t k => XS.icmpNo X0.here hx rfl (hb hby at_56) rfl (teq hc16).2 k) ?_
          obtain ⟨T17, X17, e17, st17⟩ := getS2 (host := "") X0 hx hZ hown (Or.inl (hw _ (List.mem_of_getElem? (i := 11) rfl))) Via.refl e0 S1_ (g := (mkF m 59 #[.val (.int x1), .val (.int x2), .val (.int sel), .unset, .unset, .unset, .unset] [])) rfl (hb hby at_59)
          refine own_via (U' := T17.setTop (mkF m 62 #[.val (.int x1), .val (.int x2), .val (.int sel), .unset, .unset, .unset, .unset] [(.ref s1_)])) (fun t k => st17 t k) ?_
          refine own_via (U' := T17.setTop (mkF m 63 #[.val (.int x1), .val (.int x2), .val (.int sel), .val (.ref s1_), .unset, .unset, .unset] [])) (fun t k => XS.astoreN X17.here hx rfl (hb hby at_62) rfl rfl (l' := #[.val (.int x1), .val (.int x2), .val (.int sel), .val (.ref s1_), .unset, .unset, .unset]) rfl k) ?_
          refine own_via (U' := T17.setTop (mkF m 64 #[.val (.int x1), .val (.int x2), .val (.int sel), .val (.ref s1_), .unset, .unset, .unset] [(.int (3 : Int32))])) (fun t k => XS.iconst X17.here hx rfl (hb hby at_63) k) ?_
          refine own_via (U' := T17.setTop (mkF m 66 #[.val (.int x1), .val (.int x2), .val (.int sel), .val (.ref s1_), .val (.int (3 : Int32)), .unset, .unset] [])) (fun t k => XS.istore X17.here hx rfl (hb hby at_64) rfl (l' := #[.val (.int x1), .val (.int x2), .val (.int sel), .val (.ref s1_), .val (.int (3 : Int32)), .unset, .unset]) rfl k) ?_
          refine own_via (U' := T17.setTop (mkF m 106 #[.val (.int x1), .val (.int x2), .val (.int sel), .val (.ref s1_), .val (.int (3 : Int32)), .unset, .unset] [])) (fun t k => XS.goto X17.here hx rfl (pc0 := 66) (pc' := 106) rfl (hb hby at_66) (by decide) (by decide) k) ?_
          refine own_via (U' := T17.setTop (mkF m 107 #[.val (.int x1), .val (.int x2), .val (.int sel), .val (.ref s1_), .val (.int (3 : Int32)), .unset, .unset] [(.int x2)])) (fun t k => XS.iloadN X17.here hx rfl (hb hby at_106) rfl k) ?_
          refine own_via (U' := T17.setTop (mkF m 108 #[.val (.int x1), .val (.int x2), .val (.int sel), .val (.ref s1_), .val (.int (3 : Int32)), .unset, .unset] [(.int (x2.toInt16.toInt32))])) (fun t k => XS.i2s X17.here hx rfl (hb hby at_107) rfl k) ?_
          refine own_via (U' := T17.setTop (mkF m 110 #[.val (.int x1), .val (.int x2), .val (.int sel), .val (.ref s1_), .val (.int (3 : Int32)), .val (.int (x2.toInt16.toInt32)), .unset] [])) (fun t k => XS.istore X17.here hx rfl (hb hby at_108) rfl (l' := #[.val (.int x1), .val (.int x2), .val (.int sel), .val (.ref s1_), .val (.int (3 : Int32)), .val (.int (x2.toInt16.toInt32)), .unset]) rfl k) ?_
          generalize (x2.toInt16.toInt32) = ver
          refine own_via (U' := T17.setTop (mkF m 112 #[.val (.int x1), .val (.int x2), .val (.int sel), .val (.ref s1_), .val (.int (3 : Int32)), .val (.int ver), .unset] [(.int ver)])) (fun t k => XS.iload X17.here hx rfl (hb hby at_110) rfl k) ?_
          refine own_via (U' := T17.setTop (mkF m 114 #[.val (.int x1), .val (.int x2), .val (.int sel), .val (.ref s1_), .val (.int (3 : Int32)), .val (.int ver), .unset] [(.int (3 : Int32)), (.int ver)])) (fun t k => XS.iload X17.here hx rfl (hb hby at_112) rfl k) ?_
          by_cases hc18 : ver < (3 : Int32)
          case pos =>
            refine own_via (U' := T17.setTop (mkF m 121 #[.val (.int x1), .val (.int x2), .val (.int sel), .val (.ref s1_), .val (.int (3 : Int32)), .val (.int ver), .unset] [])) (fun t k => XS.icmpYes X17.here hx rfl (pc0 := 114) (pc' := 121) rfl (hb hby at_114) rfl (tlt hc18).1 (by decide) (by decide) k) ?_
            refine own_via (U' := T17.setTop (mkF m 122 #[.val (.int x1), .val (.int x2), .val (.int sel), .val (.ref s1_), .val (.int (3 : Int32)), .val (.int ver), .unset] [(.int (0 : Int32))])) (fun t k => XS.iconst X17.here hx rfl (hb hby at_121) k) ?_
            refine own_via (U' := T17.setTop (mkF m 124 #[.val (.int x1), .val (.int x2), .val (.int sel), .val (.ref s1_), .val (.int (3 : Int32)), .val (.int ver), .val (.int (0 : Int32))] [])) (fun t k => XS.istore X17.here hx rfl (hb hby at_122) rfl (l' := #[.val (.int x1), .val (.int x2), .val (.int sel), .val (.ref s1_), .val (.int (3 : Int32)), .val (.int ver), .val (.int (0 : Int32))]) rfl k) ?_
            refine own_via (U' := T17.setTop (mkF m 125 #[.val (.int x1), .val (.int x2), .val (.int sel), .val (.ref s1_), .val (.int (3 : Int32)), .val (.int ver), .val (.int (0 : Int32))] [(.ref s1_)])) (fun t k => XS.aloadN X17.here hx rfl (hb hby at_124) rfl rfl k) ?_
            refine own_via (U' := T17.setTop (mkF m 127 #[.val (.int x1), .val (.int x2), .val (.int sel), .val (.ref s1_), .val (.int (3 : Int32)), .val (.int ver), .val (.int (0 : Int32))] [(.int ver), (.ref s1_)])) (fun t k => XS.iload X17.here hx rfl (hb hby at_125) rfl k) ?_
            obtain ⟨_, T19, L19, X19, hQ19, st19⟩ := own_callV X17 hx hZ (y := (⟨"com/example/colla/colla/wire/ApiKey", "isFlexible", "(S)Z"⟩ : MethodName)) (W := 0) (C := "com/example/colla/colla/wire/ApiKey") hown (hw _ (List.mem_of_getElem? (i := 4) rfl)) (hw _ (List.mem_of_getElem? (i := 5) rfl)) (hw _ (List.mem_of_getElem? (i := 7) rfl)) (hw _ (List.mem_of_getElem? (i := 6) rfl)) (hw _ (List.mem_of_getElem? (i := 2) rfl)) (hw _ (List.mem_of_getElem? (i := 8) rfl)) (by decide) (rm_Qif l Z a0 hw [] s1_ (3 : Int32) ver h0 n0 Z0 F1_) (by decide) (by decide) e17 E1_ (g := (mkF m 127 #[.val (.int x1), .val (.int x2), .val (.int sel), .val (.ref s1_), .val (.int (3 : Int32)), .val (.int ver), .val (.int (0 : Int32))] [(.int ver), (.ref s1_)])) rfl (by rw [hml]; rfl) (argsL := [(.int ver)]) (rest := []) rfl (lenOf pd_S__Z rfl) rfl (by show 2 * 0 + _ ≤ _; exact Nat.le_of_eq rfl) (hb hby at_127) (by decide) (by decide)
            obtain ⟨rfl, N19q, e19⟩ := hQ19
            have N19 := Fr.app N0 N19q
            refine own_via (U' := T19.setTop (mkF m 130 #[.val (.int x1), .val (.int x2), .val (.int sel), .val (.ref s1_), .val (.int (3 : Int32)), .val (.int ver), .val (.int (0 : Int32))] [(.int (if ver < (3 : Int32) then (0 : Int32) else (1 : Int32)))])) (fun t k => st19 t k) ?_
            refine own_via (U' := T19.setTop (mkF m 132 #[.val (.int x1), .val (.int x2), .val (.int sel), .val (.ref s1_), .val (.int (3 : Int32)), .val (.int ver), .val (.int (0 : Int32))] [(.int (0 : Int32)), (.int (if ver < (3 : Int32) then (0 : Int32) else (1 : Int32)))])) (fun t k => XS.iload X19.here hx rfl (hb hby at_130) rfl k) ?_
            refine own_via (U' := T19.setTop (mkF m 135 #[.val (.int x1), .val (.int x2), .val (.int sel), .val (.ref s1_), .val (.int (3 : Int32)), .val (.int ver), .val (.int (0 : Int32))] [])) (fun t k => XS.icmpNo X19.here hx rfl (hb hby at_132) rfl (teq (if_pos hc18)).2 k) ?_
            refine own_via (U' := T19.setTop (mkF m 136 #[.val (.int x1), .val (.int x2), .val (.int sel), .val (.ref s1_), .val (.int (3 : Int32)), .val (.int ver), .val (.int (0 : Int32))] [(.int (1 : Int32))])) (fun t k => XS.iconst X19.here hx rfl (hb hby at_135) k) ?_
            refine own_via (U' := T19.setTop (mkF m 140 #[.val (.int x1), .val (.int x2), .val (.int sel), .val (.ref s1_), .val (.int (3 : Int32)), .val (.int ver), .val (.int (0 : Int32))] [(.int (1 : Int32))])) (fun t k => XS.goto X19.here hx rfl (pc0 := 136) (pc' := 140) rfl (hb hby at_136) (by decide) (by decide) k) ?_
            exact own_ret X19 (v := some (.int (1 : Int32))) (fun h => by rw [Bd.returns] at h; cases h) hlk (fun fs hr => retN X19 hx (t := .boolean) Bd.returns (by simp) (hb hby at_140) hr) (by rw [e19]; exact ⟨rfl, N19⟩) (by decide) (by decide)
          case neg =>
            refine own_via (U' := T17.setTop (mkF m 117 #[.val (.int x1), .val (.int x2), .val (.int sel), .val (.ref s1_), .val (.int (3 : Int32)), .val (.int ver), .unset] [])) (fun t k => XS.icmpNo X17.here hx rfl (hb hby at_114) rfl (flt hc18).1 k) ?_
            refine own_via (U' := T17.setTop (mkF m 118 #[.val (.int x1), .val (.int x2), .val (.int sel), .val (.ref s1_), .val (.int (3 : Int32)), .val (.int ver), .unset] [(.int (1 : Int32))])) (fun t k => XS.iconst X17.here hx rfl (hb hby at_117) k) ?_
            refine own_via (U' := T17.setTop (mkF m 122 #[.val (.int x1), .val (.int x2), .val (.int sel), .val (.ref s1_), .val (.int (3 : Int32)), .val (.int ver), .unset] [(.int (1 : Int32))])) (fun t k => XS.goto X17.here hx rfl (pc0 := 118) (pc' := 122) rfl (hb hby at_118) (by decide) (by decide) k) ?_
            refine own_via (U' := T17.setTop (mkF m 124 #[.val (.int x1), .val (.int x2), .val (.int sel), .val (.ref s1_), .val (.int (3 : Int32)), .val (.int ver), .val (.int (1 : Int32))] [])) (fun t k => XS.istore X17.here hx rfl (hb hby at_122) rfl (l' := #[.val (.int x1), .val (.int x2), .val (.int sel), .val (.ref s1_), .val (.int (3 : Int32)), .val (.int ver), .val (.int (1 : Int32))]) rfl k) ?_
            refine own_via (U' := T17.setTop (mkF m 125 #[.val (.int x1), .val (.int x2), .val (.int sel), .val (.ref s1_), .val (.int (3 : Int32)), .val (.int ver), .val (.int (1 : Int32))] [(.ref s1_)])) (fun t k => XS.aloadN X17.here hx rfl (hb hby at_124) rfl rfl k) ?_
            refine own_via (U' := T17.setTop (mkF m 127 #[.val (.int x1), .val (.int x2), .val (.int sel), .val (.ref s1_), .val (.int (3 : Int32)), .val (.int ver), .val (.int (1 : Int32))] [(.int ver), (.ref s1_)])) (fun t k => XS.iload X17.here hx rfl (hb hby at_125) rfl k) ?_
            obtain ⟨_, T20, L20, X20, hQ20, st20⟩ := own_callV X17 hx hZ (y := (⟨"com/example/colla/colla/wire/ApiKey", "isFlexible", "(S)Z"⟩ : MethodName)) (W := 0) (C := "com/example/colla/colla/wire/ApiKey") hown (hw _ (List.mem_of_getElem? (i := 4) rfl)) (hw _ (List.mem_of_getElem? (i := 5) rfl)) (hw _ (List.mem_of_getElem? (i := 7) rfl)) (hw _ (List.mem_of_getElem? (i := 6) rfl)) (hw _ (List.mem_of_getElem? (i := 2) rfl)) (hw _ (List.mem_of_getElem? (i := 8) rfl)) (by decide) (rm_Qif l Z a0 hw [] s1_ (3 : Int32) ver h0 n0 Z0 F1_) (by decide) (by decide) e17 E1_ (g := (mkF m 127 #[.val (.int x1), .val (.int x2), .val (.int sel), .val (.ref s1_), .val (.int (3 : Int32)), .val (.int ver), .val (.int (1 : Int32))] [(.int ver), (.ref s1_)])) rfl (by rw [hml]; rfl) (argsL := [(.int ver)]) (rest := []) rfl (lenOf pd_S__Z rfl) rfl (by show 2 * 0 + _ ≤ _; exact Nat.le_of_eq rfl) (hb hby at_127) (by decide) (by decide)
            obtain ⟨rfl, N20q, e20⟩ := hQ20
            have N20 := Fr.app N0 N20q
            refine own_via (U' := T20.setTop (mkF m 130 #[.val (.int x1), .val (.int x2), .val (.int sel), .val (.ref s1_), .val (.int (3 : Int32)), .val (.int ver), .val (.int (1 : Int32))] [(.int (if ver < (3 : Int32) then (0 : Int32) else (1 : Int32)))])) (fun t k => st20 t k) ?_
            refine own_via (U' := T20.setTop (mkF m 132 #[.val (.int x1), .val (.int x2), .val (.int sel), .val (.ref s1_), .val (.int (3 : Int32)), .val (.int ver), .val (.int (1 : Int32))] [(.int (1 : Int32)), (.int (if ver < (3 : Int32) then (0 : Int32) else (1 : Int32)))])) (fun t k => XS.iload X20.here hx rfl (hb hby at_130) rfl k) ?_
            refine own_via (U' := T20.setTop (mkF m 135 #[.val (.int x1), .val (.int x2), .val (.int sel), .val (.ref s1_), .val (.int (3 : Int32)), .val (.int ver), .val (.int (1 : Int32))] [])) (fun t k => XS.icmpNo X20.here hx rfl (hb hby at_132) rfl (teq (if_neg hc18)).2 k) ?_
            refine own_via (U' := T20.setTop (mkF m 136 #[.val (.int x1), .val (.int x2), .val (.int sel), .val (.ref s1_), .val (.int (3 : Int32)), .val (.int ver), .val (.int (1 : Int32))] [(.int (1 : Int32))])) (fun t k => XS.iconst X20.here hx rfl (hb hby at_135) k) ?_
            refine own_via (U' := T20.setTop (mkF m 140 #[.val (.int x1), .val (.int x2), .val (.int sel), .val (.ref s1_), .val (.int (3 : Int32)), .val (.int ver), .val (.int (1 : Int32))] [(.int (1 : Int32))])) (fun t k => XS.goto X20.here hx rfl (pc0 := 136) (pc' := 140) rfl (hb hby at_136) (by decide) (by decide) k) ?_
            exact own_ret X20 (v := some (.int (1 : Int32))) (fun h => by rw [Bd.returns] at h; cases h) hlk (fun fs hr => retN X20 hx (t := .boolean) Bd.returns (by simp) (hb hby at_140) hr) (by rw [e20]; exact ⟨rfl, N20⟩) (by decide) (by decide)
        case neg =>
          refine own_via (U' := s₁.setTop (mkF m 69 #[.val (.int x1), .val (.int x2), .val (.int sel), .unset, .unset, .unset, .unset] [])) (fun t k => XS.icmpYes X0.here hx rfl (pc0 := 56) (pc' := 69) rfl (hb hby at_56) rfl (feq hc16).2 (by decide) (by decide) k) ?_
          refine own_via (U' := s₁.setTop (mkF m 70 #[.val (.int x1), .val (.int x2), .val (.int sel), .unset, .unset, .unset, .unset] [(.int sel)])) (fun t k => XS.iloadN X0.here hx rfl (hb hby at_69) rfl k) ?_
          refine own_via (U' := s₁.setTop (mkF m 71 #[.val (.int x1), .val (.int x2), .val (.int sel), .unset, .unset, .unset, .unset] [(.int (4 : Int32)), (.int sel)])) (fun t k => XS.iconst X0.here hx rfl (hb hby at_70) k) ?_
          by_cases hc21 : sel = (4 : Int32)
          case pos =>
            refine own_via (U' := s₁.setTop (mkF m 74 #[.val (.int x1), .val (.int x2), .val (.int sel), .unset, .unset, .unset, .unset] [])) (fun t k => XS.icmpNo X0.here hx rfl (hb hby at_71) rfl (teq hc21).2 k) ?_
            obtain ⟨T22, X22, e22, st22⟩ := getS2 (host := "") X0 hx hZ hown (Or.inl (hw _ (List.mem_of_getElem? (i := 15) rfl))) Via.refl e0 S3_ (g := (mkF m 74 #[.val (.int x1), .val (.int x2), .val (.int sel), .unset, .unset, .unset, .unset] [])) rfl (hb hby at_74)
            refine own_via (U' := T22.setTop (mkF m 77 #[.val (.int x1), .val (.int x2), .val (.int sel), .unset, .unset, .unset, .unset] [(.ref s3_)])) (fun t k => st22 t k) ?_
            refine own_via (U' := T22.setTop (mkF m 78 #[.val (.int x1), .val (.int x2), .val (.int sel), .val (.ref s3_), .unset, .unset, .unset] [])) (fun t k => XS.astoreN X22.here hx rfl (hb hby at_77) rfl rfl (l' := #[.val (.int x1), .val (.int x2), .val (.int sel), .val (.ref s3_), .unset, .unset, .unset]) rfl k) ?_
            refine own_via (U' := T22.setTop (mkF m 79 #[.val (.int x1), .val (.int x2), .val (.int sel), .val (.ref s3_), .unset, .unset, .unset] [(.int (3 : Int32))])) (fun t k => XS.iconst X22.here hx rfl (hb hby at_78) k) ?_
            refine own_via (U' := T22.setTop (mkF m 81 #[.val (.int x1), .val (.int x2), .val (.int sel), .val (.ref s3_), .val (.int (3 : Int32)), .unset, .unset] [])) (fun t k => XS.istore X22.here hx rfl (hb hby at_79) rfl (l' := #[.val (.int x1), .val (.int x2), .val (.int sel), .val (.ref s3_), .val (.int (3 : Int32)), .unset, .unset]) rfl k) ?_
            refine own_via (U' := T22.setTop (mkF m 106 #[.val (.int x1), .val (.int x2), .val (.int sel), .val (.ref s3_), .val (.int (3 : Int32)), .unset, .unset] [])) (fun t k => XS.goto X22.here hx rfl (pc0 := 81) (pc' := 106) rfl (hb hby at_81) (by decide) (by decide) k) ?_
            refine own_via (U' := T22.setTop (mkF m 107 #[.val (.int x1), .val (.int x2), .val (.int sel), .val (.ref s3_), .val (.int (3 : Int32)), .unset, .unset] [(.int x2)])) (fun t k => XS.iloadN X22.here hx rfl (hb hby at_106) rfl k) ?_
            refine own_via (U' := T22.setTop (mkF m 108 #[.val (.int x1), .val (.int x2), .val (.int sel), .val (.ref s3_), .val (.int (3 : Int32)), .unset, .unset] [(.int (x2.toInt16.toInt32))])) (fun t k => XS.i2s X22.here hx rfl (hb hby at_107) rfl k) ?_
            refine own_via (U' := T22.setTop (mkF m 110 #[.val (.int x1), .val (.int x2), .val (.int sel), .val (.ref s3_), .val (.int (3 : Int32)), .val (.int (x2.toInt16.toInt32)), .unset] [])) (fun t k => XS.istore X22.here hx rfl (hb hby at_108) rfl (l' := #[.val (.int x1), .val (.int x2), .val (.int sel), .val (.ref s3_), .val (.int (3 : Int32)), .val (.int (x2.toInt16.toInt32)), .unset]) rfl k) ?_
            generalize (x2.toInt16.toInt32) = ver
            refine own_via (U' := T22.setTop (mkF m 112 #[.val (.int x1), .val (.int x2), .val (.int sel), .val (.ref s3_), .val (.int (3 : Int32)), .val (.int ver), .unset] [(.int ver)])) (fun t k => XS.iload X22.here hx rfl (hb hby at_110) rfl k) ?_
            refine own_via (U' := T22.setTop (mkF m 114 #[.val (.int x1), .val (.int x2), .val (.int sel), .val (.ref s3_), .val (.int (3 : Int32)), .val (.int ver), .unset] [(.int (3 : Int32)), (.int ver)])) (fun t k => XS.iload X22.here hx rfl (hb hby at_112) rfl k) ?_
            by_cases hc23 : ver < (3 : Int32)
            case pos =>
              refine own_via (U' := T22.setTop (mkF m 121 #[.val (.int x1), .val (.int x2), .val (.int sel), .val (.ref s3_), .val (.int (3 : Int32)), .val (.int ver), .unset] [])) (fun t k => XS.icmpYes X22.here hx rfl (pc0 := 114) (pc' := 121) rfl (hb hby at_114) rfl (tlt hc23).1 (by decide) (by decide) k) ?_
              refine own_via (U' := T22.setTop (mkF m 122 #[.val (.int x1), .val (.int x2), .val (.int sel), .val (.ref s3_), .val (.int (3 : Int32)), .val (.int ver), .unset] [(.int (0 : Int32))])) (fun t k => XS.iconst X22.here hx rfl (hb hby at_121) k) ?_
              refine own_via (U' := T22.setTop (mkF m 124 #[.val (.int x1), .val (.int x2), .val (.int sel), .val (.ref s3_), .val (.int (3 : Int32)), .val (.int ver), .val (.int (0 : Int32))] [])) (fun t k => XS.istore X22.here hx rfl (hb hby at_122) rfl (l' := #[.val (.int x1), .val (.int x2), .val (.int sel), .val (.ref s3_), .val (.int (3 : Int32)), .val (.int ver), .val (.int (0 : Int32))]) rfl k) ?_
              refine own_via (U' := T22.setTop (mkF m 125 #[.val (.int x1), .val (.int x2), .val (.int sel), .val (.ref s3_), .val (.int (3 : Int32)), .val (.int ver), .val (.int (0 : Int32))] [(.ref s3_)])) (fun t k => XS.aloadN X22.here hx rfl (hb hby at_124) rfl rfl k) ?_
              refine own_via (U' := T22.setTop (mkF m 127 #[.val (.int x1), .val (.int x2), .val (.int sel), .val (.ref s3_), .val (.int (3 : Int32)), .val (.int ver), .val (.int (0 : Int32))] [(.int ver), (.ref s3_)])) (fun t k => XS.iload X22.here hx rfl (hb hby at_125) rfl k) ?_
              obtain ⟨_, T24, L24, X24, hQ24, st24⟩ := own_callV X22 hx hZ (y := (⟨"com/example/colla/colla/wire/ApiKey", "isFlexible", "(S)Z"⟩ : MethodName)) (W := 0) (C := "com/example/colla/colla/wire/ApiKey") hown (hw _ (List.mem_of_getElem? (i := 4) rfl)) (hw _ (List.mem_of_getElem? (i := 5) rfl)) (hw _ (List.mem_of_getElem? (i := 7) rfl)) (hw _ (List.mem_of_getElem? (i := 6) rfl)) (hw _ (List.mem_of_getElem? (i := 2) rfl)) (hw _ (List.mem_of_getElem? (i := 8) rfl)) (by decide) (rm_Qif l Z a0 hw [] s3_ (3 : Int32) ver h0 n0 Z0 F3_) (by decide) (by decide) e22 E3_ (g := (mkF m 127 #[.val (.int x1), .val (.int x2), .val (.int sel), .val (.ref s3_), .val (.int (3 : Int32)), .val (.int ver), .val (.int (0 : Int32))] [(.int ver), (.ref s3_)])) rfl (by rw [hml]; rfl) (argsL := [(.int ver)]) (rest := []) rfl (lenOf pd_S__Z rfl) rfl (by show 2 * 0 + _ ≤ _; exact Nat.le_of_eq rfl) (hb hby at_127) (by decide) (by decide)
              obtain ⟨rfl, N24q, e24⟩ := hQ24
              have N24 := Fr.app N0 N24q
              refine own_via (U' := T24.setTop (mkF m 130 #[.val (.int x1), .val (.int x2), .val (.int sel), .val (.ref s3_), .val (.int (3 : Int32)), .val (.int ver), .val (.int (0 : Int32))] [(.int (if ver < (3 : Int32) then (0 : Int32) else (1 : Int32)))])) (fun t k => st24 t k) ?_
              refine own_via (U' := T24.setTop (mkF m 132 #[.val (.int x1), .val (.int x2), .val (.int sel), .val (.ref s3_), .val (.int (3 : Int32)), .val (.int ver), .val (.int (0 : Int32))] [(.int (0 : Int32)), (.int (if ver < (3 : Int32) then (0 : Int32) else (1 : Int32)))])) (fun t k => XS.iload X24.here hx rfl (hb hby at_130) rfl k) ?_
              refine own_via (U' := T24.setTop (mkF m 135 #[.val (.int x1), .val (.int x2), .val (.int sel), .val (.ref s3_), .val (.int (3 : Int32)), .val (.int ver), .val (.int (0 : Int32))] [])) (fun t k => XS.icmpNo X24.here hx rfl (hb hby at_132) rfl (teq (if_pos hc23)).2 k) ?_
              refine own_via (U' := T24.setTop (mkF m 136 #[.val (.int x1), .val (.int x2), .val (.int sel), .val (.ref s3_), .val (.int (3 : Int32)), .val (.int ver), .val (.int (0 : Int32))] [(.int (1 : Int32))])) (fun t k => XS.iconst X24.here hx rfl (hb hby at_135) k) ?_
              refine own_via (U' := T24.setTop (mkF m 140 #[.val (.int x1), .val (.int x2), .val (.int sel), .val (.ref s3_), .val (.int (3 : Int32)), .val (.int ver), .val (.int (0 : Int32))] [(.int (1 : Int32))])) (fun t k => XS.goto X24.here hx rfl (pc0 := 136) (pc' := 140) rfl (hb hby at_136) (by decide) (by decide) k) ?_
              exact own_ret X24 (v := some (.int (1 : Int32))) (fun h => by rw [Bd.returns] at h; cases h) hlk (fun fs hr => retN X24 hx (t := .boolean) Bd.returns (by simp) (hb hby at_140) hr) (by rw [e24]; exact ⟨rfl, N24⟩) (by decide) (by decide)
            case neg =>
              refine own_via (U' := T22.setTop (mkF m 117 #[.val (.int x1), .val (.int x2), .val (.int sel), .val (.ref s3_), .val (.int (3 : Int32)), .val (.int ver), .unset] [])) (fun t k => XS.icmpNo X22.here hx rfl (hb hby at_114) rfl (flt hc23).1 k) ?_
              refine own_via (U' := T22.setTop (mkF m 118 #[.val (.int x1), .val (.int x2), .val (.int sel), .val (.ref s3_), .val (.int (3 : Int32)), .val (.int ver), .unset] [(.int (1 : Int32))])) (fun t k => XS.iconst X22.here hx rfl (hb hby at_117) k) ?_
              refine own_via (U' := T22.setTop (mkF m 122 #[.val (.int x1), .val (.int x2), .val (.int sel), .val (.ref s3_), .val (.int (3 : Int32)), .val (.int ver), .unset] [(.int (1 : Int32))])) (fun t k => XS.goto X22.here hx rfl (pc0 := 118) (pc' := 122) rfl (hb hby at_118) (by decide) (by decide) k) ?_
              refine own_via (U' := T22.setTop (mkF m 124 #[.val (.int x1), .val (.int x2), .val (.int sel), .val (.ref s3_), .val (.int (3 : Int32)), .val (.int ver), .val (.int (1 : Int32))] [])) (fun t k => XS.istore X22.here hx rfl (hb hby at_122) rfl (l' := #[.val (.int x1), .val (.int x2), .val (.int sel), .val (.ref s3_), .val (.int (3 : Int32)), .val (.int ver), .val (.int (1 : Int32))]) rfl k) ?_
              refine own_via (U' := T22.setTop (mkF m 125 #[.val (.int x1), .val (.int x2), .val (.int sel), .val (.ref s3_), .val (.int (3 : Int32)), .val (.int ver), .val (.int (1 : Int32))] [(.ref s3_)])) (fun t k => XS.aloadN X22.here hx rfl (hb hby at_124) rfl rfl k) ?_
              refine own_via (U' := T22.setTop (mkF m 127 #[.val (.int x1), .val (.int x2), .val (.int sel), .val (.ref s3_), .val (.int (3 : Int32)), .val (.int ver), .val (.int (1 : Int32))] [(.int ver), (.ref s3_)])) (fun t k => XS.iload X22.here hx rfl (hb hby at_125) rfl k) ?_
              obtain ⟨_, T25, L25, X25, hQ25, st25⟩ := own_callV X22 hx hZ (y := (⟨"com/example/colla/colla/wire/ApiKey", "isFlexible", "(S)Z"⟩ : MethodName)) (W := 0) (C := "com/example/colla/colla/wire/ApiKey") hown (hw _ (List.mem_of_getElem? (i := 4) rfl)) (hw _ (List.mem_of_getElem? (i := 5) rfl)) (hw _ (List.mem_of_getElem? (i := 7) rfl)) (hw _ (List.mem_of_getElem? (i := 6) rfl)) (hw _ (List.mem_of_getElem? (i := 2) rfl)) (hw _ (List.mem_of_getElem? (i := 8) rfl)) (by decide) (rm_Qif l Z a0 hw [] s3_ (3 : Int32) ver h0 n0 Z0 F3_) (by decide) (by decide) e22 E3_ (g := (mkF m 127 #[.val (.int x1), .val (.int x2), .val (.int sel), .val (.ref s3_), .val (.int (3 : Int32)), .val (.int ver), .val (.int (1 : Int32))] [(.int ver), (.ref s3_)])) rfl (by rw [hml]; rfl) (argsL := [(.int ver)]) (rest := []) rfl (lenOf pd_S__Z rfl) rfl (by show 2 * 0 + _ ≤ _; exact Nat.le_of_eq rfl) (hb hby at_127) (by decide) (by decide)
              obtain ⟨rfl, N25q, e25⟩ := hQ25
              have N25 := Fr.app N0 N25q
              refine own_via (U' := T25.setTop (mkF m 130 #[.val (.int x1), .val (.int x2), .val (.int sel), .val (.ref s3_), .val (.int (3 : Int32)), .val (.int ver), .val (.int (1 : Int32))] [(.int (if ver < (3 : Int32) then (0 : Int32) else (1 : Int32)))])) (fun t k => st25 t k) ?_
              refine own_via (U' := T25.setTop (mkF m 132 #[.val (.int x1), .val (.int x2), .val (.int sel), .val (.ref s3_), .val (.int (3 : Int32)), .val (.int ver), .val (.int (1 : Int32))] [(.int (1 : Int32)), (.int (if ver < (3 : Int32) then (0 : Int32) else (1 : Int32)))])) (fun t k => XS.iload X25.here hx rfl (hb hby at_130) rfl k) ?_
              refine own_via (U' := T25.setTop (mkF m 135 #[.val (.int x1), .val (.int x2), .val (.int sel), .val (.ref s3_), .val (.int (3 : Int32)), .val (.int ver), .val (.int (1 : Int32))] [])) (fun t k => XS.icmpNo X25.here hx rfl (hb hby at_132) rfl (teq (if_neg hc23)).2 k) ?_
              refine own_via (U' := T25.setTop (mkF m 136 #[.val (.int x1), .val (.int x2), .val (.int sel), .val (.ref s3_), .val (.int (3 : Int32)), .val (.int ver), .val (.int (1 : Int32))] [(.int (1 : Int32))])) (fun t k => XS.iconst X25.here hx rfl (hb hby at_135) k) ?_
              refine own_via (U' := T25.setTop (mkF m 140 #[.val (.int x1), .val (.int x2), .val (.int sel), .val (.ref s3_), .val (.int (3 : Int32)), .val (.int ver), .val (.int (1 : Int32))] [(.int (1 : Int32))])) (fun t k => XS.goto X25.here hx rfl (pc0 := 136) (pc' := 140) rfl (hb hby at_136) (by decide) (by decide) k) ?_
              exact own_ret X25 (v := some (.int (1 : Int32))) (fun h => by rw [Bd.returns] at h; cases h) hlk (fun fs hr => retN X25 hx (t := .boolean) Bd.returns (by simp) (hb hby at_140) hr) (by rw [e25]; exact ⟨rfl, N25⟩) (by decide) (by decide)
          case neg =>
            refine own_via (U' := s₁.setTop (mkF m 84 #[.val (.int x1), .val (.int x2), .val (.int sel), .unset, .unset, .unset, .unset] [])) (fun t k => XS.icmpYes X0.here hx rfl (pc0 := 71) (pc' := 84) rfl (hb hby at_71) rfl (feq hc21).2 (by decide) (by decide) k) ?_
            refine own_via (U' := s₁.setTop (mkF m 85 #[.val (.int x1), .val (.int x2), .val (.int sel), .unset, .unset, .unset, .unset] [(.int sel)])) (fun t k => XS.iloadN X0.here hx rfl (hb hby at_84) rfl k) ?_
            refine own_via (U' := s₁.setTop (mkF m 86 #[.val (.int x1), .val (.int x2), .val (.int sel), .unset, .unset, .unset, .unset] [(.int (5 : Int32)), (.int sel)])) (fun t k => XS.iconst X0.here hx rfl (hb hby at_85) k) ?_
            by_cases hc26 : sel = (5 : Int32)
            case pos =>
              refine own_via (U' := s₁.setTop (mkF m 89 #[.val (.int x1), .val (.int x2), .val (.int sel), .unset, .unset, .unset, .unset] [])) (fun t k => XS.icmpNo X0.here hx rfl (hb hby at_86) rfl (teq hc26).2 k) ?_
              obtain ⟨T27, X27, e27, st27⟩ := getS2 (host := "") X0 hx hZ hown (Or.inl (hw _ (List.mem_of_getElem? (i := 19) rfl))) Via.refl e0 S5_ (g := (mkF m 89 #[.val (.int x1), .val (.int x2), .val (.int sel), .unset, .unset, .unset, .unset] [])) rfl (hb hby at_89)
              refine own_via (U' := T27.setTop (mkF m 92 #[.val (.int x1), .val (.int x2), .val (.int sel), .unset, .unset, .unset, .unset] [(.ref s5_)])) (fun t k => st27 t k) ?_
              refine own_via (U' := T27.setTop (mkF m 93 #[.val (.int x1), .val (.int x2), .val (.int sel), .val (.ref s5_), .unset, .unset, .unset] [])) (fun t k => XS.astoreN X27.here hx rfl (hb hby at_92) rfl rfl (l' := #[.val (.int x1), .val (.int x2), .val (.int sel), .val (.ref s5_), .unset, .unset, .unset]) rfl k) ?_
              refine own_via (U' := T27.setTop (mkF m 94 #[.val (.int x1), .val (.int x2), .val (.int sel), .val (.ref s5_), .unset, .unset, .unset] [(.int (0 : Int32))])) (fun t k => XS.iconst X27.here hx rfl (hb hby at_93) k) ?_
              refine own_via (U' := T27.setTop (mkF m 96 #[.val (.int x1), .val (.int x2), .val (.int sel), .val (.ref s5_), .val (.int (0 : Int32)), .unset, .unset] [])) (fun t k => XS.istore X27.here hx rfl (hb hby at_94) rfl (l' := #[.val (.int x1), .val (.int x2), .val (.int sel), .val (.ref s5_), .val (.int (0 : Int32)), .unset, .unset]) rfl k) ?_
              refine own_via (U' := T27.setTop (mkF m 106 #[.val (.int x1), .val (.int x2), .val (.int sel), .val (.ref s5_), .val (.int (0 : Int32)), .unset, .unset] [])) (fun t k => XS.goto X27.here hx rfl (pc0 := 96) (pc' := 106) rfl (hb hby at_96) (by decide) (by decide) k) ?_
              refine own_via (U' := T27.setTop (mkF m 107 #[.val (.int x1), .val (.int x2), .val (.int sel), .val (.ref s5_), .val (.int (0 : Int32)), .unset, .unset] [(.int x2)])) (fun t k => XS.iloadN X27.here hx rfl (hb hby at_106) rfl k) ?_
              refine own_via (U' := T27.setTop (mkF m 108 #[.val (.int x1), .val (.int x2), .val (.int sel), .val (.ref s5_), .val (.int (0 : Int32)), .unset, .unset] [(.int (x2.toInt16.toInt32))])) (fun t k => XS.i2s X27.here hx rfl (hb hby at_107) rfl k) ?_
              refine own_via (U' := T27.setTop (mkF m 110 #[.val (.int x1), .val (.int x2), .val (.int sel), .val (.ref s5_), .val (.int (0 : Int32)), .val (.int (x2.toInt16.toInt32)), .unset] [])) (fun t k => XS.istore X27.here hx rfl (hb hby at_108) rfl (l' := #[.val (.int x1), .val (.int x2), .val (.int sel), .val (.ref s5_), .val (.int (0 : Int32)), .val (.int (x2.toInt16.toInt32)), .unset]) rfl k) ?_
              generalize (x2.toInt16.toInt32) = ver
              refine own_via (U' := T27.setTop (mkF m 112 #[.val (.int x1), .val (.int x2), .val (.int sel), .val (.ref s5_), .val (.int (0 : Int32)), .val (.int ver), .unset] [(.int ver)])) (fun t k => XS.iload X27.here hx rfl (hb hby at_110) rfl k) ?_
              refine own_via (U' := T27.setTop (mkF m 114 #[.val (.int x1), .val (.int x2), .val (.int sel), .val (.ref s5_), .val (.int (0 : Int32)), .val (.int ver), .unset] [(.int (0 : Int32)), (.int ver)])) (fun t k => XS.iload X27.here hx rfl (hb hby at_112) rfl k) ?_
              by_cases hc28 : ver < (0 : Int32)
              case pos =>
                refine own_via (U' := T27.setTop (mkF m 121 #[.val (.int x1), .val (.int x2), .val (.int sel), .val (.ref s5_), .val (.int (0 : Int32)), .val (.int ver), .unset] [])) (fun t k => XS.icmpYes X27.here hx rfl (pc0 := 114) (pc' := 121) rfl (hb hby at_114) rfl (tlt hc28).1 (by decide) (by decide) k) ?_
                refine own_via (U' := T27.setTop (mkF m 122 #[.val (.int x1), .val (.int x2), .val (.int sel), .val (.ref s5_), .val (.int (0 : Int32)), .val (.int ver), .unset] [(.int (0 : Int32))])) (fun t k => XS.iconst X27.here hx rfl (hb hby at_121) k) ?_
                refine own_via (U' := T27.setTop (mkF m 124 #[.val (.int x1), .val (.int x2), .val (.int sel), .val (.ref s5_), .val (.int (0 : Int32)), .val (.int ver), .val (.int (0 : Int32))] [])) (fun t k => XS.istore X27.here hx rfl (hb hby at_122) rfl (l' := #[.val (.int x1), .val (.int x2), .val (.int sel), .val (.ref s5_), .val (.int (0 : Int32)), .val (.int ver), .val (.int (0 : Int32))]) rfl k) ?_
                refine own_via (U' := T27.setTop (mkF m 125 #[.val (.int x1), .val (.int x2), .val (.int sel), .val (.ref s5_), .val (.int (0 : Int32)), .val (.int ver), .val (.int (0 : Int32))] [(.ref s5_)])) (fun t k => XS.aloadN X27.here hx rfl (hb hby at_124) rfl rfl k) ?_
                refine own_via (U' := T27.setTop (mkF m 127 #[.val (.int x1), .val (.int x2), .val (.int sel), .val (.ref s5_), .val (.int (0 : Int32)), .val (.int ver), .val (.int (0 : Int32))] [(.int ver), (.ref s5_)])) (fun t k => XS.iload X27.here hx rfl (hb hby at_125) rfl k) ?_
                obtain ⟨_, T29, L29, X29, hQ29, st29⟩ := own_callV X27 hx hZ (y := (⟨"com/example/colla/colla/wire/ApiKey", "isFlexible", "(S)Z"⟩ : MethodName)) (W := 0) (C := "com/example/colla/colla/wire/ApiKey") hown (hw _ (List.mem_of_getElem? (i := 4) rfl)) (hw _ (List.mem_of_getElem? (i := 5) rfl)) (hw _ (List.mem_of_getElem? (i := 7) rfl)) (hw _ (List.mem_of_getElem? (i := 6) rfl)) (hw _ (List.mem_of_getElem? (i := 2) rfl)) (hw _ (List.mem_of_getElem? (i := 8) rfl)) (by decide) (rm_Qif l Z a0 hw [] s5_ (0 : Int32) ver h0 n0 Z0 F5_) (by decide) (by decide) e27 E5_ (g := (mkF m 127 #[.val (.int x1), .val (.int x2), .val (.int sel), .val (.ref s5_), .val (.int (0 : Int32)), .val (.int ver), .val (.int (0 : Int32))] [(.int ver), (.ref s5_)])) rfl (by rw [hml]; rfl) (argsL := [(.int ver)]) (rest := []) rfl (lenOf pd_S__Z rfl) rfl (by show 2 * 0 + _ ≤ _; exact Nat.le_of_eq rfl) (hb hby at_127) (by decide) (by decide)
                obtain ⟨rfl, N29q, e29⟩ := hQ29
                have N29 := Fr.app N0 N29q
                refine own_via (U' := T29.setTop (mkF m 130 #[.val (.int x1), .val (.int x2), .val (.int sel), .val (.ref s5_), .val (.int (0 : Int32)), .val (.int ver), .val (.int (0 : Int32))] [(.int (if ver < (0 : Int32) then (0 : Int32) else (1 : Int32)))])) (fun t k => st29 t k) ?_
                refine own_via (U' := T29.setTop (mkF m 132 #[.val (.int x1), .val (.int x2), .val (.int sel), .val (.ref s5_), .val (.int (0 : Int32)), .val (.int ver), .val (.int (0 : Int32))] [(.int (0 : Int32)), (.int (if ver < (0 : Int32) then (0 : Int32) else (1 : Int32)))])) (fun t k => XS.iload X29.here hx rfl (hb hby at_130) rfl k) ?_
                refine own_via (U' := T29.setTop (mkF m 135 #[.val (.int x1), .val (.int x2), .val (.int sel), .val (.ref s5_), .val (.int (0 : Int32)), .val (.int ver), .val (.int (0 : Int32))] [])) (fun t k => XS.icmpNo X29.here hx rfl (hb hby at_132) rfl (teq (if_pos hc28)).2 k) ?_
                refine own_via (U' := T29.setTop (mkF m 136 #[.val (.int x1), .val (.int x2), .val (.int sel), .val (.ref s5_), .val (.int (0 : Int32)), .val (.int ver), .val (.int (0 : Int32))] [(.int (1 : Int32))])) (fun t k => XS.iconst X29.here hx rfl (hb hby at_135) k) ?_
                refine own_via (U' := T29.setTop (mkF m 140 #[.val (.int x1), .val (.int x2), .val (.int sel), .val (.ref s5_), .val (.int (0 : Int32)), .val (.int ver), .val (.int (0 : Int32))] [(.int (1 : Int32))])) (fun t k => XS.goto X29.here hx rfl (pc0 := 136) (pc' := 140) rfl (hb hby at_136) (by decide) (by decide) k) ?_
                exact own_ret X29 (v := some (.int (1 : Int32))) (fun h => by rw [Bd.returns] at h; cases h) hlk (fun fs hr => retN X29 hx (t := .boolean) Bd.returns (by simp) (hb hby at_140) hr) (by rw [e29]; exact ⟨rfl, N29⟩) (by decide) (by decide)
              case neg =>
                refine own_via (U' := T27.setTop (mkF m 117 #[.val (.int x1), .val (.int x2), .val (.int sel), .val (.ref s5_), .val (.int (0 : Int32)), .val (.int ver), .unset] [])) (fun t k => XS.icmpNo X27.here hx rfl (hb hby at_114) rfl (flt hc28).1 k) ?_
                refine own_via (U' := T27.setTop (mkF m 118 #[.val (.int x1), .val (.int x2), .val (.int sel), .val (.ref s5_), .val (.int (0 : Int32)), .val (.int ver), .unset] [(.int (1 : Int32))])) (fun t k => XS.iconst X27.here hx rfl (hb hby at_117) k) ?_
                refine own_via (U' := T27.setTop (mkF m 122 #[.val (.int x1), .val (.int x2), .val (.int sel), .val (.ref s5_), .val (.int (0 : Int32)), .val (.int ver), .unset] [(.int (1 : Int32))])) (fun t k => XS.goto X27.here hx rfl (pc0 := 118) (pc' := 122) rfl (hb hby at_118) (by decide) (by decide) k) ?_
                refine own_via (U' := T27.setTop (mkF m 124 #[.val (.int x1), .val (.int x2), .val (.int sel), .val (.ref s5_), .val (.int (0 : Int32)), .val (.int ver), .val (.int (1 : Int32))] [])) (fun t k => XS.istore X27.here hx rfl (hb hby at_122) rfl (l' := #[.val (.int x1), .val (.int x2), .val (.int sel), .val (.ref s5_), .val (.int (0 : Int32)), .val (.int ver), .val (.int (1 : Int32))]) rfl k) ?_
                refine own_via (U' := T27.setTop (mkF m 125 #[.val (.int x1), .val (.int x2), .val (.int sel), .val (.ref s5_), .val (.int (0 : Int32)), .val (.int ver), .val (.int (1 : Int32))] [(.ref s5_)])) (fun t k => XS.aloadN X27.here hx rfl (hb hby at_124) rfl rfl k) ?_
                refine own_via (U' := T27.setTop (mkF m 127 #[.val (.int x1), .val (.int x2), .val (.int sel), .val (.ref s5_), .val (.int (0 : Int32)), .val (.int ver), .val (.int (1 : Int32))] [(.int ver), (.ref s5_)])) (fun t k => XS.iload X27.here hx rfl (hb hby at_125) rfl k) ?_
                obtain ⟨_, T30, L30, X30, hQ30, st30⟩ := own_callV X27 hx hZ (y := (⟨"com/example/colla/colla/wire/ApiKey", "isFlexible", "(S)Z"⟩ : MethodName)) (W := 0) (C := "com/example/colla/colla/wire/ApiKey") hown (hw _ (List.mem_of_getElem? (i := 4) rfl)) (hw _ (List.mem_of_getElem? (i := 5) rfl)) (hw _ (List.mem_of_getElem? (i := 7) rfl)) (hw _ (List.mem_of_getElem? (i := 6) rfl)) (hw _ (List.mem_of_getElem? (i := 2) rfl)) (hw _ (List.mem_of_getElem? (i := 8) rfl)) (by decide) (rm_Qif l Z a0 hw [] s5_ (0 : Int32) ver h0 n0 Z0 F5_) (by decide) (by decide) e27 E5_ (g := (mkF m 127 #[.val (.int x1), .val (.int x2), .val (.int sel), .val (.ref s5_), .val (.int (0 : Int32)), .val (.int ver), .val (.int (1 : Int32))] [(.int ver), (.ref s5_)])) rfl (by rw [hml]; rfl) (argsL := [(.int ver)]) (rest := []) rfl (lenOf pd_S__Z rfl) rfl (by show 2 * 0 + _ ≤ _; exact Nat.le_of_eq rfl) (hb hby at_127) (by decide) (by decide)
                obtain ⟨rfl, N30q, e30⟩ := hQ30
                have N30 := Fr.app N0 N30q
                refine own_via (U' := T30.setTop (mkF m 130 #[.val (.int x1), .val (.int x2), .val (.int sel), .val (.ref s5_), .val (.int (0 : Int32)), .val (.int ver), .val (.int (1 : Int32))] [(.int (if ver < (0 : Int32) then (0 : Int32) else (1 : Int32)))])) (fun t k => st30 t k) ?_
                refine own_via (U' := T30.setTop (mkF m 132 #[.val (.int x1), .val (.int x2), .val (.int sel), .val (.ref s5_), .val (.int (0 : Int32)), .val (.int ver), .val (.int (1 : Int32))] [(.int (1 : Int32)), (.int (if ver < (0 : Int32) then (0 : Int32) else (1 : Int32)))])) (fun t k => XS.iload X30.here hx rfl (hb hby at_130) rfl k) ?_
                refine own_via (U' := T30.setTop (mkF m 135 #[.val (.int x1), .val (.int x2), .val (.int sel), .val (.ref s5_), .val (.int (0 : Int32)), .val (.int ver), .val (.int (1 : Int32))] [])) (fun t k => XS.icmpNo X30.here hx rfl (hb hby at_132) rfl (teq (if_neg hc28)).2 k) ?_
                refine own_via (U' := T30.setTop (mkF m 136 #[.val (.int x1), .val (.int x2), .val (.int sel), .val (.ref s5_), .val (.int (0 : Int32)), .val (.int ver), .val (.int (1 : Int32))] [(.int (1 : Int32))])) (fun t k => XS.iconst X30.here hx rfl (hb hby at_135) k) ?_
                refine own_via (U' := T30.setTop (mkF m 140 #[.val (.int x1), .val (.int x2), .val (.int sel), .val (.ref s5_), .val (.int (0 : Int32)), .val (.int ver), .val (.int (1 : Int32))] [(.int (1 : Int32))])) (fun t k => XS.goto X30.here hx rfl (pc0 := 136) (pc' := 140) rfl (hb hby at_136) (by decide) (by decide) k) ?_
                exact own_ret X30 (v := some (.int (1 : Int32))) (fun h => by rw [Bd.returns] at h; cases h) hlk (fun fs hr => retN X30 hx (t := .boolean) Bd.returns (by simp) (hb hby at_140) hr) (by rw [e30]; exact ⟨rfl, N30⟩) (by decide) (by decide)
            case neg =>
              refine own_via (U' := s₁.setTop (mkF m 99 #[.val (.int x1), .val (.int x2), .val (.int sel), .unset, .unset, .unset, .unset] [])) (fun t k => XS.icmpYes X0.here hx rfl (pc0 := 86) (pc' := 99) rfl (hb hby at_86) rfl (feq hc26).2 (by decide) (by decide) k) ?_
              obtain ⟨T31, X31, e31, st31⟩ := getS2 (host := "") X0 hx hZ hown (Or.inl (hw _ (List.mem_of_getElem? (i := 17) rfl))) Via.refl e0 S4_ (g := (mkF m 99 #[.val (.int x1), .val (.int x2), .val (.int sel), .unset, .unset, .unset, .unset] [])) rfl (hb hby at_99)
              refine own_via (U' := T31.setTop (mkF m 102 #[.val (.int x1), .val (.int x2), .val (.int sel), .unset, .unset, .unset, .unset] [(.ref s4_)])) (fun t k => st31 t k) ?_
              refine own_via (U' := T31.setTop (mkF m 103 #[.val (.int x1), .val (.int x2), .val (.int sel), .val (.ref s4_), .unset, .unset, .unset] [])) (fun t k => XS.astoreN X31.here hx rfl (hb hby at_102) rfl rfl (l' := #[.val (.int x1), .val (.int x2), .val (.int sel), .val (.ref s4_), .unset, .unset, .unset]) rfl k) ?_
              refine own_via (U' := T31.setTop (mkF m 104 #[.val (.int x1), .val (.int x2), .val (.int sel), .val (.ref s4_), .unset, .unset, .unset] [(.int (0 : Int32))])) (fun t k => XS.iconst X31.here hx rfl (hb hby at_103) k) ?_
              refine own_via (U' := T31.setTop (mkF m 106 #[.val (.int x1), .val (.int x2), .val (.int sel), .val (.ref s4_), .val (.int (0 : Int32)), .unset, .unset] [])) (fun t k => XS.istore X31.here hx rfl (hb hby at_104) rfl (l' := #[.val (.int x1), .val (.int x2), .val (.int sel), .val (.ref s4_), .val (.int (0 : Int32)), .unset, .unset]) rfl k) ?_
              refine own_via (U' := T31.setTop (mkF m 107 #[.val (.int x1), .val (.int x2), .val (.int sel), .val (.ref s4_), .val (.int (0 : Int32)), .unset, .unset] [(.int x2)])) (fun t k => XS.iloadN X31.here hx rfl (hb hby at_106) rfl k) ?_
              refine own_via (U' := T31.setTop (mkF m 108 #[.val (.int x1), .val (.int x2), .val (.int sel), .val (.ref s4_), .val (.int (0 : Int32)), .unset, .unset] [(.int (x2.toInt16.toInt32))])) (fun t k => XS.i2s X31.here hx rfl (hb hby at_107) rfl k) ?_
              refine own_via (U' := T31.setTop (mkF m 110 #[.val (.int x1), .val (.int x2), .val (.int sel), .val (.ref s4_), .val (.int (0 : Int32)), .val (.int (x2.toInt16.toInt32)), .unset] [])) (fun t k => XS.istore X31.here hx rfl (hb hby at_108) rfl (l' := #[.val (.int x1), .val (.int x2), .val (.int sel), .val (.ref s4_), .val (.int (0 : Int32)), .val (.int (x2.toInt16.toInt32)), .unset]) rfl k) ?_
              generalize (x2.toInt16.toInt32) = ver
              refine own_via (U' := T31.setTop (mkF m 112 #[.val (.int x1), .val (.int x2), .val (.int sel), .val (.ref s4_), .val (.int (0 : Int32)), .val (.int ver), .unset] [(.int ver)])) (fun t k => XS.iload X31.here hx rfl (hb hby at_110) rfl k) ?_
              refine own_via (U' := T31.setTop (mkF m 114 #[.val (.int x1), .val (.int x2), .val (.int sel), .val (.ref s4_), .val (.int (0 : Int32)), .val (.int ver), .unset] [(.int (0 : Int32)), (.int ver)])) (fun t k => XS.iload X31.here hx rfl (hb hby at_112) rfl k) ?_
              by_cases hc32 : ver < (0 : Int32)
              case pos =>
                refine own_via (U' := T31.setTop (mkF m 121 #[.val (.int x1), .val (.int x2), .val (.int sel), .val (.ref s4_), .val (.int (0 : Int32)), .val (.int ver), .unset] [])) (fun t k => XS.icmpYes X31.here hx rfl (pc0 := 114) (pc' := 121) rfl (hb hby at_114) rfl (tlt hc32).1 (by decide) (by decide) k) ?_
                refine own_via (U' := T31.setTop (mkF m 122 #[.val (.int x1), .val (.int x2), .val (.int sel), .val (.ref s4_), .val (.int (0 : Int32)), .val (.int ver), .unset] [(.int (0 : Int32))])) (fun t k => XS.iconst X31.here hx rfl (hb hby at_121) k) ?_
                refine own_via (U' := T31.setTop (mkF m 124 #[.val (.int x1), .val (.int x2), .val (.int sel), .val (.ref s4_), .val (.int (0 : Int32)), .val (.int ver), .val (.int (0 : Int32))] [])) (fun t k => XS.istore X31.here hx rfl (hb hby at_122) rfl (l' := #[.val (.int x1), .val (.int x2), .val (.int sel), .val (.ref s4_), .val (.int (0 : Int32)), .val (.int ver), .val (.int (0 : Int32))]) rfl k) ?_
                refine own_via (U' := T31.setTop (mkF m 125 #[.val (.int x1), .val (.int x2), .val (.int sel), .val (.ref s4_), .val (.int (0 : Int32)), .val (.int ver), .val (.int (0 : Int32))] [(.ref s4_)])) (fun t k => XS.aloadN X31.here hx rfl (hb hby at_124) rfl rfl k) ?_
                refine own_via (U' := T31.setTop (mkF m 127 #[.val (.int x1), .val (.int x2), .val (.int sel), .val (.ref s4_), .val (.int (0 : Int32)), .val (.int ver), .val (.int (0 : Int32))] [(.int ver), (.ref s4_)])) (fun t k => XS.iload X31.here hx rfl (hb hby at_125) rfl k) ?_
                obtain ⟨_, T33, L33, X33, hQ33, st33⟩ := own_callV X31 hx hZ (y := (⟨"com/example/colla/colla/wire/ApiKey", "isFlexible", "(S)Z"⟩ : MethodName)) (W := 0) (C := "com/example/colla/colla/wire/ApiKey") hown (hw _ (List.mem_of_getElem? (i := 4) rfl)) (hw _ (List.mem_of_getElem? (i := 5) rfl)) (hw _ (List.mem_of_getElem? (i := 7) rfl)) (hw _ (List.mem_of_getElem? (i := 6) rfl)) (hw _ (List.mem_of_getElem? (i := 2) rfl)) (hw _ (List.mem_of_getElem? (i := 8) rfl)) (by decide) (rm_Qif l Z a0 hw [] s4_ (0 : Int32) ver h0 n0 Z0 F4_) (by decide) (by decide) e31 E4_ (g := (mkF m 127 #[.val (.int x1), .val (.int x2), .val (.int sel), .val (.ref s4_), .val (.int (0 : Int32)), .val (.int ver), .val (.int (0 : Int32))] [(.int ver), (.ref s4_)])) rfl (by rw [hml]; rfl) (argsL := [(.int ver)]) (rest := []) rfl (lenOf pd_S__Z rfl) rfl (by show 2 * 0 + _ ≤ _; exact Nat.le_of_eq rfl) (hb hby at_127) (by decide) (by decide)
                obtain ⟨rfl, N33q, e33⟩ := hQ33
                have N33 := Fr.app N0 N33q
                refine own_via (U' := T33.setTop (mkF m 130 #[.val (.int x1), .val (.int x2), .val (.int sel), .val (.ref s4_), .val (.int (0 : Int32)), .val (.int ver), .val (.int (0 : Int32))] [(.int (if ver < (0 : Int32) then (0 : Int32) else (1 : Int32)))])) (fun t k => st33 t k) ?_
                refine own_via (U' := T33.setTop (mkF m 132 #[.val (.int x1), .val (.int x2), .val (.int sel), .val (.ref s4_), .val (.int (0 : Int32)), .val (.int ver), .val (.int (0 : Int32))] [(.int (0 : Int32)), (.int (if ver < (0 : Int32) then (0 : Int32) else (1 : Int32)))])) (fun t k => XS.iload X33.here hx rfl (hb hby at_130) rfl k) ?_
                refine own_via (U' := T33.setTop (mkF m 135 #[.val (.int x1), .val (.int x2), .val (.int sel), .val (.ref s4_), .val (.int (0 : Int32)), .val (.int ver), .val (.int (0 : Int32))] [])) (fun t k => XS.icmpNo X33.here hx rfl (hb hby at_132) rfl (teq (if_pos hc32)).2 k) ?_
                refine own_via (U' := T33.setTop (mkF m 136 #[.val (.int x1), .val (.int x2), .val (.int sel), .val (.ref s4_), .val (.int (0 : Int32)), .val (.int ver), .val (.int (0 : Int32))] [(.int (1 : Int32))])) (fun t k => XS.iconst X33.here hx rfl (hb hby at_135) k) ?_
                refine own_via (U' := T33.setTop (mkF m 140 #[.val (.int x1), .val (.int x2), .val (.int sel), .val (.ref s4_), .val (.int (0 : Int32)), .val (.int ver), .val (.int (0 : Int32))] [(.int (1 : Int32))])) (fun t k => XS.goto X33.here hx rfl (pc0 := 136) (pc' := 140) rfl (hb hby at_136) (by decide) (by decide) k) ?_
                exact own_ret X33 (v := some (.int (1 : Int32))) (fun h => by rw [Bd.returns] at h; cases h) hlk (fun fs hr => retN X33 hx (t := .boolean) Bd.returns (by simp) (hb hby at_140) hr) (by rw [e33]; exact ⟨rfl, N33⟩) (by decide) (by decide)
              case neg =>
                refine own_via (U' := T31.setTop (mkF m 117 #[.val (.int x1), .val (.int x2), .val (.int sel), .val (.ref s4_), .val (.int (0 : Int32)), .val (.int ver), .unset] [])) (fun t k => XS.icmpNo X31.here hx rfl (hb hby at_114) rfl (flt hc32).1 k) ?_
                refine own_via (U' := T31.setTop (mkF m 118 #[.val (.int x1), .val (.int x2), .val (.int sel), .val (.ref s4_), .val (.int (0 : Int32)), .val (.int ver), .unset] [(.int (1 : Int32))])) (fun t k => XS.iconst X31.here hx rfl (hb hby at_117) k) ?_
                refine own_via (U' := T31.setTop (mkF m 122 #[.val (.int x1), .val (.int x2), .val (.int sel), .val (.ref s4_), .val (.int (0 : Int32)), .val (.int ver), .unset] [(.int (1 : Int32))])) (fun t k => XS.goto X31.here hx rfl (pc0 := 118) (pc' := 122) rfl (hb hby at_118) (by decide) (by decide) k) ?_
                refine own_via (U' := T31.setTop (mkF m 124 #[.val (.int x1), .val (.int x2), .val (.int sel), .val (.ref s4_), .val (.int (0 : Int32)), .val (.int ver), .val (.int (1 : Int32))] [])) (fun t k => XS.istore X31.here hx rfl (hb hby at_122) rfl (l' := #[.val (.int x1), .val (.int x2), .val (.int sel), .val (.ref s4_), .val (.int (0 : Int32)), .val (.int ver), .val (.int (1 : Int32))]) rfl k) ?_
                refine own_via (U' := T31.setTop (mkF m 125 #[.val (.int x1), .val (.int x2), .val (.int sel), .val (.ref s4_), .val (.int (0 : Int32)), .val (.int ver), .val (.int (1 : Int32))] [(.ref s4_)])) (fun t k => XS.aloadN X31.here hx rfl (hb hby at_124) rfl rfl k) ?_
                refine own_via (U' := T31.setTop (mkF m 127 #[.val (.int x1), .val (.int x2), .val (.int sel), .val (.ref s4_), .val (.int (0 : Int32)), .val (.int ver), .val (.int (1 : Int32))] [(.int ver), (.ref s4_)])) (fun t k => XS.iload X31.here hx rfl (hb hby at_125) rfl k) ?_
                obtain ⟨_, T34, L34, X34, hQ34, st34⟩ := own_callV X31 hx hZ (y := (⟨"com/example/colla/colla/wire/ApiKey", "isFlexible", "(S)Z"⟩ : MethodName)) (W := 0) (C := "com/example/colla/colla/wire/ApiKey") hown (hw _ (List.mem_of_getElem? (i := 4) rfl)) (hw _ (List.mem_of_getElem? (i := 5) rfl)) (hw _ (List.mem_of_getElem? (i := 7) rfl)) (hw _ (List.mem_of_getElem? (i := 6) rfl)) (hw _ (List.mem_of_getElem? (i := 2) rfl)) (hw _ (List.mem_of_getElem? (i := 8) rfl)) (by decide) (rm_Qif l Z a0 hw [] s4_ (0 : Int32) ver h0 n0 Z0 F4_) (by decide) (by decide) e31 E4_ (g := (mkF m 127 #[.val (.int x1), .val (.int x2), .val (.int sel), .val (.ref s4_), .val (.int (0 : Int32)), .val (.int ver), .val (.int (1 : Int32))] [(.int ver), (.ref s4_)])) rfl (by rw [hml]; rfl) (argsL := [(.int ver)]) (rest := []) rfl (lenOf pd_S__Z rfl) rfl (by show 2 * 0 + _ ≤ _; exact Nat.le_of_eq rfl) (hb hby at_127) (by decide) (by decide)
                obtain ⟨rfl, N34q, e34⟩ := hQ34
                have N34 := Fr.app N0 N34q
                refine own_via (U' := T34.setTop (mkF m 130 #[.val (.int x1), .val (.int x2), .val (.int sel), .val (.ref s4_), .val (.int (0 : Int32)), .val (.int ver), .val (.int (1 : Int32))] [(.int (if ver < (0 : Int32) then (0 : Int32) else (1 : Int32)))])) (fun t k => st34 t k) ?_
                refine own_via (U' := T34.setTop (mkF m 132 #[.val (.int x1), .val (.int x2), .val (.int sel), .val (.ref s4_), .val (.int (0 : Int32)), .val (.int ver), .val (.int (1 : Int32))] [(.int (1 : Int32)), (.int (if ver < (0 : Int32) then (0 : Int32) else (1 : Int32)))])) (fun t k => XS.iload X34.here hx rfl (hb hby at_130) rfl k) ?_
                refine own_via (U' := T34.setTop (mkF m 135 #[.val (.int x1), .val (.int x2), .val (.int sel), .val (.ref s4_), .val (.int (0 : Int32)), .val (.int ver), .val (.int (1 : Int32))] [])) (fun t k => XS.icmpNo X34.here hx rfl (hb hby at_132) rfl (teq (if_neg hc32)).2 k) ?_
                refine own_via (U' := T34.setTop (mkF m 136 #[.val (.int x1), .val (.int x2), .val (.int sel), .val (.ref s4_), .val (.int (0 : Int32)), .val (.int ver), .val (.int (1 : Int32))] [(.int (1 : Int32))])) (fun t k => XS.iconst X34.here hx rfl (hb hby at_135) k) ?_
                refine own_via (U' := T34.setTop (mkF m 140 #[.val (.int x1), .val (.int x2), .val (.int sel), .val (.ref s4_), .val (.int (0 : Int32)), .val (.int ver), .val (.int (1 : Int32))] [(.int (1 : Int32))])) (fun t k => XS.goto X34.here hx rfl (pc0 := 136) (pc' := 140) rfl (hb hby at_136) (by decide) (by decide) k) ?_
                exact own_ret X34 (v := some (.int (1 : Int32))) (fun h => by rw [Bd.returns] at h; cases h) hlk (fun fs hr => retN X34 hx (t := .boolean) Bd.returns (by simp) (hb hby at_140) hr) (by rw [e34]; exact ⟨rfl, N34⟩) (by decide) (by decide)
set_option maxRecDepth 65536 in
set_option maxHeartbeats 40000000 in
theorem comes_1 {Post : Tables → Env → Array Value → State → Outcome → State → Prop} (hpost : ∀ tb e args s v u, (limb_1_1.after args s (.returned v) u = true ∧ limb_1_2.after args s (.returned v) u = true ∧ True) → FrameEnd s (.returned v) u (Jvm.fieldLocs frame_1_writes args s ++ Jvm.arrayLocs frame_1_arrays args s ++ Jvm.staticLocs frame_1_statics s) 0 0 → Post tb e args s (.returned v) u) :
    ArmFor flags0 classFile x code maxLocals ret World_1 tables_1 room_1 Calls_1 rest_1 Pre_1 Post := by
  intro l hfl _ _ p e ha hc hk s m args below hf hA hF happ hP
  obtain ⟨hcalls, hrest, hpre⟩ := hP
  obtain ⟨-, -, -, hnamed, -, -, -, hat⟩ := (Spec.applies_iff hf).mp happ
  obtain ⟨hg, hn⟩ := and_e (Cond.before_iff.mp (show (Jvm.Cond.and given_1 narrow_1).before args s = true from hpre))
  obtain ⟨hcount, r0⟩ := and_e hg
  obtain ⟨k0, r1⟩ := and_e r0
  obtain ⟨w0, w1, rfl⟩ : ∃ w0 w1 : Value, args = #[w0, w1] := by
    have hs : args.size = 2 := by simpa [Cond.value, given_1] using hcount
    obtain ⟨L⟩ := args
    match L, hs with
    | [w0, w1], _ => exact ⟨w0, w1, rfl⟩
  have hw := fun d (hd : d ∈ tables_1) => atoms_spec (ws := Jvm.Cond.code x code maxLocals ret :: tables_1) hat d (List.mem_cons_of_mem _ hd)
  have hfit : Fit s := fun {y c} hc i hi => by
    obtain ⟨ha, rfl⟩ := Array.getElem?_eq_some_iff.mp hc
    have q := List.all_eq_true.mp ((Array.all_eq_true_iff_forall_mem.mp hF) _ (Array.getElem_mem ha)) i (List.mem_range.mpr hi)
    simpa [Array.getElem?_eq_getElem hi] using q
  obtain ⟨i0, ei0⟩ := is_v k0
  obtain rfl : w0 = (.int i0) := Option.some.inj ei0
  obtain ⟨i1, ei1⟩ := is_v r1
  obtain rfl : w1 = (.int i1) := Option.some.inj ei1
  obtain ⟨na0, nr0⟩ := and_e hn
  obtain ⟨nb0, nq0⟩ := and_e nr0
  obtain ⟨y0, v0⟩ := exa_v na0
  have S0_ := Sta.start v0 (Or.inr ⟨(hw _ (List.mem_of_getElem? (i := 2) rfl)), (hw _ (List.mem_of_getElem? (i := 3) rfl))⟩)
  have E0_ := Exa.start v0 na0
  have F0_ := own_eqI v0 nb0
  obtain ⟨na1, nr1⟩ := and_e nq0
  obtain ⟨nb1, nq1⟩ := and_e nr1
  obtain ⟨y1, v1⟩ := exa_v na1
  have S1_ := Sta.start v1 (Or.inr ⟨(hw _ (List.mem_of_getElem? (i := 2) rfl)), (hw _ (List.mem_of_getElem? (i := 12) rfl))⟩)
  have E1_ := Exa.start v1 na1
  have F1_ := own_eqI v1 nb1
  obtain ⟨na2, nr2⟩ := and_e nq1
  obtain ⟨nb2, nq2⟩ := and_e nr2
  obtain ⟨y2, v2⟩ := exa_v na2
  have S2_ := Sta.start v2 (Or.inr ⟨(hw _ (List.mem_of_getElem? (i := 2) rfl)), (hw _ (List.mem_of_getElem? (i := 14) rfl))⟩)
  have E2_ := Exa.start v2 na2
  have F2_ := own_eqI v2 nb2
  obtain ⟨na3, nr3⟩ := and_e nq2
  obtain ⟨nb3, nq3⟩ := and_e nr3
  obtain ⟨y3, v3⟩ := exa_v na3
  have S3_ := Sta.start v3 (Or.inr ⟨(hw _ (List.mem_of_getElem? (i := 2) rfl)), (hw _ (List.mem_of_getElem? (i := 16) rfl))⟩)
  have E3_ := Exa.start v3 na3
  have F3_ := own_eqI v3 nb3
  obtain ⟨na4, nr4⟩ := and_e nq3
  obtain ⟨nb4, nq4⟩ := and_e nr4
  obtain ⟨y4, v4⟩ := exa_v na4
  have S4_ := Sta.start v4 (Or.inr ⟨(hw _ (List.mem_of_getElem? (i := 2) rfl)), (hw _ (List.mem_of_getElem? (i := 18) rfl))⟩)
  have E4_ := Exa.start v4 na4
  have F4_ := own_eqI v4 nb4
  obtain ⟨na5, nr5⟩ := and_e nq4
  obtain ⟨nb5, nq5⟩ := and_e nr5
  obtain ⟨y5, v5⟩ := exa_v na5
  have S5_ := Sta.start v5 (Or.inr ⟨(hw _ (List.mem_of_getElem? (i := 2) rfl)), (hw _ (List.mem_of_getElem? (i := 20) rfl))⟩)
  have E5_ := Exa.start v5 na5
  have F5_ := own_eqI v5 nb5
  obtain ⟨na6, nb6⟩ := and_e nq5
  obtain ⟨y6, v6⟩ := exa_v na6
  have S6_ := Sta.start v6 (Or.inr ⟨(hw _ (List.mem_of_getElem? (i := 2) rfl)), (hw _ (List.mem_of_getElem? (i := 22) rfl))⟩)
  have E6_ := Exa.start v6 na6
  have F6_ := own_eqI v6 nb6
  obtain ⟨n, o, h1, h2, h3, _, L, rfl, ⟨rfl, N⟩, hq⟩ := rm_Q0 l s _ hw tables_1 i0 i1 y0 y1 y2 y3 y4 y5 y6 s.heap s.heap.size (Nat.le_refl _) S0_ E0_ F0_ S1_ E1_ F1_ S2_ E2_ F2_ S3_ E3_ F3_ S4_ E4_ F4_ S5_ E5_ F5_ S6_ E6_ F6_ p e ha hc hk s m _ below hf ((Spec.applies_iff_loose hf).mp happ).1 ⟨rfl, State.Warmed39.refl s, rfl⟩ trivial
  refine ⟨n, _, h1, h2, h3, hpost _ _ _ _ _ _ ⟨Cond.after_iff.mpr rfl, Cond.after_iff.mpr (eq_i res_at (Term.int_eval (1)) rfl), trivial⟩ ⟨hq.1, hq.2.1, (hq.2.2.sift fun y hy => Or.inr (N y hy)).mono (by decide) (by decide)⟩⟩
theorem main_1_1 : Claimed_1_1 := comes_1 fun _ _ _ _ _ _ h hF => ⟨h.1, hF⟩
theorem main_1_2 : Claimed_1_2 := comes_1 fun _ _ _ _ _ _ h hF => ⟨h.2.1, hF⟩
end Jvm.Pilot.@@N@@
namespace Jvm.Pilot.@@N@@
open Jvm Jvm.ClassFile Sem Op Lib Jvm.Free Jvm.Stand Jvm.Pilot.@@N@@.Jvm.D
/-! MADE BY PROGRAM (witnessworld.py) out of the Statement's table words and the real class files: 12 classes; the members and pool entries that the words name. The judged class is class 1, her method 1. -/
namespace start1
open Jvm.ClassFile
def u (s : String) : CpInfo := .utf8 (stringToUtf16 s)
/-- a pool by its gaps: so many unusable entries, then the entry; so many at the end -/
def gap : Nat → List CpInfo → List CpInfo
  | 0, r => r
  | n + 1, r => .unusable :: gap n r
def poolList (es : List (Nat × CpInfo)) (last : Nat) : List CpInfo := es.foldr (fun e r => gap e.1 (e.2 :: r)) (gap last [])
def pool (es : List (Nat × CpInfo)) (last : Nat) : Array CpInfo := ⟨poolList es last⟩
def fileOf (pool : Array CpInfo) (this : Nat) (attrs : Array Attribute := #[]) (ms : Array MethodInfo := #[]) (fl : Nat := 33) (sup : Nat := 0) (ifs : Array Nat := #[]) (fds : Array FieldInfo := #[]) : ClassFile where
  minorVersion := 0
  majorVersion := 65
  constantPool := pool
  accessFlags := fl
  thisClass := this
  superClass := sup
  interfaces := ifs
  fields := fds
  methods := ms
  attributes := attrs
def plain (name : String) (sup : Option ClassId) : Class where
  name := name
  kind := .ordinary
  loader := none
  accessFlags := 33
  super := sup
  interfaces := #[]
  cf := none
  fields := #[]
  methods := #[]
  instanceTypes := #[]
  staticTypes := #[]
  resolved := #[]
  callSites := []
  init := .initialized
  statics := none
  mirror := none

def pool0 : Array CpInfo := pool [(5, u "<init>"), (0, u "()V"), (1, .class_ 10), (1, u "java/lang/Object")] 113

def k0m0 : Method := { name := "<init>", desc := "()V", sig := { parameters := [], returnType := none }, accessFlags := 1, code := none }
/-- java/lang/Object -/
def k0 : Class := { plain "java/lang/Object" none with
  accessFlags := 33
  interfaces := #[]
  cf := some (fileOf pool0 8 #[] #[{ accessFlags := 1, nameIndex := 5, descriptorIndex := 6, attributes := #[] }] 33 0 #[] #[])
  fields := #[]
  methods := #[k0m0]
  instanceTypes := #[]
  staticTypes := #[]
  resolved := Array.replicate 124 none
  statics := none }

def pool1 : Array CpInfo := pool [(2, .class_ 4), (1, u "java/lang/Object"), (0, u "<init>"), (0, u "()V"), (0, .integer 2147483647), (0, .fieldref 9 10), (0, .class_ 11), (0, .nameAndType 12 13), (0, u "com/example/colla/colla/wire/ApiKey"), (0, u "METADATA"), (0, u "Lcom/example/colla/colla/wire/ApiKey;"), (0, .fieldref 9 15), (0, .nameAndType 16 13), (0, u "OFFSET_FETCH"), (0, .fieldref 9 18), (0, .nameAndType 19 13), (0, u "FIND_COORDINATOR"), (0, .fieldref 9 21), (0, .nameAndType 22 13), (0, u "LIST_GROUPS"), (0, .fieldref 9 24), (0, .nameAndType 25 13), (0, u "API_VERSIONS"), (0, .fieldref 9 27), (0, .nameAndType 28 13), (0, u "CONSUMER_GROUP_HEARTBEAT"), (0, .fieldref 9 30), (0, .nameAndType 31 13), (0, u "CONSUMER_GROUP_DESCRIBE"), (0, .methodref 9 33), (0, .nameAndType 34 35), (0, u "isFlexible"), (0, u "(S)Z"), (0, .class_ 37), (0, u "com/example/colla/colla/wire/ApiKeyIsFlexiblePinLaw"), (2, u "law"), (0, u "(II)Z")] 3

def k1m0 : Method := { name := "<init>", desc := "()V", sig := { parameters := [], returnType := none }, accessFlags := 1, code := none }
def k1c1 : Code := { maxStack := 2, maxLocals := 7, code := code, exceptionTable := #[], attributes := #[] }
def k1m1 : Method := { name := "law", desc := "(II)Z", sig := { parameters := [.int, .int], returnType := some .boolean }, accessFlags := 9, code := some k1c1 }
/-- com/example/colla/colla/wire/ApiKeyIsFlexiblePinLaw -/
def k1 : Class := { plain "com/example/colla/colla/wire/ApiKeyIsFlexiblePinLaw" (some 0) with
  accessFlags := 49
  interfaces := #[]
  cf := some (fileOf pool1 36 #[] #[{ accessFlags := 1, nameIndex := 5, descriptorIndex := 6, attributes := #[] }, { accessFlags := 9, nameIndex := 40, descriptorIndex := 41, attributes := #[] }] 49 2 #[] #[])
  fields := #[]
  methods := #[k1m0, k1m1]
  instanceTypes := #[]
  staticTypes := #[]
  resolved := Array.replicate 45 none
  statics := none }

def pool2 : Array CpInfo := pool [(1, .class_ 2), (0, u "java/lang/constant/Constable"), (0, .class_ 4), (0, u "java/lang/Object")] 6

/-- java/lang/constant/Constable -/
def k2 : Class := { plain "java/lang/constant/Constable" (some 0) with
  accessFlags := 1537
  interfaces := #[]
  cf := some (fileOf pool2 1 #[] #[] 1537 3 #[] #[])
  fields := #[]
  methods := #[]
  instanceTypes := #[]
  staticTypes := #[]
  resolved := Array.replicate 11 none
  statics := none }

def pool3 : Array CpInfo := pool [(1, .class_ 2), (0, u "java/lang/Comparable"), (0, .class_ 4), (0, u "java/lang/Object")] 7

/-- java/lang/Comparable -/
def k3 : Class := { plain "java/lang/Comparable" (some 0) with
  accessFlags := 1537
  interfaces := #[]
  cf := some (fileOf pool3 1 #[] #[] 1537 3 #[] #[])
  fields := #[]
  methods := #[]
  instanceTypes := #[]
  staticTypes := #[]
  resolved := Array.replicate 12 none
  statics := none }

def pool4 : Array CpInfo := pool [(1, .class_ 2), (0, u "java/io/Serializable"), (0, .class_ 4), (0, u "java/lang/Object")] 2

/-- java/io/Serializable -/
def k4 : Class := { plain "java/io/Serializable" (some 0) with
  accessFlags := 1537
  interfaces := #[]
  cf := some (fileOf pool4 1 #[] #[] 1537 3 #[] #[])
  fields := #[]
  methods := #[]
  instanceTypes := #[]
  staticTypes := #[]
  resolved := Array.replicate 7 none
  statics := none }

def pool5 : Array CpInfo := pool [(2, .class_ 4), (1, u "java/lang/Enum"), (0, u "name"), (0, u "Ljava/lang/String;"), (2, u "ordinal"), (0, u "I"), (1, .class_ 14), (1, u "java/lang/Object"), (4, u "hash"), (86, .class_ 108), (1, u "java/lang/Enum$EnumDesc"), (2, .class_ 112), (0, u "java/lang/constant/Constable"), (0, .class_ 114), (0, u "java/lang/Comparable"), (0, .class_ 116), (0, u "java/io/Serializable")] 87

/-- java/lang/Enum -/
def k5 : Class := { plain "java/lang/Enum" (some 0) with
  accessFlags := 1057
  interfaces := #[2, 3, 4]
  cf := some (fileOf pool5 2 #[.nestMembers #[106]] #[] 1057 12 #[111, 113, 115] #[{ accessFlags := 18, nameIndex := 5, descriptorIndex := 6, attributes := #[] }, { accessFlags := 18, nameIndex := 9, descriptorIndex := 10, attributes := #[] }, { accessFlags := 2, nameIndex := 19, descriptorIndex := 10, attributes := #[] }])
  fields := #[{ name := "name", type := (.object "java/lang/String"), accessFlags := 18, slot := 0, constantValue := 0 }, { name := "ordinal", type := .int, accessFlags := 18, slot := 1, constantValue := 0 }, { name := "hash", type := .int, accessFlags := 2, slot := 2, constantValue := 0 }]
  methods := #[]
  instanceTypes := #[(.object "java/lang/String"), .int, .int]
  staticTypes := #[]
  resolved := Array.replicate 204 none
  statics := none }

def pool6 : Array CpInfo := pool [(1, .class_ 2), (0, u "com/example/colla/colla/wire/ApiKey"), (2, u "METADATA"), (0, u "Lcom/example/colla/colla/wire/ApiKey;"), (2, u "OFFSET_FETCH"), (2, u "FIND_COORDINATOR"), (2, u "LIST_GROUPS"), (2, u "API_VERSIONS"), (2, u "CONSUMER_GROUP_HEARTBEAT"), (2, u "CONSUMER_GROUP_DESCRIBE"), (2, u "$VALUES"), (0, u "[Lcom/example/colla/colla/wire/ApiKey;"), (6, .class_ 37), (1, u "java/lang/Enum"), (8, u "id"), (0, u "S"), (2, u "lowestVersion"), (2, u "highestVersion"), (0, .fieldref 1 55), (0, .nameAndType 56 47), (0, u "firstFlexibleVersion"), (6, u "isFlexible"), (0, u "(S)Z")] 30

def k6c0 : Code := { maxStack := 2, maxLocals := 2, code := prog_33_method_9_code, exceptionTable := #[], attributes := #[] }
def k6m0 : Method := { name := "isFlexible", desc := "(S)Z", sig := { parameters := [.short], returnType := some .boolean }, accessFlags := 1, code := some k6c0 }
/-- com/example/colla/colla/wire/ApiKey -/
def k6 : Class := { plain "com/example/colla/colla/wire/ApiKey" (some 5) with
  accessFlags := 16433
  interfaces := #[]
  cf := some (fileOf pool6 1 #[] #[{ accessFlags := 1, nameIndex := 63, descriptorIndex := 64, attributes := #[] }] 16433 35 #[] #[{ accessFlags := 16409, nameIndex := 5, descriptorIndex := 6, attributes := #[] }, { accessFlags := 16409, nameIndex := 9, descriptorIndex := 6, attributes := #[] }, { accessFlags := 16409, nameIndex := 12, descriptorIndex := 6, attributes := #[] }, { accessFlags := 16409, nameIndex := 15, descriptorIndex := 6, attributes := #[] }, { accessFlags := 16409, nameIndex := 18, descriptorIndex := 6, attributes := #[] }, { accessFlags := 16409, nameIndex := 21, descriptorIndex := 6, attributes := #[] }, { accessFlags := 16409, nameIndex := 24, descriptorIndex := 6, attributes := #[] }, { accessFlags := 18, nameIndex := 46, descriptorIndex := 47, attributes := #[] }, { accessFlags := 18, nameIndex := 50, descriptorIndex := 47, attributes := #[] }, { accessFlags := 18, nameIndex := 53, descriptorIndex := 47, attributes := #[] }, { accessFlags := 18, nameIndex := 56, descriptorIndex := 47, attributes := #[] }, { accessFlags := 4122, nameIndex := 27, descriptorIndex := 28, attributes := #[] }])
  fields := #[{ name := "METADATA", type := (.object "com/example/colla/colla/wire/ApiKey"), accessFlags := 16409, slot := 0, constantValue := 0 }, { name := "OFFSET_FETCH", type := (.object "com/example/colla/colla/wire/ApiKey"), accessFlags := 16409, slot := 1, constantValue := 0 }, { name := "FIND_COORDINATOR", type := (.object "com/example/colla/colla/wire/ApiKey"), accessFlags := 16409, slot := 2, constantValue := 0 }, { name := "LIST_GROUPS", type := (.object "com/example/colla/colla/wire/ApiKey"), accessFlags := 16409, slot := 3, constantValue := 0 }, { name := "API_VERSIONS", type := (.object "com/example/colla/colla/wire/ApiKey"), accessFlags := 16409, slot := 4, constantValue := 0 }, { name := "CONSUMER_GROUP_HEARTBEAT", type := (.object "com/example/colla/colla/wire/ApiKey"), accessFlags := 16409, slot := 5, constantValue := 0 }, { name := "CONSUMER_GROUP_DESCRIBE", type := (.object "com/example/colla/colla/wire/ApiKey"), accessFlags := 16409, slot := 6, constantValue := 0 }, { name := "id", type := .short, accessFlags := 18, slot := 3, constantValue := 0 }, { name := "lowestVersion", type := .short, accessFlags := 18, slot := 4, constantValue := 0 }, { name := "highestVersion", type := .short, accessFlags := 18, slot := 5, constantValue := 0 }, { name := "firstFlexibleVersion", type := .short, accessFlags := 18, slot := 6, constantValue := 0 }, { name := "$VALUES", type := (.array (.object "com/example/colla/colla/wire/ApiKey")), accessFlags := 4122, slot := 7, constantValue := 0 }]
  methods := #[k6m0]
  instanceTypes := #[(.object "java/lang/String"), .int, .int, .short, .short, .short, .short]
  staticTypes := #[(.object "com/example/colla/colla/wire/ApiKey"), (.object "com/example/colla/colla/wire/ApiKey"), (.object "com/example/colla/colla/wire/ApiKey"), (.object "com/example/colla/colla/wire/ApiKey"), (.object "com/example/colla/colla/wire/ApiKey"), (.object "com/example/colla/colla/wire/ApiKey"), (.object "com/example/colla/colla/wire/ApiKey"), (.array (.object "com/example/colla/colla/wire/ApiKey"))]
  resolved := Array.replicate 95 none
  statics := some 0 }

def pool7 : Array CpInfo := pool [(1, u "java/lang/Cloneable"), (0, .class_ 1), (0, u "java/lang/Object"), (0, .class_ 3)] 3

/-- java/lang/Cloneable -/
def k7 : Class := { plain "java/lang/Cloneable" (some 0) with
  accessFlags := 1537
  interfaces := #[]
  cf := some (fileOf pool7 2 #[] #[] 1537 4 #[] #[])
  fields := #[]
  methods := #[]
  instanceTypes := #[]
  staticTypes := #[]
  resolved := Array.replicate 8 none
  statics := none }

/-- the primitive byte -/
def k8 : Class := { plain "byte" none with kind := .primitive 'B', accessFlags := 0x411 }
/-- [B -/
def k9 : Class := { plain "[B" (some 0) with kind := .array 8 .byte, interfaces := #[7, 4], accessFlags := 1041 }

/-- the primitive int -/
def k10 : Class := { plain "int" none with kind := .primitive 'I', accessFlags := 0x411 }
/-- [I -/
def k11 : Class := { plain "[I" (some 0) with kind := .array 10 .int, interfaces := #[7, 4], accessFlags := 1041 }

def heap : Heap := #[{ cls := 6, slots := #[.ref 1, .ref 2, .ref 3, .ref 4, .ref 5, .ref 6, .ref 7, .null], vm := .statics 6 },
  { cls := 6, slots := #[.null, .int 0, .int 0, .int 0, .int 0, .int 0, .int 9], vm := .none },
  { cls := 6, slots := #[.null, .int 0, .int 0, .int 0, .int 0, .int 0, .int 6], vm := .none },
  { cls := 6, slots := #[.null, .int 0, .int 0, .int 0, .int 0, .int 0, .int 3], vm := .none },
  { cls := 6, slots := #[.null, .int 0, .int 0, .int 0, .int 0, .int 0, .int 3], vm := .none },
  { cls := 6, slots := #[.null, .int 0, .int 0, .int 0, .int 0, .int 0, .int 3], vm := .none },
  { cls := 6, slots := #[.null, .int 0, .int 0, .int 0, .int 0, .int 0, .int 0], vm := .none },
  { cls := 6, slots := #[.null, .int 0, .int 0, .int 0, .int 0, .int 0, .int 0], vm := .none }]
def classes : Array Class := #[k0, k1, k2, k3, k4, k5, k6, k7, k8, k9, k10, k11]
def interned : List (Array UInt16 × Addr) := []
def slotsUsed : Nat := 57
def theMethod : MethodId := ⟨1, 1⟩
def args0 : Array Value := #[.int 5, .int 7]
def aboutOver (below : List Frame) : State where
  vm := { classes := classes, interned := interned.toArray }
  heap := heap
  slotsUsed := slotsUsed
  threads := #[{ frames := .invoking theMethod args0 :: below }]
def below0 : List Frame := [.native { method := ⟨0, 0⟩, args := #[] }]
def about1 : State := aboutOver below0
def p0 : Program := .bare "" "" ""
def e0 : Env := launch0.env 0 0 0
theorem w_frames : about1.frames = Frame.invoking theMethod args0 :: below0 := rfl
set_option maxRecDepth 65536 in
theorem w_args : argsFit about1.vm theMethod args0 = true := by decide +kernel
set_option maxRecDepth 65536 in
theorem w_heap : heapFits about1 = true := by decide +kernel
set_option maxRecDepth 65536 in
theorem w_runnable : about1.curStatus? = some .runnable := by decide +kernel
set_option maxRecDepth 65536 in
theorem w_alone : about1.alone = true := by decide +kernel
set_option maxRecDepth 65536 in
theorem w_named : about1.methodNamed? x = some theMethod := by decide +kernel
set_option maxRecDepth 65536 in
theorem w_hears : about1.hears theMethod below0 = true := by decide +kernel
set_option maxRecDepth 65536 in
theorem w_ripe : about1.ripe theMethod args0 below0 = true := by decide +kernel
theorem w_running : about1.status = .running := rfl
set_option maxRecDepth 65536 in
theorem w_room : about1.hasRoom e0.platform room_1 = true :=
  launch0.hasRoom_least _ room_1 (by decide +kernel) (by decide +kernel) (by decide +kernel) (by decide +kernel) (by decide +kernel) (by decide +kernel)
theorem allAtoms_all (ts : List Jvm.Cond) (a : Array Jvm.Value) (st : Jvm.State) : (allAtoms ts).before a st = ts.all (fun c => c.before a st) := by
  induction ts with
  | nil => rfl
  | cons c t ih =>
    show (Jvm.Cond.and c (allAtoms t)).before a st = _
    rw [Jvm.Cond.before_and, ih, List.all_cons]
def words1 : List Jvm.Cond := Jvm.Cond.code x code maxLocals ret :: tables_1
/-- a 'code' word, met by the world's own term for the bytes: nothing is compared byte by byte -/
theorem code_word {y : MethodName} {bytes : ByteArray} {mx : Nat} {rt : Option FieldType} {a : Array Value} {s : State} {m : MethodId} {meth : Method} {c : Code} (h1 : s.methodNamed? y = some m) (h2 : s.vm.method? m = some meth) (h3 : meth.code = some c) (h4 : c.code = bytes)
    (h5 : (c.maxLocals == mx && c.exceptionTable.isEmpty && decide (c.maxStack ≤ mostOperands) && decide (meth.sig.returnType = rt) && !meth.locks && decide (parseMethodDescriptor y.desc = some meth.sig)) = true) : (Jvm.Cond.code y bytes mx rt).before a s = true := by
  simp only [Bool.and_eq_true, beq_iff_eq, Bool.not_eq_true', decide_eq_true_eq] at h5
  obtain ⟨⟨⟨⟨⟨g1, g2⟩, g3⟩, g4⟩, g5⟩, g6⟩ := h5
  simp [Cond.before, Cond.holds, Cond.value, h1, h2, h3, h4, g1, g2, g3, g4, g5, g6]
def isCode : Jvm.Cond → Bool
  | .code _ _ _ _ => true
  | _ => false
theorem all_split {L : List Jvm.Cond} {P : Jvm.Cond → Bool} (h1 : L.all (fun c => isCode c || P c) = true) (h2 : ∀ c ∈ L.filter isCode, P c = true) : L.all P = true := by
  refine List.all_eq_true.mpr fun c hc => ?_
  have h := List.all_eq_true.mp h1 c hc
  rcases Bool.eq_false_or_eq_true (isCode c) with hi | hi
  · exact h2 c (List.mem_filter.mpr ⟨hc, hi⟩)
  · simpa [hi] using h
set_option maxRecDepth 65536 in
theorem w_c0 : (Jvm.Cond.code x code maxLocals ret).before args0 about1 = true := code_word (m := ⟨1, 1⟩) (meth := k1m1) (c := k1c1) (by decide +kernel) rfl rfl rfl (by decide +kernel)
set_option maxRecDepth 65536 in
theorem w_c1 : (Jvm.Cond.code ({ cls := "com/example/colla/colla/wire/ApiKey", name := "isFlexible", desc := "(S)Z" } : Jvm.MethodName) prog_33_method_9_code (2 : Nat) (Option.some Jvm.ClassFile.FieldType.boolean)).before args0 about1 = true := code_word (m := ⟨6, 0⟩) (meth := k6m0) (c := k6c0) (by decide +kernel) rfl rfl rfl (by decide +kernel)
def codes1 : List Jvm.Cond := [Jvm.Cond.code x code maxLocals ret, Jvm.Cond.code ({ cls := "com/example/colla/colla/wire/ApiKey", name := "isFlexible", desc := "(S)Z" } : Jvm.MethodName) prog_33_method_9_code (2 : Nat) (Option.some Jvm.ClassFile.FieldType.boolean)]
set_option maxRecDepth 65536 in
theorem codes_eq : words1.filter isCode = codes1 := rfl
theorem w_codes : ∀ c ∈ words1.filter isCode, c.before args0 about1 = true := by
  rw [codes_eq]
  intro c hc
  simp only [codes1, List.mem_cons, List.not_mem_nil, or_false] at hc
  rcases hc with rfl | rfl
  · exact w_c0
  · exact w_c1
set_option maxRecDepth 65536 in
theorem w_t1 : words1.all (fun c => isCode c || c.before args0 about1) = true := by decide +kernel
theorem w_tables : (allAtoms (Jvm.Cond.code x code maxLocals ret :: tables_1)).before args0 about1 = true := by
  rw [allAtoms_all]
  show words1.all (fun c => c.before args0 about1) = true
  refine all_split ?_ w_codes
  rw [w_t1]
set_option maxRecDepth 65536 in
theorem w_case : (Jvm.Cond.and given_1 narrow_1).before args0 about1 = true := by decide +kernel
theorem w_applies : (headSpec (Jvm.Cond.code x code maxLocals ret :: tables_1) room_1).applies x e0.platform about1 = true :=
  (Spec.applies_iff w_frames).mpr ⟨w_running, w_runnable, w_alone, w_named, w_hears, w_ripe, w_room, w_tables⟩
theorem atStart : AtStart classFile x code maxLocals ret World_1 tables_1 room_1 Calls_1 rest_1 Pre_1 launch0 p0 e0 about1 theMethod args0 below0 :=
  ⟨lists_1, trivial, launch0.admits_env _ _ _, launch0.least_env, fairChoices_fair.cas, fairChoices_fair.clock, w_frames, w_args, w_heap, w_applies, trivial, trivial, w_case⟩
end start1
theorem witness_1 : WitnessClaimed_1 := ⟨start1.p0, start1.e0, start1.about1, start1.theMethod, start1.args0, start1.below0, start1.atStart⟩
end Jvm.Pilot.@@N@@
