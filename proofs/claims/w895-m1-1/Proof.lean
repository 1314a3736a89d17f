import JvmDerived
import JvmDerived.Pilot.@@N@@Statement
import JvmDerived.Pilot.@@N@@Code
set_option linter.unusedVariables false
set_option linter.unusedSimpArgs false
namespace Jvm.RoadKit
open Sem ClassFile Op Lib Jvm.Stand Jvm.Free Jvm.LawKit
section New
variable {p : Program} {l : Launch} {e : Env} {R : Room} {s : State} {m : MethodId} {args : Array Value} {below : List Frame} {meth : Method} {c : Code} {T : State} {locs : List Loc} {cells slots : Nat}
theorem retI (X : Stand p l e R s m args below meth c T locs cells slots) (hx : p.tables.exec = Jvm.exec) {pc : Nat} {Ls : Array Slot} {z : Int32} {rest : List Value} (hret : meth.sig.returnType = some .int) (hd : decode c.code pc = .ok (.ireturn, 1)) {fs : List Frame}
    (hl : ∀ (f : JFrame) (acts : List Action), f.method = m → f.locked = none → f.entered = [] → (doReturn e (T.setTop f) acts (some (.int z))).1 = T.setFrames fs) : Steps p.tables e below (T.setTop (mkF m pc Ls (.int z :: rest))) (T.setFrames fs) := by
  have hm' : T.vm.method? m = some meth := X.method'
  have hn : narrow .int (.int z) = .int z := rfl
  show Steps p.tables e below (T.setTop { method := m, pc := pc, locals := Ls, stack := _ :: rest, locked := none }) _
  jvm_step X.here [X.here.top, hx, hd, hm', hret, hn]
  first | (intro acts; rw [hl _ acts rfl rfl rfl]) | rw [hl _ _ rfl rfl rfl]
  exact Steps.refl _
end New
end Jvm.RoadKit
namespace Jvm.Pilot.@@N@@
open Jvm Jvm.ClassFile Sem Op Lib Jvm.Free Jvm.Stand Jvm.LawKit Jvm.RoadKit Bundle Jvm.Pilot.@@N@@.Jvm.D
/-- what a body leaves that writes nothing: its value, no place of the start's, the heap as it was -/
def QP (r : Value) (h0 : Heap) (n0 : Nat) (v : Option Value) (h : Heap) (L : List Loc) : Prop := v = some r ∧ Fr n0 L ∧ h = h0
/-- the same without the heap -/
def QL (r : Value) (n0 : Nat) (v : Option Value) (h : Heap) (L : List Loc) : Prop := v = some r ∧ Fr n0 L ∧ True
theorem own_ext_refl (h : Heap) : Ext h h := ⟨Nat.le_refl _, fun _ _ q => q⟩
theorem own_ext_trans {h h' h'' : Heap} (E : Ext h h') (E' : Ext h' h'') : Ext h h'' := ⟨Nat.le_trans E.1 E'.1, fun a c q => E'.2 a c (E.2 a c q)⟩
theorem own_extK {h h' h'' : Heap} {b : Addr} (E : Ext h h') (g : b = h.size) (K : Keep h' h'' [b]) : Ext h h'' := ⟨Nat.le_trans E.1 K.1, fun x c q => K.2.1 x c (E.2 x c q) fun z => by
  have e := List.mem_singleton.mp z
  have lt := (Array.getElem?_eq_some_iff.mp q).1
  rw [e, g] at lt
  exact Nat.lt_irrefl _ lt⟩
theorem own_extW {h h' h'' : Heap} {b : Addr} {sl : Nat} {v : Value} (E : Ext h h') (g : b = h.size) (W : Wr h' h'' b sl v) : Ext h h'' := own_extK E g (Keep.of_wr W)
theorem own_fldI {s : State} {args : Array Value} {t : Term} {a : Addr} {C n d : String} {k : Int32} (ev : t.eval args s none [] s = some (.ref a)) (h : (Jvm.Cond.eq (.field t C n d) (.int k)).value args s none s [] = some true) : Fld s s.heap a C n d (.int k) :=
  Fld.start ((fld_at ev).symm.trans (eqv_i (y := k) rfl h))
theorem own_fldJ {s : State} {args : Array Value} {t : Term} {a : Addr} {C n d : String} {k : Int64} (ev : t.eval args s none [] s = some (.ref a)) (h : (Jvm.Cond.eq (.field t C n d) (.long k)).value args s none s [] = some true) : Fld s s.heap a C n d (.long k) :=
  Fld.start ((fld_at ev).symm.trans (eqv_l (y := k) rfl h))
theorem own_ne {Z : State} {h : Heap} {a b : Addr} {C n d : String} {v w : Value} (F : Fld Z h a C n d v) (G : Fld Z h b C n d w) (q : v ≠ w) : a ≠ b := fun e => by
  subst e
  obtain ⟨c1, cf1, k1, i1, f1, h1, h2, -, -, -, -, h7⟩ := F
  obtain ⟨c2, cf2, k2, i2, f2, g1, g2, -, -, -, -, g7⟩ := G
  cases h1.symm.trans g1
  cases h2.symm.trans g2
  exact q (Option.some.inj (h7.symm.trans g7))
def QV (h0 : Heap) (n0 : Nat) (v : Option Value) (h : Heap) (L : List Loc) : Prop := v = none ∧ Fr n0 L ∧ h = h0
/-- what Location's constructor leaves -/
def QC (Z : State) (a : Addr) (p2 p3 p4 p5 : Int32) (h0 : Heap) (n0 : Nat) (v : Option Value) (h : Heap) (L : List Loc) : Prop := v = none ∧ Fr n0 L ∧ Keep h0 h [a] ∧ Exa Z h a "com/example/segmentwise/segmentwise/model/Location" ∧ Fld Z h a "com/example/segmentwise/segmentwise/model/Location" "segmentPosition" "I" (.int p2) ∧ Fld Z h a "com/example/segmentwise/segmentwise/model/Location" "elementPosition" "I" (.int p3) ∧ Fld Z h a "com/example/segmentwise/segmentwise/model/Location" "elementOccurrence" "I" (.int p4) ∧ Fld Z h a "com/example/segmentwise/segmentwise/model/Location" "componentPosition" "I" (.int p5)
/-- what Integer's constructor leaves -/
def QN (Z : State) (a : Addr) (h0 : Heap) (n0 : Nat) (v : Option Value) (h : Heap) (L : List Loc) : Prop := v = none ∧ Fr n0 L ∧ Keep h0 h [a] ∧ Exa Z h a "java/lang/Integer"
/-- what Integer.valueOf leaves: a box, made or old -/
def QB (Z : State) (h0 : Heap) (n0 : Nat) (v : Option Value) (h : Heap) (L : List Loc) : Prop := ∃ b : Addr, v = some (.ref b) ∧ Fr n0 L ∧ Ext h0 h ∧ Exa Z h b "java/lang/Integer"
theorem own_wS {Z : State} {a0 : Array Value} (hw : ∀ d ∈ tables_1, d.before a0 Z = true) : ∀ a ∈ Bundle.stringAtoms, a.before a0 Z = true := by
  intro a ha
  simp only [Bundle.stringAtoms, List.mem_cons, List.not_mem_nil, or_false] at ha
  rcases ha with rfl | rfl | rfl | rfl | rfl | rfl | rfl
  · exact (hw _ (List.mem_of_getElem? (i := 14) rfl))
  · exact (hw _ (List.mem_of_getElem? (i := 15) rfl))
  · exact (hw _ (List.mem_of_getElem? (i := 16) rfl))
  · exact (hw _ (List.mem_of_getElem? (i := 17) rfl))
  · exact (hw _ (List.mem_of_getElem? (i := 18) rfl))
  · exact (hw _ (List.mem_of_getElem? (i := 19) rfl))
  · exact (hw _ (List.mem_of_getElem? (i := 20) rfl))
theorem own_no {Z : State} {a0 : Array Value} (hw : ∀ d ∈ tables_1, d.before a0 Z = true) : ∃ c t, Z.vm.findClass "java/lang/Integer" = some c ∧ Z.vm.findClass "com/example/segmentwise/segmentwise/model/Location" = some t ∧ Z.vm.assignable c t = false := by
  obtain ⟨t, k', g0, g2, g5, gi, -⟩ := Cond.instantiable_spec (hw _ (List.mem_of_getElem? (i := 5) rfl))
  have root : NS Z "java/lang/Object" "com/example/segmentwise/segmentwise/model/Location" := by
    obtain ⟨c, k, h1, h2, h3, -, -⟩ := Cond.noSuperclass_spec (hw _ (List.mem_of_getElem? (i := 66) rfl))
    have ne := ids_ne h1 g0 (by decide)
    refine ⟨c, t, h1, g0, fun fuel => ?_⟩
    cases fuel with
    | zero => rfl
    | succ f => simp [Vm.isSubclassAux, ne, h2, h3]
  have n2 : NS Z "java/lang/Number" "com/example/segmentwise/segmentwise/model/Location" := NS.step (hw _ (List.mem_of_getElem? (i := 65) rfl)) root (by decide)
  obtain ⟨c, t', h0, g0', n3⟩ : NS Z "java/lang/Integer" "com/example/segmentwise/segmentwise/model/Location" := NS.step (hw _ (List.mem_of_getElem? (i := 64) rfl)) n2 (by decide)
  cases g0.symm.trans g0'
  obtain ⟨p, k, kp, h1, h2, h3, h4, h5, -, h7⟩ := Cond.superclass_spec h0 (hw _ (List.mem_of_getElem? (i := 64) rfl))
  have ne := ids_ne h0 g0 (by decide)
  have gj : k'.isInterface = false := (Bool.or_eq_false_iff.mp gi).1
  refine ⟨c, t, h0, g0, ?_⟩
  show Z.vm.assignableAux (255 + 1) c t = false
  simp [Vm.assignableAux, ne, h2, g2, h5, g5, gj, Vm.isSubclass, n3]
theorem own_idx {pk : Int32} (h1 : ¬ pk < (-128 : Int32)) (h2 : ¬ (127 : Int32) < pk) : ¬ (pk + (128 : Int32)) < 0 ∧ (pk + (128 : Int32)) < (256 : Int32) := by
  have k1 : (-128 : Int32).toInt = -128 := by decide
  have k2 : (127 : Int32).toInt = 127 := by decide
  have k3 : (128 : Int32).toInt = 128 := by decide
  have k4 : (256 : Int32).toInt = 256 := by decide
  have k5 : (0 : Int32).toInt = 0 := by decide
  rw [Int32.lt_iff_toInt_lt] at h1 h2 ⊢
  rw [Int32.lt_iff_toInt_lt]
  have a := c_iadd pk (128 : Int32)
  have r := rng32 (pk + (128 : Int32))
  have r2 := rng32 pk
  omega
theorem own_posok {pk v : Int32} (h : v = if pk < (1 : Int32) then (-1 : Int32) else pk) : v < (1 : Int32) → v = (-1 : Int32) := by
  intro q
  split at h
  · exact h
  · subst h; contradiction
theorem d1_0 : decode method_2_code 0 = .ok (.iload_n 0, 1) := by decide +kernel
theorem d1_1 : decode method_2_code 1 = .ok (.iconst 1, 1) := by decide +kernel
theorem d1_2 : decode method_2_code 2 = .ok (.if_icmp .lt 7, 3) := by decide +kernel
theorem d1_9 : decode method_2_code 9 = .ok (.iconst (-1), 1) := by decide +kernel
theorem d1_10 : decode method_2_code 10 = .ok (.ireturn, 1) := by decide +kernel
theorem d1_5 : decode method_2_code 5 = .ok (.iload_n 0, 1) := by decide +kernel
theorem d1_6 : decode method_2_code 6 = .ok (.goto 4, 3) := by decide +kernel
theorem pnm_0 : plainName "com/example/segmentwise/segmentwise/model/LocationEqualsPinLaw" = true := by first | (simp [plainName, overriddenIn]; done) | decide +kernel
theorem ef_rm1 (m : MethodId) (pk : Int32) : entryFrame m #[(.int pk)] 1 = mkF m 0 #[.val (.int pk)] [] := by first | (simp [entryFrame, mkF, argsToLocals, Value.category]; done) | rfl
set_option maxRecDepth 65536 in
set_option maxHeartbeats 40000000 in
theorem rm1_t (l : Launch) (Z : State) (a0 : Array Value) (hw : ∀ d ∈ tables_1, d.before a0 Z = true) (ws : List Jvm.Cond) (pk : Int32) (h0 : Heap) (n0 : Nat) (Z0 : n0 ≤ h0.size) (r : Int32) (hr0 : r = (-1 : Int32)) (hc2 : pk < (1 : Int32)) :
    MetFree l (⟨"com/example/segmentwise/segmentwise/model/LocationEqualsPinLaw", "pos", "(I)I"⟩ : MethodName) (head1 (Jvm.Cond.code (⟨"com/example/segmentwise/segmentwise/model/LocationEqualsPinLaw", "pos", "(I)I"⟩ : MethodName) method_2_code 1 (some .int) :: ws) ({ frames := 0, cells := 0, slots := 0, locals := 0 } : Room)) (fun a U => a = #[(.int pk)] ∧ Z.Warmed39 U.vm ∧ U.heap = h0) (fun _ _ _ _ _ => True) (fun _ U o U' => ∃ v L, o = .returned v ∧ QP (.int r) h0 n0 v U'.heap L ∧ FrameEnd U o U' L ({ frames := 0, cells := 0, slots := 0, locals := 0 } : Room).cells ({ frames := 0, cells := 0, slots := 0, locals := 0 } : Room).slots) := by
  rw [hr0]
  refine MetFree.of_bodySF (plainFor_of_name pnm_0) hisR ?_
  intro p e s m args below meth c s₁ Bd hml0 hP hK
  obtain ⟨rfl, hZ, hh⟩ := hP
  have hx := Bd.exec
  have hby := Bd.bytes
  have hml : c.maxLocals = 1 := hml0
  have hown : s.vm.findClass "com/example/segmentwise/segmentwise/model/LocationEqualsPinLaw" = some m.cls := findClass_of_methodNamed Bd.named
  have hnm := (name_of_methodNamed Bd.named Bd.method).1
  have X0 : Stand p l e ({ frames := 0, cells := 0, slots := 0, locals := 0 } : Room) s m #[(.int pk)] below meth c s₁ [] 0 0 := Stand.of_body Bd
  have e0 : s₁.heap = h0 := by rw [← hh, Bd.state]; rfl
  have N0 := Fr.nil n0
  have pre0 : ∀ t, Steps p.tables e below (s₁.setTop (mkF m 0 #[.val (.int pk)] [])) t → Steps p.tables e below (s₁.setTop (entryFrame m #[(.int pk)] 1)) t := fun t k => castTop (ef_rm1 m pk) k
  obtain ⟨fs, hr, hrun, hended, hW, hsame⟩ := X0.leave (v := some (.int (-1 : Int32))) (fun h => by rw [Bd.returns] at h; cases h)
  refine ⟨_, _, pre0 _ ?_, hrun, hended, _, _, rfl, ?_, ⟨_, rfl⟩, hW, hsame.mono (by decide) (by decide)⟩
  · show Steps p.tables e below (s₁.setTop (mkF m 0 #[.val (.int pk)] [])) _
    refine XS.iloadN X0.here hx rfl (hb hby d1_0) rfl ?_
    show Steps p.tables e below (s₁.setTop (mkF m 1 #[.val (.int pk)] [(.int pk)])) _
    refine XS.iconst X0.here hx rfl (hb hby d1_1) ?_
    show Steps p.tables e below (s₁.setTop (mkF m 2 #[.val (.int pk)] [(.int (1 : Int32)), (.int pk)])) _
    refine XS.icmpYes X0.here hx rfl (pc0 := 2) (pc' := 9) rfl (hb hby d1_2) rfl (tlt hc2).1 (by decide) (by decide) ?_
    show Steps p.tables e below (s₁.setTop (mkF m 9 #[.val (.int pk)] [])) _
    refine XS.iconst X0.here hx rfl (hb hby d1_9) ?_
    show Steps p.tables e below (s₁.setTop (mkF m 10 #[.val (.int pk)] [(.int (-1 : Int32))])) _
    exact retI X0 hx Bd.returns (hb hby d1_10) hr
  · show QP (.int (-1 : Int32)) h0 n0 _ s₁.heap _
    rw [e0]
    exact ⟨rfl, N0, rfl⟩
set_option maxRecDepth 65536 in
set_option maxHeartbeats 40000000 in
theorem rm1_f (l : Launch) (Z : State) (a0 : Array Value) (hw : ∀ d ∈ tables_1, d.before a0 Z = true) (ws : List Jvm.Cond) (pk : Int32) (h0 : Heap) (n0 : Nat) (Z0 : n0 ≤ h0.size) (r : Int32) (hr0 : r = pk) (hc2 : ¬ (pk < (1 : Int32))) :
    MetFree l (⟨"com/example/segmentwise/segmentwise/model/LocationEqualsPinLaw", "pos", "(I)I"⟩ : MethodName) (head1 (Jvm.Cond.code (⟨"com/example/segmentwise/segmentwise/model/LocationEqualsPinLaw", "pos", "(I)I"⟩ : MethodName) method_2_code 1 (some .int) :: ws) ({ frames := 0, cells := 0, slots := 0, locals := 0 } : Room)) (fun a U => a = #[(.int pk)] ∧ Z.Warmed39 U.vm ∧ U.heap = h0) (fun _ _ _ _ _ => True) (fun _ U o U' => ∃ v L, o = .returned v ∧ QP (.int r) h0 n0 v U'.heap L ∧ FrameEnd U o U' L ({ frames := 0, cells := 0, slots := 0, locals := 0 } : Room).cells ({ frames := 0, cells := 0, slots := 0, locals := 0 } : Room).slots) := by
  rw [hr0]
  refine MetFree.of_bodySF (plainFor_of_name pnm_0) hisR ?_
  intro p e s m args below meth c s₁ Bd hml0 hP hK
  obtain ⟨rfl, hZ, hh⟩ := hP
  have hx := Bd.exec
  have hby := Bd.bytes
  have hml : c.maxLocals = 1 := hml0
  have hown : s.vm.findClass "com/example/segmentwise/segmentwise/model/LocationEqualsPinLaw" = some m.cls := findClass_of_methodNamed Bd.named
  have hnm := (name_of_methodNamed Bd.named Bd.method).1
  have X0 : Stand p l e ({ frames := 0, cells := 0, slots := 0, locals := 0 } : Room) s m #[(.int pk)] below meth c s₁ [] 0 0 := Stand.of_body Bd
  have e0 : s₁.heap = h0 := by rw [← hh, Bd.state]; rfl
  have N0 := Fr.nil n0
  have pre0 : ∀ t, Steps p.tables e below (s₁.setTop (mkF m 0 #[.val (.int pk)] [])) t → Steps p.tables e below (s₁.setTop (entryFrame m #[(.int pk)] 1)) t := fun t k => castTop (ef_rm1 m pk) k
  obtain ⟨fs, hr, hrun, hended, hW, hsame⟩ := X0.leave (v := some (.int pk)) (fun h => by rw [Bd.returns] at h; cases h)
  refine ⟨_, _, pre0 _ ?_, hrun, hended, _, _, rfl, ?_, ⟨_, rfl⟩, hW, hsame.mono (by decide) (by decide)⟩
  · show Steps p.tables e below (s₁.setTop (mkF m 0 #[.val (.int pk)] [])) _
    refine XS.iloadN X0.here hx rfl (hb hby d1_0) rfl ?_
    show Steps p.tables e below (s₁.setTop (mkF m 1 #[.val (.int pk)] [(.int pk)])) _
    refine XS.iconst X0.here hx rfl (hb hby d1_1) ?_
    show Steps p.tables e below (s₁.setTop (mkF m 2 #[.val (.int pk)] [(.int (1 : Int32)), (.int pk)])) _
    refine XS.icmpNo X0.here hx rfl (hb hby d1_2) rfl (flt hc2).1 ?_
    show Steps p.tables e below (s₁.setTop (mkF m 5 #[.val (.int pk)] [])) _
    refine XS.iloadN X0.here hx rfl (hb hby d1_5) rfl ?_
    show Steps p.tables e below (s₁.setTop (mkF m 6 #[.val (.int pk)] [(.int pk)])) _
    refine XS.goto X0.here hx rfl (pc0 := 6) (pc' := 10) rfl (hb hby d1_6) (by decide) (by decide) ?_
    show Steps p.tables e below (s₁.setTop (mkF m 10 #[.val (.int pk)] [(.int pk)])) _
    exact retI X0 hx Bd.returns (hb hby d1_10) hr
  · show QP (.int pk) h0 n0 _ s₁.heap _
    rw [e0]
    exact ⟨rfl, N0, rfl⟩
set_option maxRecDepth 65536 in
set_option maxHeartbeats 40000000 in
theorem rm1 (l : Launch) (Z : State) (a0 : Array Value) (hw : ∀ d ∈ tables_1, d.before a0 Z = true) (ws : List Jvm.Cond) (pk : Int32) (h0 : Heap) (n0 : Nat) (Z0 : n0 ≤ h0.size) (r : Int32) (hr0 : r = (if pk < (1 : Int32) then (-1 : Int32) else pk)) :
    MetFree l (⟨"com/example/segmentwise/segmentwise/model/LocationEqualsPinLaw", "pos", "(I)I"⟩ : MethodName) (head1 (Jvm.Cond.code (⟨"com/example/segmentwise/segmentwise/model/LocationEqualsPinLaw", "pos", "(I)I"⟩ : MethodName) method_2_code 1 (some .int) :: ws) ({ frames := 0, cells := 0, slots := 0, locals := 0 } : Room)) (fun a U => a = #[(.int pk)] ∧ Z.Warmed39 U.vm ∧ U.heap = h0) (fun _ _ _ _ _ => True) (fun _ U o U' => ∃ v L, o = .returned v ∧ QP (.int r) h0 n0 v U'.heap L ∧ FrameEnd U o U' L ({ frames := 0, cells := 0, slots := 0, locals := 0 } : Room).cells ({ frames := 0, cells := 0, slots := 0, locals := 0 } : Room).slots) := by
  by_cases hc2 : pk < (1 : Int32)
  · exact rm1_t l Z a0 hw ws pk h0 n0 Z0 r (hr0.trans (if_pos hc2)) hc2
  · exact rm1_f l Z a0 hw ws pk h0 n0 Z0 r (hr0.trans (if_neg hc2)) hc2
theorem d4_0 : decode prog_25_method_2_code 0 = .ok (.iload_n 1, 1) := by decide +kernel
theorem d4_1 : decode prog_25_method_2_code 1 = .ok (.iconst 1, 1) := by decide +kernel
theorem d4_2 : decode prog_25_method_2_code 2 = .ok (.if_icmp .ge 23, 3) := by decide +kernel
theorem d4_25 : decode prog_25_method_2_code 25 = .ok (.iload_n 1, 1) := by decide +kernel
theorem d4_26 : decode prog_25_method_2_code 26 = .ok (.ireturn, 1) := by decide +kernel
theorem d4_5 : decode prog_25_method_2_code 5 = .ok (.iload_n 1, 1) := by decide +kernel
theorem d4_6 : decode prog_25_method_2_code 6 = .ok (.iconst (-1), 1) := by decide +kernel
theorem d4_7 : decode prog_25_method_2_code 7 = .ok (.if_icmp .eq 18, 3) := by decide +kernel
theorem pnm_1 : plainName "com/example/segmentwise/segmentwise/model/Location" = true := by first | (simp [plainName, overriddenIn]; done) | decide +kernel
theorem ef_rm4 (m : MethodId) (ak : Addr) (pk : Int32) : entryFrame m #[(.ref ak), (.int pk)] 2 = mkF m 0 #[.val (.ref ak), .val (.int pk)] [] := by first | (simp [entryFrame, mkF, argsToLocals, Value.category]; done) | rfl
set_option maxRecDepth 65536 in
set_option maxHeartbeats 40000000 in
theorem rm4_t (l : Launch) (Z : State) (a0 : Array Value) (hw : ∀ d ∈ tables_1, d.before a0 Z = true) (ws : List Jvm.Cond) (ak : Addr) (pk : Int32) (h0 : Heap) (n0 : Nat) (Z0 : n0 ≤ h0.size) (hp : pk < (1 : Int32) → pk = (-1 : Int32)) (r : Int32) (hr0 : r = pk) (hc2 : ¬ (pk < (1 : Int32))) :
    MetFree l (⟨"com/example/segmentwise/segmentwise/model/Location", "checkPosition", "(Ljava/lang/String;I)I"⟩ : MethodName) (head1 (Jvm.Cond.code (⟨"com/example/segmentwise/segmentwise/model/Location", "checkPosition", "(Ljava/lang/String;I)I"⟩ : MethodName) prog_25_method_2_code 2 (some .int) :: ws) ({ frames := 0, cells := 0, slots := 0, locals := 0 } : Room)) (fun a U => a = #[(.ref ak), (.int pk)] ∧ Z.Warmed39 U.vm ∧ U.heap = h0) (fun _ _ _ _ _ => True) (fun _ U o U' => ∃ v L, o = .returned v ∧ QP (.int r) h0 n0 v U'.heap L ∧ FrameEnd U o U' L ({ frames := 0, cells := 0, slots := 0, locals := 0 } : Room).cells ({ frames := 0, cells := 0, slots := 0, locals := 0 } : Room).slots) := by
  rw [hr0]
  refine MetFree.of_bodySF (plainFor_of_name pnm_1) hisR ?_
  intro p e s m args below meth c s₁ Bd hml0 hP hK
  obtain ⟨rfl, hZ, hh⟩ := hP
  have hx := Bd.exec
  have hby := Bd.bytes
  have hml : c.maxLocals = 2 := hml0
  have hown : s.vm.findClass "com/example/segmentwise/segmentwise/model/Location" = some m.cls := findClass_of_methodNamed Bd.named
  have hnm := (name_of_methodNamed Bd.named Bd.method).1
  have X0 : Stand p l e ({ frames := 0, cells := 0, slots := 0, locals := 0 } : Room) s m #[(.ref ak), (.int pk)] below meth c s₁ [] 0 0 := Stand.of_body Bd
  have e0 : s₁.heap = h0 := by rw [← hh, Bd.state]; rfl
  have N0 := Fr.nil n0
  have pre0 : ∀ t, Steps p.tables e below (s₁.setTop (mkF m 0 #[.val (.ref ak), .val (.int pk)] [])) t → Steps p.tables e below (s₁.setTop (entryFrame m #[(.ref ak), (.int pk)] 2)) t := fun t k => castTop (ef_rm4 m ak pk) k
  obtain ⟨fs, hr, hrun, hended, hW, hsame⟩ := X0.leave (v := some (.int pk)) (fun h => by rw [Bd.returns] at h; cases h)
  refine ⟨_, _, pre0 _ ?_, hrun, hended, _, _, rfl, ?_, ⟨_, rfl⟩, hW, hsame.mono (by decide) (by decide)⟩
  · show Steps p.tables e below (s₁.setTop (mkF m 0 #[.val (.ref ak), .val (.int pk)] [])) _
    refine XS.iloadN X0.here hx rfl (hb hby d4_0) rfl ?_
    show Steps p.tables e below (s₁.setTop (mkF m 1 #[.val (.ref ak), .val (.int pk)] [(.int pk)])) _
    refine XS.iconst X0.here hx rfl (hb hby d4_1) ?_
    show Steps p.tables e below (s₁.setTop (mkF m 2 #[.val (.ref ak), .val (.int pk)] [(.int (1 : Int32)), (.int pk)])) _
    refine XS.icmpYes X0.here hx rfl (pc0 := 2) (pc' := 25) rfl (hb hby d4_2) rfl (flt hc2).2.1 (by decide) (by decide) ?_
    show Steps p.tables e below (s₁.setTop (mkF m 25 #[.val (.ref ak), .val (.int pk)] [])) _
    refine XS.iloadN X0.here hx rfl (hb hby d4_25) rfl ?_
    show Steps p.tables e below (s₁.setTop (mkF m 26 #[.val (.ref ak), .val (.int pk)] [(.int pk)])) _
    exact retI X0 hx Bd.returns (hb hby d4_26) hr
  · show QP (.int pk) h0 n0 _ s₁.heap _
    rw [e0]
    exact ⟨rfl, N0, rfl⟩
set_option maxRecDepth 65536 in
set_option maxHeartbeats 40000000 in
theorem rm4_f (l : Launch) (Z : State) (a0 : Array Value) (hw : ∀ d ∈ tables_1, d.before a0 Z = true) (ws : List Jvm.Cond) (ak : Addr) (pk : Int32) (h0 : Heap) (n0 : Nat) (Z0 : n0 ≤ h0.size) (hp : pk < (1 : Int32) → pk = (-1 : Int32)) (r : Int32) (hr0 : r = pk) (hc2 : pk < (1 : Int32)) :
    MetFree l (⟨"com/example/segmentwise/segmentwise/model/Location", "checkPosition", "(Ljava/lang/String;I)I"⟩ : MethodName) (head1 (Jvm.Cond.code (⟨"com/example/segmentwise/segmentwise/model/Location", "checkPosition", "(Ljava/lang/String;I)I"⟩ : MethodName) prog_25_method_2_code 2 (some .int) :: ws) ({ frames := 0, cells := 0, slots := 0, locals := 0 } : Room)) (fun a U => a = #[(.ref ak), (.int pk)] ∧ Z.Warmed39 U.vm ∧ U.heap = h0) (fun _ _ _ _ _ => True) (fun _ U o U' => ∃ v L, o = .returned v ∧ QP (.int r) h0 n0 v U'.heap L ∧ FrameEnd U o U' L ({ frames := 0, cells := 0, slots := 0, locals := 0 } : Room).cells ({ frames := 0, cells := 0, slots := 0, locals := 0 } : Room).slots) := by
  rw [hr0]
  refine MetFree.of_bodySF (plainFor_of_name pnm_1) hisR ?_
  intro p e s m args below meth c s₁ Bd hml0 hP hK
  obtain ⟨rfl, hZ, hh⟩ := hP
  have hx := Bd.exec
  have hby := Bd.bytes
  have hml : c.maxLocals = 2 := hml0
  have hown : s.vm.findClass "com/example/segmentwise/segmentwise/model/Location" = some m.cls := findClass_of_methodNamed Bd.named
  have hnm := (name_of_methodNamed Bd.named Bd.method).1
  have X0 : Stand p l e ({ frames := 0, cells := 0, slots := 0, locals := 0 } : Room) s m #[(.ref ak), (.int pk)] below meth c s₁ [] 0 0 := Stand.of_body Bd
  have e0 : s₁.heap = h0 := by rw [← hh, Bd.state]; rfl
  have N0 := Fr.nil n0
  have pre0 : ∀ t, Steps p.tables e below (s₁.setTop (mkF m 0 #[.val (.ref ak), .val (.int pk)] [])) t → Steps p.tables e below (s₁.setTop (entryFrame m #[(.ref ak), (.int pk)] 2)) t := fun t k => castTop (ef_rm4 m ak pk) k
  obtain ⟨fs, hr, hrun, hended, hW, hsame⟩ := X0.leave (v := some (.int pk)) (fun h => by rw [Bd.returns] at h; cases h)
  refine ⟨_, _, pre0 _ ?_, hrun, hended, _, _, rfl, ?_, ⟨_, rfl⟩, hW, hsame.mono (by decide) (by decide)⟩
  · show Steps p.tables e below (s₁.setTop (mkF m 0 #[.val (.ref ak), .val (.int pk)] [])) _
    refine XS.iloadN X0.here hx rfl (hb hby d4_0) rfl ?_
    show Steps p.tables e below (s₁.setTop (mkF m 1 #[.val (.ref ak), .val (.int pk)] [(.int pk)])) _
    refine XS.iconst X0.here hx rfl (hb hby d4_1) ?_
    show Steps p.tables e below (s₁.setTop (mkF m 2 #[.val (.ref ak), .val (.int pk)] [(.int (1 : Int32)), (.int pk)])) _
    refine XS.icmpNo X0.here hx rfl (hb hby d4_2) rfl (tlt hc2).2.1 ?_
    show Steps p.tables e below (s₁.setTop (mkF m 5 #[.val (.ref ak), .val (.int pk)] [])) _
    refine XS.iloadN X0.here hx rfl (hb hby d4_5) rfl ?_
    show Steps p.tables e below (s₁.setTop (mkF m 6 #[.val (.ref ak), .val (.int pk)] [(.int pk)])) _
    refine XS.iconst X0.here hx rfl (hb hby d4_6) ?_
    show Steps p.tables e below (s₁.setTop (mkF m 7 #[.val (.ref ak), .val (.int pk)] [(.int (-1 : Int32)), (.int pk)])) _
    refine XS.icmpYes X0.here hx rfl (pc0 := 7) (pc' := 25) rfl (hb hby d4_7) rfl (teq (hp hc2)).1 (by decide) (by decide) ?_
    show Steps p.tables e below (s₁.setTop (mkF m 25 #[.val (.ref ak), .val (.int pk)] [])) _
    refine XS.iloadN X0.here hx rfl (hb hby d4_25) rfl ?_
    show Steps p.tables e below (s₁.setTop (mkF m 26 #[.val (.ref ak), .val (.int pk)] [(.int pk)])) _
    exact retI X0 hx Bd.returns (hb hby d4_26) hr
  · show QP (.int pk) h0 n0 _ s₁.heap _
    rw [e0]
    exact ⟨rfl, N0, rfl⟩
set_option maxRecDepth 65536 in
set_option maxHeartbeats 40000000 in
theorem rm4 (l : Launch) (Z : State) (a0 : Array Value) (hw : ∀ d ∈ tables_1, d.before a0 Z = true) (ws : List Jvm.Cond) (ak : Addr) (pk : Int32) (h0 : Heap) (n0 : Nat) (Z0 : n0 ≤ h0.size) (hp : pk < (1 : Int32) → pk = (-1 : Int32)) (r : Int32) (hr0 : r = (if pk < (1 : Int32) then pk else pk)) :
    MetFree l (⟨"com/example/segmentwise/segmentwise/model/Location", "checkPosition", "(Ljava/lang/String;I)I"⟩ : MethodName) (head1 (Jvm.Cond.code (⟨"com/example/segmentwise/segmentwise/model/Location", "checkPosition", "(Ljava/lang/String;I)I"⟩ : MethodName) prog_25_method_2_code 2 (some .int) :: ws) ({ frames := 0, cells := 0, slots := 0, locals := 0 } : Room)) (fun a U => a = #[(.ref ak), (.int pk)] ∧ Z.Warmed39 U.vm ∧ U.heap = h0) (fun _ _ _ _ _ => True) (fun _ U o U' => ∃ v L, o = .returned v ∧ QP (.int r) h0 n0 v U'.heap L ∧ FrameEnd U o U' L ({ frames := 0, cells := 0, slots := 0, locals := 0 } : Room).cells ({ frames := 0, cells := 0, slots := 0, locals := 0 } : Room).slots) := by
  by_cases hc2 : pk < (1 : Int32)
  · exact rm4_f l Z a0 hw ws ak pk h0 n0 Z0 hp r (hr0.trans (if_pos hc2)) hc2
  · exact rm4_t l Z a0 hw ws ak pk h0 n0 Z0 hp r (hr0.trans (if_neg hc2)) hc2
theorem d8_0 : decode jdk_18_method_1_code 0 = .ok (.aload_n 0, 1) := by decide +kernel
theorem d8_1 : decode jdk_18_method_1_code 1 = .ok (.invokespecial 1, 3) := by decide +kernel
theorem d8_4 : decode jdk_18_method_1_code 4 = .ok (.return_, 1) := by decide +kernel
theorem pnm_2 : plainName "java/lang/Number" = true := by first | (simp [plainName, overriddenIn]; done) | decide +kernel
theorem ef_rm8 (m : MethodId) (ak : Addr) : entryFrame m #[(.ref ak)] 1 = mkF m 0 #[.val (.ref ak)] [] := by first | (simp [entryFrame, mkF, argsToLocals, Value.category]; done) | rfl
set_option maxRecDepth 65536 in
set_option maxHeartbeats 40000000 in
theorem rm8 (l : Launch) (Z : State) (a0 : Array Value) (hw : ∀ d ∈ tables_1, d.before a0 Z = true) (ws : List Jvm.Cond) (ak : Addr) (h0 : Heap) (n0 : Nat) (Z0 : n0 ≤ h0.size) :
    MetFree l (⟨"java/lang/Number", "<init>", "()V"⟩ : MethodName) (head1 (Jvm.Cond.code (⟨"java/lang/Number", "<init>", "()V"⟩ : MethodName) jdk_18_method_1_code 1 none :: ws) ({ frames := 1, cells := 0, slots := 0, locals := 12 } : Room)) (fun a U => a = #[(.ref ak)] ∧ Z.Warmed39 U.vm ∧ U.heap = h0) (fun _ _ _ _ _ => True) (fun _ U o U' => ∃ v L, o = .returned v ∧ QV h0 n0 v U'.heap L ∧ FrameEnd U o U' L ({ frames := 1, cells := 0, slots := 0, locals := 12 } : Room).cells ({ frames := 1, cells := 0, slots := 0, locals := 12 } : Room).slots) := by
  refine MetFree.of_bodySF (plainFor_of_name pnm_2) hisR ?_
  intro p e s m args below meth c s₁ Bd hml0 hP hK
  obtain ⟨rfl, hZ, hh⟩ := hP
  have hx := Bd.exec
  have hby := Bd.bytes
  have hml : c.maxLocals = 1 := hml0
  have hown : s.vm.findClass "java/lang/Number" = some m.cls := findClass_of_methodNamed Bd.named
  have hnm := (name_of_methodNamed Bd.named Bd.method).1
  have X0 : Stand p l e ({ frames := 1, cells := 0, slots := 0, locals := 12 } : Room) s m #[(.ref ak)] below meth c s₁ [] 0 0 := Stand.of_body Bd
  have e0 : s₁.heap = h0 := by rw [← hh, Bd.state]; rfl
  have N0 := Fr.nil n0
  have pre0 : ∀ t, Steps p.tables e below (s₁.setTop (mkF m 0 #[.val (.ref ak)] [])) t → Steps p.tables e below (s₁.setTop (entryFrame m #[(.ref ak)] 1)) t := fun t k => castTop (ef_rm8 m ak) k
  obtain ⟨T1, X1, e1, st1⟩ := initO X0 hx hZ hown (hw _ (List.mem_of_getElem? (i := 61) rfl)) (hw _ (List.mem_of_getElem? (i := 11) rfl)) (hw _ (List.mem_of_getElem? (i := 12) rfl)) e0 (g := (mkF m 1 #[.val (.ref ak)] [(.ref ak)])) rfl (by rw [hml]; rfl) rfl (hb hby d8_1) (by decide) (W := 0) (by show 2 * 0 + _ ≤ _; exact Nat.le_of_eq rfl) (by decide)
  obtain ⟨fs, hr, hrun, hended, hW, hsame⟩ := X1.leave (v := none) (fun _ => rfl)
  refine ⟨_, _, pre0 _ ?_, hrun, hended, _, _, rfl, ?_, ⟨_, rfl⟩, hW, hsame.mono (by decide) (by decide)⟩
  · show Steps p.tables e below (s₁.setTop (mkF m 0 #[.val (.ref ak)] [])) _
    refine XS.aloadN X0.here hx rfl (hb hby d8_0) rfl rfl ?_
    show Steps p.tables e below (s₁.setTop (mkF m 1 #[.val (.ref ak)] [(.ref ak)])) _
    refine st1 _ ?_
    show Steps p.tables e below (T1.setTop (mkF m 4 #[.val (.ref ak)] [])) _
    exact X1.returnOut hx Bd.returns (hb hby d8_4) hr
  · show QV h0 n0 _ T1.heap _
    rw [e1]
    exact ⟨rfl, N0, rfl⟩
theorem d7_0 : decode jdk_33_method_23_code 0 = .ok (.aload_n 0, 1) := by decide +kernel
theorem d7_1 : decode jdk_33_method_23_code 1 = .ok (.invokespecial 202, 3) := by decide +kernel
theorem pdm_0 : parseMethodDescriptor "()V" = some ⟨[], none⟩ := by decide +kernel
theorem d7_4 : decode jdk_33_method_23_code 4 = .ok (.aload_n 0, 1) := by decide +kernel
theorem d7_5 : decode jdk_33_method_23_code 5 = .ok (.iload_n 1, 1) := by decide +kernel
theorem d7_6 : decode jdk_33_method_23_code 6 = .ok (.putfield 205, 3) := by decide +kernel
theorem d7_9 : decode jdk_33_method_23_code 9 = .ok (.return_, 1) := by decide +kernel
theorem pnm_3 : plainName "java/lang/Integer" = true := by first | (simp [plainName, overriddenIn]; done) | decide +kernel
theorem ef_rm7 (m : MethodId) (ak : Addr) (pk : Int32) : entryFrame m #[(.ref ak), (.int pk)] 2 = mkF m 0 #[.val (.ref ak), .val (.int pk)] [] := by first | (simp [entryFrame, mkF, argsToLocals, Value.category]; done) | rfl
set_option maxRecDepth 65536 in
set_option maxHeartbeats 40000000 in
theorem rm7 (l : Launch) (Z : State) (a0 : Array Value) (hw : ∀ d ∈ tables_1, d.before a0 Z = true) (ws : List Jvm.Cond) (ak : Addr) (pk : Int32) (u_value : Value) (h0 : Heap) (n0 : Nat) (Z0 : n0 ≤ h0.size) (E_ak : Exa Z h0 ak "java/lang/Integer") (F_value : Fld Z h0 ak "java/lang/Integer" "value" "I" u_value) (g_ak : n0 ≤ ak) :
    MetFree l (⟨"java/lang/Integer", "<init>", "(I)V"⟩ : MethodName) (head1 (Jvm.Cond.code (⟨"java/lang/Integer", "<init>", "(I)V"⟩ : MethodName) jdk_33_method_23_code 2 none :: ws) ({ frames := 2, cells := 0, slots := 0, locals := 24 } : Room)) (fun a U => a = #[(.ref ak), (.int pk)] ∧ Z.Warmed39 U.vm ∧ U.heap = h0) (fun _ _ _ _ _ => True) (fun _ U o U' => ∃ v L, o = .returned v ∧ QN Z ak h0 n0 v U'.heap L ∧ FrameEnd U o U' L ({ frames := 2, cells := 0, slots := 0, locals := 24 } : Room).cells ({ frames := 2, cells := 0, slots := 0, locals := 24 } : Room).slots) := by
  refine MetFree.of_bodySF (plainFor_of_name pnm_3) hisR ?_
  intro p e s m args below meth c s₁ Bd hml0 hP hK
  obtain ⟨rfl, hZ, hh⟩ := hP
  have hx := Bd.exec
  have hby := Bd.bytes
  have hml : c.maxLocals = 2 := hml0
  have hown : s.vm.findClass "java/lang/Integer" = some m.cls := findClass_of_methodNamed Bd.named
  have hnm := (name_of_methodNamed Bd.named Bd.method).1
  have X0 : Stand p l e ({ frames := 2, cells := 0, slots := 0, locals := 24 } : Room) s m #[(.ref ak), (.int pk)] below meth c s₁ [] 0 0 := Stand.of_body Bd
  have e0 : s₁.heap = h0 := by rw [← hh, Bd.state]; rfl
  have N0 := Fr.nil n0
  have pre0 : ∀ t, Steps p.tables e below (s₁.setTop (mkF m 0 #[.val (.ref ak), .val (.int pk)] [])) t → Steps p.tables e below (s₁.setTop (entryFrame m #[(.ref ak), (.int pk)] 2)) t := fun t k => castTop (ef_rm7 m ak pk) k
  obtain ⟨_, _, ⟨T1, L1, k1, n1⟩, -, X1, ⟨Lc1, hQ1, l1, y1, z1⟩, st1⟩ := X0.specialBack hx (y := (⟨"java/lang/Number", "<init>", "()V"⟩ : MethodName)) rfl hown (mvT hZ (hw _ (List.mem_of_getElem? (i := 55) rfl))) (mvT hZ (hw _ (List.mem_of_getElem? (i := 56) rfl))) (mvT hZ (hw _ (List.mem_of_getElem? (i := 60) rfl))) (by decide) (backOf (W := 0) (rm8 l Z a0 hw [] ak h0 n0 (Nat.le_trans Z0 (Keep.refl h0 [ak]).1)) hZ (hw _ (List.mem_of_getElem? (i := 60) rfl)) (hw _ (List.mem_of_getElem? (i := 59) rfl)) (by decide) (by decide)) (g := (mkF m 1 #[.val (.ref ak), .val (.int pk)] [(.ref ak)])) rfl (by rw [hml]; rfl) (Steps.refl _) (a := ak) (argsL := []) (rest := []) (lenOf pdm_0 rfl) rfl (by show 2 * 0 + _ ≤ _; exact Nat.le_of_eq rfl) (hb hby d7_1) (fun _ _ => ⟨rfl, e0, (by decide : 0 + 0 ≤ _), (by decide : 0 + 0 ≤ _)⟩)
  dsimp only [Pt.U, Pt.locs, Pt.cells, Pt.slots] at X1 l1 y1 z1 st1 hQ1
  subst l1 y1 z1
  obtain ⟨rfl, N1q, e1⟩ := hQ1
  have N1 := Fr.app N0 N1q
  obtain ⟨T2, h2, X2, e2, W2, st2⟩ := putF X1 hx hZ hown (host := "") (Or.inl (hw _ (List.mem_of_getElem? (i := 62) rfl))) Via.refl e1 F_value E_ak (Or.inr ⟨(hw _ (List.mem_of_getElem? (i := 63) rfl)), rfl, hnm⟩) (hw _ (List.mem_of_getElem? (i := 50) rfl)) (ty := .int) (by decide) rfl rfl (g := (mkF m 6 #[.val (.ref ak), .val (.int pk)] [(.int pk), (.ref ak)])) rfl rfl (hb hby d7_6)
  have E_2 := E_ak.wr W2
  have F_value_2 := F_value.same W2
  have K_2 : Keep h0 h2 [ak] := (Keep.refl h0 [ak]).wr W2 (Or.inl (List.mem_of_getElem? (i := 0) rfl))
  have N2 := Fr.snoc X2 N1 g_ak
  obtain ⟨fs, hr, hrun, hended, hW, hsame⟩ := X2.leave (v := none) (fun _ => rfl)
  refine ⟨_, _, pre0 _ ?_, hrun, hended, _, _, rfl, ?_, ⟨_, rfl⟩, hW, hsame.mono (by decide) (by decide)⟩
  · show Steps p.tables e below (s₁.setTop (mkF m 0 #[.val (.ref ak), .val (.int pk)] [])) _
    refine XS.aloadN X0.here hx rfl (hb hby d7_0) rfl rfl ?_
    show Steps p.tables e below (s₁.setTop (mkF m 1 #[.val (.ref ak), .val (.int pk)] [(.ref ak)])) _
    refine st1.trans ?_
    show Steps p.tables e below (T1.setTop (mkF m 4 #[.val (.ref ak), .val (.int pk)] [])) _
    refine XS.aloadN X1.here hx rfl (hb hby d7_4) rfl rfl ?_
    show Steps p.tables e below (T1.setTop (mkF m 5 #[.val (.ref ak), .val (.int pk)] [(.ref ak)])) _
    refine XS.iloadN X1.here hx rfl (hb hby d7_5) rfl ?_
    show Steps p.tables e below (T1.setTop (mkF m 6 #[.val (.ref ak), .val (.int pk)] [(.int pk), (.ref ak)])) _
    refine st2 _ ?_
    show Steps p.tables e below (T2.setTop (mkF m 9 #[.val (.ref ak), .val (.int pk)] [])) _
    exact X2.returnOut hx Bd.returns (hb hby d7_9) hr
  · show QN Z ak h0 n0 _ T2.heap _
    rw [e2]
    exact ⟨rfl, N2, K_2, E_2⟩
theorem d2_0 : decode prog_25_method_1_code 0 = .ok (.aload_n 0, 1) := by decide +kernel
theorem d2_1 : decode prog_25_method_1_code 1 = .ok (.invokespecial 1, 3) := by decide +kernel
theorem d2_4 : decode prog_25_method_1_code 4 = .ok (.aload_n 0, 1) := by decide +kernel
theorem d2_5 : decode prog_25_method_1_code 5 = .ok (.ldc 7, 2) := by decide +kernel
theorem d2_7 : decode prog_25_method_1_code 7 = .ok (.iload_n 1, 1) := by decide +kernel
theorem d2_8 : decode prog_25_method_1_code 8 = .ok (.invokestatic 9, 3) := by decide +kernel
theorem pdm_1 : parseMethodDescriptor "(Ljava/lang/String;I)I" = some ⟨[(.object "java/lang/String"), .int], some .int⟩ := by decide +kernel
theorem d2_11 : decode prog_25_method_1_code 11 = .ok (.putfield 15, 3) := by decide +kernel
theorem d2_14 : decode prog_25_method_1_code 14 = .ok (.aload_n 0, 1) := by decide +kernel
theorem d2_15 : decode prog_25_method_1_code 15 = .ok (.ldc 19, 2) := by decide +kernel
theorem d2_17 : decode prog_25_method_1_code 17 = .ok (.iload_n 2, 1) := by decide +kernel
theorem d2_18 : decode prog_25_method_1_code 18 = .ok (.invokestatic 9, 3) := by decide +kernel
theorem d2_21 : decode prog_25_method_1_code 21 = .ok (.putfield 21, 3) := by decide +kernel
theorem d2_24 : decode prog_25_method_1_code 24 = .ok (.aload_n 0, 1) := by decide +kernel
theorem d2_25 : decode prog_25_method_1_code 25 = .ok (.ldc 24, 2) := by decide +kernel
theorem d2_27 : decode prog_25_method_1_code 27 = .ok (.iload_n 3, 1) := by decide +kernel
theorem d2_28 : decode prog_25_method_1_code 28 = .ok (.invokestatic 9, 3) := by decide +kernel
theorem d2_31 : decode prog_25_method_1_code 31 = .ok (.putfield 26, 3) := by decide +kernel
theorem d2_34 : decode prog_25_method_1_code 34 = .ok (.aload_n 0, 1) := by decide +kernel
theorem d2_35 : decode prog_25_method_1_code 35 = .ok (.ldc 29, 2) := by decide +kernel
theorem d2_37 : decode prog_25_method_1_code 37 = .ok (.iload 4, 2) := by decide +kernel
theorem d2_39 : decode prog_25_method_1_code 39 = .ok (.invokestatic 9, 3) := by decide +kernel
theorem d2_42 : decode prog_25_method_1_code 42 = .ok (.putfield 31, 3) := by decide +kernel
theorem d2_45 : decode prog_25_method_1_code 45 = .ok (.return_, 1) := by decide +kernel
theorem ef_rm2 (m : MethodId) (ak : Addr) (p2 : Int32) (p3 : Int32) (p4 : Int32) (p5 : Int32) : entryFrame m #[(.ref ak), (.int p2), (.int p3), (.int p4), (.int p5)] 5 = mkF m 0 #[.val (.ref ak), .val (.int p2), .val (.int p3), .val (.int p4), .val (.int p5)] [] := by first | (simp [entryFrame, mkF, argsToLocals, Value.category]; done) | rfl
set_option maxRecDepth 65536 in
set_option maxHeartbeats 40000000 in
theorem rm2 (l : Launch) (Z : State) (a0 : Array Value) (hw : ∀ d ∈ tables_1, d.before a0 Z = true) (ws : List Jvm.Cond) (ak : Addr) (p2 : Int32) (p3 : Int32) (p4 : Int32) (p5 : Int32) (u_segmentPosition : Value) (u_elementPosition : Value) (u_elementOccurrence : Value) (u_componentPosition : Value) (h0 : Heap) (n0 : Nat) (Z0 : n0 ≤ h0.size) (E_ak : Exa Z h0 ak "com/example/segmentwise/segmentwise/model/Location") (F_segmentPosition : Fld Z h0 ak "com/example/segmentwise/segmentwise/model/Location" "segmentPosition" "I" u_segmentPosition) (F_elementPosition : Fld Z h0 ak "com/example/segmentwise/segmentwise/model/Location" "elementPosition" "I" u_elementPosition) (F_elementOccurrence : Fld Z h0 ak "com/example/segmentwise/segmentwise/model/Location" "elementOccurrence" "I" u_elementOccurrence) (F_componentPosition : Fld Z h0 ak "com/example/segmentwise/segmentwise/model/Location" "componentPosition" "I" u_componentPosition) (g_ak : n0 ≤ ak) (hp_p2 : p2 < (1 : Int32) → p2 = (-1 : Int32)) (hp_p3 : p3 < (1 : Int32) → p3 = (-1 : Int32)) (hp_p4 : p4 < (1 : Int32) → p4 = (-1 : Int32)) (hp_p5 : p5 < (1 : Int32) → p5 = (-1 : Int32)) :
    MetFree l (⟨"com/example/segmentwise/segmentwise/model/Location", "<init>", "(IIII)V"⟩ : MethodName) (head1 (Jvm.Cond.code (⟨"com/example/segmentwise/segmentwise/model/Location", "<init>", "(IIII)V"⟩ : MethodName) prog_25_method_1_code 5 none :: ws) ({ frames := 1, cells := 8, slots := 288, locals := 14 } : Room)) (fun a U => a = #[(.ref ak), (.int p2), (.int p3), (.int p4), (.int p5)] ∧ Z.Warmed39 U.vm ∧ U.heap = h0) (fun _ _ _ _ _ => True) (fun _ U o U' => ∃ v L, o = .returned v ∧ QC Z ak p2 p3 p4 p5 h0 n0 v U'.heap L ∧ ReturnedEndW U o U' L ({ frames := 1, cells := 8, slots := 288, locals := 14 } : Room).cells ({ frames := 1, cells := 8, slots := 288, locals := 14 } : Room).slots) := by
  refine MetFree.of_bodySF (plainFor_of_name pnm_1) hisR ?_
  intro p e s m args below meth c s₁ Bd hml0 hP hK
  obtain ⟨rfl, hZ, hh⟩ := hP
  have hx := Bd.exec
  have hby := Bd.bytes
  have hml : c.maxLocals = 5 := hml0
  have hown : s.vm.findClass "com/example/segmentwise/segmentwise/model/Location" = some m.cls := findClass_of_methodNamed Bd.named
  have hnm := (name_of_methodNamed Bd.named Bd.method).1
  have X0 : Stand p l e ({ frames := 1, cells := 8, slots := 288, locals := 14 } : Room) s m #[(.ref ak), (.int p2), (.int p3), (.int p4), (.int p5)] below meth c s₁ [] 0 0 := Stand.of_body Bd
  have e0 : s₁.heap = h0 := by rw [← hh, Bd.state]; rfl
  have N0 := Fr.nil n0
  have pre0 : ∀ t, Steps p.tables e below (s₁.setTop (mkF m 0 #[.val (.ref ak), .val (.int p2), .val (.int p3), .val (.int p4), .val (.int p5)] [])) t → Steps p.tables e below (s₁.setTop (entryFrame m #[(.ref ak), (.int p2), (.int p3), (.int p4), (.int p5)] 5)) t := fun t k => castTop (ef_rm2 m ak p2 p3 p4 p5) k
  have hS0 : s.Since s.vm 0 := (State.WarmedH.refl s).since 0
  obtain ⟨T1, X1, e1, st1⟩ := initO X0 hx hZ hown (hw _ (List.mem_of_getElem? (i := 10) rfl)) (hw _ (List.mem_of_getElem? (i := 11) rfl)) (hw _ (List.mem_of_getElem? (i := 12) rfl)) e0 (g := (mkF m 1 #[.val (.ref ak), .val (.int p2), .val (.int p3), .val (.int p4), .val (.int p5)] [(.ref ak)])) rfl (by rw [hml]; rfl) rfl (hb hby d2_1) (by decide) (W := 0) (by show 2 * 0 + _ ≤ _; exact Nat.le_of_eq rfl) (by decide)
  obtain ⟨str2, T2, h2, k2, X2, e2, E2, hS2, hk2, hZ2, hown2, st2⟩ := ldcS (s := s) (vm0 := s.vm) X1 hx hZ hown (hw _ (List.mem_of_getElem? (i := 13) rfl)) (own_wS hw) e1 hS0 (Nat.zero_le _) (g := (mkF m 5 #[.val (.ref ak), .val (.int p2), .val (.int p3), .val (.int p4), .val (.int p5)] [(.ref ak)])) rfl (hb hby d2_5) (n := 64) (by decide) (by decide) (by decide) (by decide)
  have E_2 := E_ak.ext E2
  have F_segmentPosition_2 := F_segmentPosition.ext E2
  have F_elementPosition_2 := F_elementPosition.ext E2
  have F_elementOccurrence_2 := F_elementOccurrence.ext E2
  have F_componentPosition_2 := F_componentPosition.ext E2
  have K_2 : Keep h0 h2 [ak] := (Keep.refl h0 [ak]).ext E2
  obtain ⟨_, _, ⟨T3, L3, k3, n3⟩, -, X3, ⟨Lc3, hQ3, l3, y3, z3⟩, st3⟩ := Jvm.LawKit.callS X2 hx (y := (⟨"com/example/segmentwise/segmentwise/model/Location", "checkPosition", "(Ljava/lang/String;I)I"⟩ : MethodName)) hown2 (mvT hZ2 (hw _ (List.mem_of_getElem? (i := 21) rfl))) (mvT hZ2 (hw _ (List.mem_of_getElem? (i := 22) rfl))) (mvT hZ2 (hw _ (List.mem_of_getElem? (i := 6) rfl))) (mvT hZ2 (hw _ (List.mem_of_getElem? (i := 23) rfl))) (by decide) (backOf (W := 1) (rm4 l Z a0 hw [] str2 p2 h2 n0 (Nat.le_trans Z0 K_2.1) hp_p2 p2 (ite_self _).symm) hZ2 (hw _ (List.mem_of_getElem? (i := 23) rfl)) (hw _ (List.mem_of_getElem? (i := 6) rfl)) (by decide) (by decide)) (g := (mkF m 8 #[.val (.ref ak), .val (.int p2), .val (.int p3), .val (.int p4), .val (.int p5)] [(.int p2), (.ref str2), (.ref ak)])) rfl (by rw [hml]; rfl) (argsL := [(.ref str2), (.int p2)]) (rest := [(.ref ak)]) (lenOf pdm_1 rfl) rfl (by show 2 * 0 + _ ≤ _; exact Nat.le_of_eq rfl) (hb hby d2_8) (fun _ _ => ⟨rfl, e2, (by decide : 2 + 0 ≤ _), (by decide : 68 + 0 ≤ _)⟩)
  dsimp only [Pt.U, Pt.locs, Pt.cells, Pt.slots] at X3 l3 y3 z3 st3 hQ3
  subst l3 y3 z3
  obtain ⟨rfl, N3q, e3⟩ := hQ3
  have N3 := Fr.app N0 N3q
  obtain ⟨T4, h4, X4, e4, W4, st4⟩ := putF X3 hx hZ2 hown2 (host := "") (Or.inl (hw _ (List.mem_of_getElem? (i := 24) rfl))) Via.refl e3 F_segmentPosition_2 E_2 (Or.inr ⟨(hw _ (List.mem_of_getElem? (i := 25) rfl)), rfl, hnm⟩) (hw _ (List.mem_of_getElem? (i := 5) rfl)) (ty := .int) (by decide) rfl rfl (g := (mkF m 11 #[.val (.ref ak), .val (.int p2), .val (.int p3), .val (.int p4), .val (.int p5)] [(.int p2), (.ref ak)])) rfl rfl (hb hby d2_11)
  have E_4 := E_2.wr W4
  have F_segmentPosition_4 := F_segmentPosition_2.same W4
  have F_elementPosition_4 := F_elementPosition_2.other W4 (Or.inr (slot_ne (Or.inr (hw _ (List.mem_of_getElem? (i := 28) rfl))) (Or.inr (hw _ (List.mem_of_getElem? (i := 25) rfl))) (by decide) (t := .int) (t' := .int) (by decide) (by decide)))
  have F_elementOccurrence_4 := F_elementOccurrence_2.other W4 (Or.inr (slot_ne (Or.inr (hw _ (List.mem_of_getElem? (i := 31) rfl))) (Or.inr (hw _ (List.mem_of_getElem? (i := 25) rfl))) (by decide) (t := .int) (t' := .int) (by decide) (by decide)))
  have F_componentPosition_4 := F_componentPosition_2.other W4 (Or.inr (slot_ne (Or.inr (hw _ (List.mem_of_getElem? (i := 34) rfl))) (Or.inr (hw _ (List.mem_of_getElem? (i := 25) rfl))) (by decide) (t := .int) (t' := .int) (by decide) (by decide)))
  have K_4 : Keep h0 h4 [ak] := K_2.wr W4 (Or.inl (List.mem_of_getElem? (i := 0) rfl))
  have N4 := Fr.snoc X4 N3 g_ak
  obtain ⟨str5, T5, h5, k5, X5, e5, E5, hS5, hk5, hZ5, hown5, st5⟩ := ldcS (s := s) (vm0 := T2.vm) X4 hx hZ2 hown2 (hw _ (List.mem_of_getElem? (i := 26) rfl)) (own_wS hw) e4 hS2 (Nat.le_trans hk2 (Keep.of_wr W4).1) (g := (mkF m 15 #[.val (.ref ak), .val (.int p2), .val (.int p3), .val (.int p4), .val (.int p5)] [(.ref ak)])) rfl (hb hby d2_15) (n := 64) (by decide) (by decide) (by decide) (by decide)
  have E_5 := E_4.ext E5
  have F_segmentPosition_5 := F_segmentPosition_4.ext E5
  have F_elementPosition_5 := F_elementPosition_4.ext E5
  have F_elementOccurrence_5 := F_elementOccurrence_4.ext E5
  have F_componentPosition_5 := F_componentPosition_4.ext E5
  have K_5 : Keep h0 h5 [ak] := K_4.ext E5
  obtain ⟨_, _, ⟨T6, L6, k6, n6⟩, -, X6, ⟨Lc6, hQ6, l6, y6, z6⟩, st6⟩ := Jvm.LawKit.callS X5 hx (y := (⟨"com/example/segmentwise/segmentwise/model/Location", "checkPosition", "(Ljava/lang/String;I)I"⟩ : MethodName)) hown5 (mvT hZ5 (hw _ (List.mem_of_getElem? (i := 21) rfl))) (mvT hZ5 (hw _ (List.mem_of_getElem? (i := 22) rfl))) (mvT hZ5 (hw _ (List.mem_of_getElem? (i := 6) rfl))) (mvT hZ5 (hw _ (List.mem_of_getElem? (i := 23) rfl))) (by decide) (backOf (W := 1) (rm4 l Z a0 hw [] str5 p3 h5 n0 (Nat.le_trans Z0 K_5.1) hp_p3 p3 (ite_self _).symm) hZ5 (hw _ (List.mem_of_getElem? (i := 23) rfl)) (hw _ (List.mem_of_getElem? (i := 6) rfl)) (by decide) (by decide)) (g := (mkF m 18 #[.val (.ref ak), .val (.int p2), .val (.int p3), .val (.int p4), .val (.int p5)] [(.int p3), (.ref str5), (.ref ak)])) rfl (by rw [hml]; rfl) (argsL := [(.ref str5), (.int p3)]) (rest := [(.ref ak)]) (lenOf pdm_1 rfl) rfl (by show 2 * 0 + _ ≤ _; exact Nat.le_of_eq rfl) (hb hby d2_18) (fun _ _ => ⟨rfl, e5, (by decide : 4 + 0 ≤ _), (by decide : 136 + 0 ≤ _)⟩)
  dsimp only [Pt.U, Pt.locs, Pt.cells, Pt.slots] at X6 l6 y6 z6 st6 hQ6
  subst l6 y6 z6
  obtain ⟨rfl, N6q, e6⟩ := hQ6
  have N6 := Fr.app N4 N6q
  obtain ⟨T7, h7, X7, e7, W7, st7⟩ := putF X6 hx hZ5 hown5 (host := "") (Or.inl (hw _ (List.mem_of_getElem? (i := 27) rfl))) Via.refl e6 F_elementPosition_5 E_5 (Or.inr ⟨(hw _ (List.mem_of_getElem? (i := 28) rfl)), rfl, hnm⟩) (hw _ (List.mem_of_getElem? (i := 5) rfl)) (ty := .int) (by decide) rfl rfl (g := (mkF m 21 #[.val (.ref ak), .val (.int p2), .val (.int p3), .val (.int p4), .val (.int p5)] [(.int p3), (.ref ak)])) rfl rfl (hb hby d2_21)
  have E_7 := E_5.wr W7
  have F_segmentPosition_7 := F_segmentPosition_5.other W7 (Or.inr (slot_ne (Or.inr (hw _ (List.mem_of_getElem? (i := 25) rfl))) (Or.inr (hw _ (List.mem_of_getElem? (i := 28) rfl))) (by decide) (t := .int) (t' := .int) (by decide) (by decide)))
  have F_elementPosition_7 := F_elementPosition_5.same W7
  have F_elementOccurrence_7 := F_elementOccurrence_5.other W7 (Or.inr (slot_ne (Or.inr (hw _ (List.mem_of_getElem? (i := 31) rfl))) (Or.inr (hw _ (List.mem_of_getElem? (i := 28) rfl))) (by decide) (t := .int) (t' := .int) (by decide) (by decide)))
  have F_componentPosition_7 := F_componentPosition_5.other W7 (Or.inr (slot_ne (Or.inr (hw _ (List.mem_of_getElem? (i := 34) rfl))) (Or.inr (hw _ (List.mem_of_getElem? (i := 28) rfl))) (by decide) (t := .int) (t' := .int) (by decide) (by decide)))
  have K_7 : Keep h0 h7 [ak] := K_5.wr W7 (Or.inl (List.mem_of_getElem? (i := 0) rfl))
  have N7 := Fr.snoc X7 N6 g_ak
  obtain ⟨str8, T8, h8, k8, X8, e8, E8, hS8, hk8, hZ8, hown8, st8⟩ := ldcS (s := s) (vm0 := T5.vm) X7 hx hZ5 hown5 (hw _ (List.mem_of_getElem? (i := 29) rfl)) (own_wS hw) e7 hS5 (Nat.le_trans hk5 (Keep.of_wr W7).1) (g := (mkF m 25 #[.val (.ref ak), .val (.int p2), .val (.int p3), .val (.int p4), .val (.int p5)] [(.ref ak)])) rfl (hb hby d2_25) (n := 72) (by decide) (by decide) (by decide) (by decide)
  have E_8 := E_7.ext E8
  have F_segmentPosition_8 := F_segmentPosition_7.ext E8
  have F_elementPosition_8 := F_elementPosition_7.ext E8
  have F_elementOccurrence_8 := F_elementOccurrence_7.ext E8
  have F_componentPosition_8 := F_componentPosition_7.ext E8
  have K_8 : Keep h0 h8 [ak] := K_7.ext E8
  obtain ⟨_, _, ⟨T9, L9, k9, n9⟩, -, X9, ⟨Lc9, hQ9, l9, y9, z9⟩, st9⟩ := Jvm.LawKit.callS X8 hx (y := (⟨"com/example/segmentwise/segmentwise/model/Location", "checkPosition", "(Ljava/lang/String;I)I"⟩ : MethodName)) hown8 (mvT hZ8 (hw _ (List.mem_of_getElem? (i := 21) rfl))) (mvT hZ8 (hw _ (List.mem_of_getElem? (i := 22) rfl))) (mvT hZ8 (hw _ (List.mem_of_getElem? (i := 6) rfl))) (mvT hZ8 (hw _ (List.mem_of_getElem? (i := 23) rfl))) (by decide) (backOf (W := 1) (rm4 l Z a0 hw [] str8 p4 h8 n0 (Nat.le_trans Z0 K_8.1) hp_p4 p4 (ite_self _).symm) hZ8 (hw _ (List.mem_of_getElem? (i := 23) rfl)) (hw _ (List.mem_of_getElem? (i := 6) rfl)) (by decide) (by decide)) (g := (mkF m 28 #[.val (.ref ak), .val (.int p2), .val (.int p3), .val (.int p4), .val (.int p5)] [(.int p4), (.ref str8), (.ref ak)])) rfl (by rw [hml]; rfl) (argsL := [(.ref str8), (.int p4)]) (rest := [(.ref ak)]) (lenOf pdm_1 rfl) rfl (by show 2 * 0 + _ ≤ _; exact Nat.le_of_eq rfl) (hb hby d2_28) (fun _ _ => ⟨rfl, e8, (by decide : 6 + 0 ≤ _), (by decide : 212 + 0 ≤ _)⟩)
  dsimp only [Pt.U, Pt.locs, Pt.cells, Pt.slots] at X9 l9 y9 z9 st9 hQ9
  subst l9 y9 z9
  obtain ⟨rfl, N9q, e9⟩ := hQ9
  have N9 := Fr.app N7 N9q
  obtain ⟨T10, h10, X10, e10, W10, st10⟩ := putF X9 hx hZ8 hown8 (host := "") (Or.inl (hw _ (List.mem_of_getElem? (i := 30) rfl))) Via.refl e9 F_elementOccurrence_8 E_8 (Or.inr ⟨(hw _ (List.mem_of_getElem? (i := 31) rfl)), rfl, hnm⟩) (hw _ (List.mem_of_getElem? (i := 5) rfl)) (ty := .int) (by decide) rfl rfl (g := (mkF m 31 #[.val (.ref ak), .val (.int p2), .val (.int p3), .val (.int p4), .val (.int p5)] [(.int p4), (.ref ak)])) rfl rfl (hb hby d2_31)
  have E_10 := E_8.wr W10
  have F_segmentPosition_10 := F_segmentPosition_8.other W10 (Or.inr (slot_ne (Or.inr (hw _ (List.mem_of_getElem? (i := 25) rfl))) (Or.inr (hw _ (List.mem_of_getElem? (i := 31) rfl))) (by decide) (t := .int) (t' := .int) (by decide) (by decide)))
  have F_elementPosition_10 := F_elementPosition_8.other W10 (Or.inr (slot_ne (Or.inr (hw _ (List.mem_of_getElem? (i := 28) rfl))) (Or.inr (hw _ (List.mem_of_getElem? (i := 31) rfl))) (by decide) (t := .int) (t' := .int) (by decide) (by decide)))
  have F_elementOccurrence_10 := F_elementOccurrence_8.same W10
  have F_componentPosition_10 := F_componentPosition_8.other W10 (Or.inr (slot_ne (Or.inr (hw _ (List.mem_of_getElem? (i := 34) rfl))) (Or.inr (hw _ (List.mem_of_getElem? (i := 31) rfl))) (by decide) (t := .int) (t' := .int) (by decide) (by decide)))
  have K_10 : Keep h0 h10 [ak] := K_8.wr W10 (Or.inl (List.mem_of_getElem? (i := 0) rfl))
  have N10 := Fr.snoc X10 N9 g_ak
  obtain ⟨str11, T11, h11, k11, X11, e11, E11, hS11, hk11, hZ11, hown11, st11⟩ := ldcS (s := s) (vm0 := T8.vm) X10 hx hZ8 hown8 (hw _ (List.mem_of_getElem? (i := 32) rfl)) (own_wS hw) e10 hS8 (Nat.le_trans hk8 (Keep.of_wr W10).1) (g := (mkF m 35 #[.val (.ref ak), .val (.int p2), .val (.int p3), .val (.int p4), .val (.int p5)] [(.ref ak)])) rfl (hb hby d2_35) (n := 72) (by decide) (by decide) (by decide) (by decide)
  have E_11 := E_10.ext E11
  have F_segmentPosition_11 := F_segmentPosition_10.ext E11
  have F_elementPosition_11 := F_elementPosition_10.ext E11
  have F_elementOccurrence_11 := F_elementOccurrence_10.ext E11
  have F_componentPosition_11 := F_componentPosition_10.ext E11
  have K_11 : Keep h0 h11 [ak] := K_10.ext E11
  obtain ⟨_, _, ⟨T12, L12, k12, n12⟩, -, X12, ⟨Lc12, hQ12, l12, y12, z12⟩, st12⟩ := Jvm.LawKit.callS X11 hx (y := (⟨"com/example/segmentwise/segmentwise/model/Location", "checkPosition", "(Ljava/lang/String;I)I"⟩ : MethodName)) hown11 (mvT hZ11 (hw _ (List.mem_of_getElem? (i := 21) rfl))) (mvT hZ11 (hw _ (List.mem_of_getElem? (i := 22) rfl))) (mvT hZ11 (hw _ (List.mem_of_getElem? (i := 6) rfl))) (mvT hZ11 (hw _ (List.mem_of_getElem? (i := 23) rfl))) (by decide) (backOf (W := 1) (rm4 l Z a0 hw [] str11 p5 h11 n0 (Nat.le_trans Z0 K_11.1) hp_p5 p5 (ite_self _).symm) hZ11 (hw _ (List.mem_of_getElem? (i := 23) rfl)) (hw _ (List.mem_of_getElem? (i := 6) rfl)) (by decide) (by decide)) (g := (mkF m 39 #[.val (.ref ak), .val (.int p2), .val (.int p3), .val (.int p4), .val (.int p5)] [(.int p5), (.ref str11), (.ref ak)])) rfl (by rw [hml]; rfl) (argsL := [(.ref str11), (.int p5)]) (rest := [(.ref ak)]) (lenOf pdm_1 rfl) rfl (by show 2 * 0 + _ ≤ _; exact Nat.le_of_eq rfl) (hb hby d2_39) (fun _ _ => ⟨rfl, e11, (by decide : 8 + 0 ≤ _), (by decide : 288 + 0 ≤ _)⟩)
  dsimp only [Pt.U, Pt.locs, Pt.cells, Pt.slots] at X12 l12 y12 z12 st12 hQ12
  subst l12 y12 z12
  obtain ⟨rfl, N12q, e12⟩ := hQ12
  have N12 := Fr.app N10 N12q
  obtain ⟨T13, h13, X13, e13, W13, st13⟩ := putF X12 hx hZ11 hown11 (host := "") (Or.inl (hw _ (List.mem_of_getElem? (i := 33) rfl))) Via.refl e12 F_componentPosition_11 E_11 (Or.inr ⟨(hw _ (List.mem_of_getElem? (i := 34) rfl)), rfl, hnm⟩) (hw _ (List.mem_of_getElem? (i := 5) rfl)) (ty := .int) (by decide) rfl rfl (g := (mkF m 42 #[.val (.ref ak), .val (.int p2), .val (.int p3), .val (.int p4), .val (.int p5)] [(.int p5), (.ref ak)])) rfl rfl (hb hby d2_42)
  have E_13 := E_11.wr W13
  have F_segmentPosition_13 := F_segmentPosition_11.other W13 (Or.inr (slot_ne (Or.inr (hw _ (List.mem_of_getElem? (i := 25) rfl))) (Or.inr (hw _ (List.mem_of_getElem? (i := 34) rfl))) (by decide) (t := .int) (t' := .int) (by decide) (by decide)))
  have F_elementPosition_13 := F_elementPosition_11.other W13 (Or.inr (slot_ne (Or.inr (hw _ (List.mem_of_getElem? (i := 28) rfl))) (Or.inr (hw _ (List.mem_of_getElem? (i := 34) rfl))) (by decide) (t := .int) (t' := .int) (by decide) (by decide)))
  have F_elementOccurrence_13 := F_elementOccurrence_11.other W13 (Or.inr (slot_ne (Or.inr (hw _ (List.mem_of_getElem? (i := 31) rfl))) (Or.inr (hw _ (List.mem_of_getElem? (i := 34) rfl))) (by decide) (t := .int) (t' := .int) (by decide) (by decide)))
  have F_componentPosition_13 := F_componentPosition_11.same W13
  have K_13 : Keep h0 h13 [ak] := K_11.wr W13 (Or.inl (List.mem_of_getElem? (i := 0) rfl))
  have N13 := Fr.snoc X13 N12 g_ak
  obtain ⟨fs, hr, hrun, hended, hEW⟩ := X13.leaveW hS11 (by rw [e13]; exact (Nat.le_trans hk11 (Keep.of_wr W13).1)) (v := none) (fun _ => rfl)
  refine ⟨_, _, pre0 _ ?_, hrun, hended, _, _, rfl, ?_, hEW.1, hEW.2.1, hEW.2.2.1, hEW.2.2.2.mono (by decide) (by decide)⟩
  · show Steps p.tables e below (s₁.setTop (mkF m 0 #[.val (.ref ak), .val (.int p2), .val (.int p3), .val (.int p4), .val (.int p5)] [])) _
    refine XS.aloadN X0.here hx rfl (hb hby d2_0) rfl rfl ?_
    show Steps p.tables e below (s₁.setTop (mkF m 1 #[.val (.ref ak), .val (.int p2), .val (.int p3), .val (.int p4), .val (.int p5)] [(.ref ak)])) _
    refine st1 _ ?_
    show Steps p.tables e below (T1.setTop (mkF m 4 #[.val (.ref ak), .val (.int p2), .val (.int p3), .val (.int p4), .val (.int p5)] [])) _
    refine XS.aloadN X1.here hx rfl (hb hby d2_4) rfl rfl ?_
    show Steps p.tables e below (T1.setTop (mkF m 5 #[.val (.ref ak), .val (.int p2), .val (.int p3), .val (.int p4), .val (.int p5)] [(.ref ak)])) _
    refine st2 _ ?_
    show Steps p.tables e below (T2.setTop (mkF m 7 #[.val (.ref ak), .val (.int p2), .val (.int p3), .val (.int p4), .val (.int p5)] [(.ref str2), (.ref ak)])) _
    refine XS.iloadN X2.here hx rfl (hb hby d2_7) rfl ?_
    show Steps p.tables e below (T2.setTop (mkF m 8 #[.val (.ref ak), .val (.int p2), .val (.int p3), .val (.int p4), .val (.int p5)] [(.int p2), (.ref str2), (.ref ak)])) _
    refine st3 _ ?_
    show Steps p.tables e below (T3.setTop (mkF m 11 #[.val (.ref ak), .val (.int p2), .val (.int p3), .val (.int p4), .val (.int p5)] [(.int p2), (.ref ak)])) _
    refine st4 _ ?_
    show Steps p.tables e below (T4.setTop (mkF m 14 #[.val (.ref ak), .val (.int p2), .val (.int p3), .val (.int p4), .val (.int p5)] [])) _
    refine XS.aloadN X4.here hx rfl (hb hby d2_14) rfl rfl ?_
    show Steps p.tables e below (T4.setTop (mkF m 15 #[.val (.ref ak), .val (.int p2), .val (.int p3), .val (.int p4), .val (.int p5)] [(.ref ak)])) _
    refine st5 _ ?_
    show Steps p.tables e below (T5.setTop (mkF m 17 #[.val (.ref ak), .val (.int p2), .val (.int p3), .val (.int p4), .val (.int p5)] [(.ref str5), (.ref ak)])) _
    refine XS.iloadN X5.here hx rfl (hb hby d2_17) rfl ?_
    show Steps p.tables e below (T5.setTop (mkF m 18 #[.val (.ref ak), .val (.int p2), .val (.int p3), .val (.int p4), .val (.int p5)] [(.int p3), (.ref str5), (.ref ak)])) _
    refine st6 _ ?_
    show Steps p.tables e below (T6.setTop (mkF m 21 #[.val (.ref ak), .val (.int p2), .val (.int p3), .val (.int p4), .val (.int p5)] [(.int p3), (.ref ak)])) _
    refine st7 _ ?_
    show Steps p.tables e below (T7.setTop (mkF m 24 #[.val (.ref ak), .val (.int p2), .val (.int p3), .val (.int p4), .val (.int p5)] [])) _
    refine XS.aloadN X7.here hx rfl (hb hby d2_24) rfl rfl ?_
    show Steps p.tables e below (T7.setTop (mkF m 25 #[.val (.ref ak), .val (.int p2), .val (.int p3), .val (.int p4), .val (.int p5)] [(.ref ak)])) _
    refine st8 _ ?_
    show Steps p.tables e below (T8.setTop (mkF m 27 #[.val (.ref ak), .val (.int p2), .val (.int p3), .val (.int p4), .val (.int p5)] [(.ref str8), (.ref ak)])) _
    refine XS.iloadN X8.here hx rfl (hb hby d2_27) rfl ?_
    show Steps p.tables e below (T8.setTop (mkF m 28 #[.val (.ref ak), .val (.int p2), .val (.int p3), .val (.int p4), .val (.int p5)] [(.int p4), (.ref str8), (.ref ak)])) _
    refine st9 _ ?_
    show Steps p.tables e below (T9.setTop (mkF m 31 #[.val (.ref ak), .val (.int p2), .val (.int p3), .val (.int p4), .val (.int p5)] [(.int p4), (.ref ak)])) _
    refine st10 _ ?_
    show Steps p.tables e below (T10.setTop (mkF m 34 #[.val (.ref ak), .val (.int p2), .val (.int p3), .val (.int p4), .val (.int p5)] [])) _
    refine XS.aloadN X10.here hx rfl (hb hby d2_34) rfl rfl ?_
    show Steps p.tables e below (T10.setTop (mkF m 35 #[.val (.ref ak), .val (.int p2), .val (.int p3), .val (.int p4), .val (.int p5)] [(.ref ak)])) _
    refine st11 _ ?_
    show Steps p.tables e below (T11.setTop (mkF m 37 #[.val (.ref ak), .val (.int p2), .val (.int p3), .val (.int p4), .val (.int p5)] [(.ref str11), (.ref ak)])) _
    refine XS.iload X11.here hx rfl (hb hby d2_37) rfl ?_
    show Steps p.tables e below (T11.setTop (mkF m 39 #[.val (.ref ak), .val (.int p2), .val (.int p3), .val (.int p4), .val (.int p5)] [(.int p5), (.ref str11), (.ref ak)])) _
    refine st12 _ ?_
    show Steps p.tables e below (T12.setTop (mkF m 42 #[.val (.ref ak), .val (.int p2), .val (.int p3), .val (.int p4), .val (.int p5)] [(.int p5), (.ref ak)])) _
    refine st13 _ ?_
    show Steps p.tables e below (T13.setTop (mkF m 45 #[.val (.ref ak), .val (.int p2), .val (.int p3), .val (.int p4), .val (.int p5)] [])) _
    exact X13.returnOut hx Bd.returns (hb hby d2_45) hr
  · show QC Z ak p2 p3 p4 p5 h0 n0 _ T13.heap _
    rw [e13]
    exact ⟨rfl, N13, K_13, E_13, F_segmentPosition_13, F_elementPosition_13, F_elementOccurrence_13, F_componentPosition_13⟩
theorem d5_0 : decode jdk_33_method_22_code 0 = .ok (.iload_n 0, 1) := by decide +kernel
theorem d5_1 : decode jdk_33_method_22_code 1 = .ok (.bipush (-128), 2) := by decide +kernel
theorem d5_3 : decode jdk_33_method_22_code 3 = .ok (.if_icmp .lt 20, 3) := by decide +kernel
theorem d5_23 : decode jdk_33_method_22_code 23 = .ok (.new 1, 3) := by decide +kernel
theorem d5_26 : decode jdk_33_method_22_code 26 = .ok (.dup, 1) := by decide +kernel
theorem d5_27 : decode jdk_33_method_22_code 27 = .ok (.iload_n 0, 1) := by decide +kernel
theorem d5_28 : decode jdk_33_method_22_code 28 = .ok (.invokespecial 199, 3) := by decide +kernel
theorem pdm_2 : parseMethodDescriptor "(I)V" = some ⟨[.int], none⟩ := by decide +kernel
theorem d5_31 : decode jdk_33_method_22_code 31 = .ok (.areturn, 1) := by decide +kernel
theorem d5_6 : decode jdk_33_method_22_code 6 = .ok (.iload_n 0, 1) := by decide +kernel
theorem d5_7 : decode jdk_33_method_22_code 7 = .ok (.getstatic 191, 3) := by decide +kernel
theorem d5_10 : decode jdk_33_method_22_code 10 = .ok (.if_icmp .gt 13, 3) := by decide +kernel
theorem d5_13 : decode jdk_33_method_22_code 13 = .ok (.getstatic 195, 3) := by decide +kernel
theorem d5_16 : decode jdk_33_method_22_code 16 = .ok (.iload_n 0, 1) := by decide +kernel
theorem d5_17 : decode jdk_33_method_22_code 17 = .ok (.sipush 128, 3) := by decide +kernel
theorem d5_20 : decode jdk_33_method_22_code 20 = .ok (.iadd, 1) := by decide +kernel
theorem d5_21 : decode jdk_33_method_22_code 21 = .ok (.aaload, 1) := by decide +kernel
theorem d5_22 : decode jdk_33_method_22_code 22 = .ok (.areturn, 1) := by decide +kernel
theorem ef_rm5 (m : MethodId) (pk : Int32) : entryFrame m #[(.int pk)] 1 = mkF m 0 #[.val (.int pk)] [] := by first | (simp [entryFrame, mkF, argsToLocals, Value.category]; done) | rfl
set_option maxRecDepth 65536 in
set_option maxHeartbeats 40000000 in
theorem rm5_t (l : Launch) (Z : State) (a0 : Array Value) (hw : ∀ d ∈ tables_1, d.before a0 Z = true) (ws : List Jvm.Cond) (pk : Int32) (w_c : Addr) (cl : Cell) (val : Int32 → Value) (h0 : Heap) (n0 : Nat) (Z0 : n0 ≤ h0.size) (S_high : Sta Z h0 "java/lang/Integer$IntegerCache" "high" "I" (.int (127 : Int32))) (S_cache : Sta Z h0 "java/lang/Integer$IntegerCache" "cache" "[Ljava/lang/Integer;" (.ref w_c)) (Bx : Bxs Z w_c cl "java/lang/Integer" "I" (256 : Int32) val) (EZ : Ext Z.heap h0) (hc3 : pk < (-128 : Int32)) :
    MetFree l (⟨"java/lang/Integer", "valueOf", "(I)Ljava/lang/Integer;"⟩ : MethodName) (head1 (Jvm.Cond.code (⟨"java/lang/Integer", "valueOf", "(I)Ljava/lang/Integer;"⟩ : MethodName) jdk_33_method_22_code 1 (some (.object "java/lang/Integer")) :: ws) ({ frames := 3, cells := 1, slots := 1, locals := 38 } : Room)) (fun a U => a = #[(.int pk)] ∧ Z.Warmed39 U.vm ∧ U.heap = h0) (fun _ _ _ _ _ => True) (fun _ U o U' => ∃ v L, o = .returned v ∧ QB Z h0 n0 v U'.heap L ∧ FrameEnd U o U' L ({ frames := 3, cells := 1, slots := 1, locals := 38 } : Room).cells ({ frames := 3, cells := 1, slots := 1, locals := 38 } : Room).slots) := by
  refine MetFree.of_bodySF (plainFor_of_name pnm_3) hisR ?_
  intro p e s m args below meth c s₁ Bd hml0 hP hK
  obtain ⟨rfl, hZ, hh⟩ := hP
  have hx := Bd.exec
  have hby := Bd.bytes
  have hml : c.maxLocals = 1 := hml0
  have hown : s.vm.findClass "java/lang/Integer" = some m.cls := findClass_of_methodNamed Bd.named
  have hnm := (name_of_methodNamed Bd.named Bd.method).1
  have X0 : Stand p l e ({ frames := 3, cells := 1, slots := 1, locals := 38 } : Room) s m #[(.int pk)] below meth c s₁ [] 0 0 := Stand.of_body Bd
  have e0 : s₁.heap = h0 := by rw [← hh, Bd.state]; rfl
  have N0 := Fr.nil n0
  have pre0 : ∀ t, Steps p.tables e below (s₁.setTop (mkF m 0 #[.val (.int pk)] [])) t → Steps p.tables e below (s₁.setTop (entryFrame m #[(.int pk)] 1)) t := fun t k => castTop (ef_rm5 m pk) k
  obtain ⟨T1, h1, X1, e1, E1, A1, D1, -, st1⟩ := newO X0 hx hZ hown (hw _ (List.mem_of_getElem? (i := 49) rfl)) (hw _ (List.mem_of_getElem? (i := 50) rfl)) (hw _ (List.mem_of_getElem? (i := 37) rfl)) e0 (g := (mkF m 23 #[.val (.int pk)] [])) rfl (hb hby d5_23) (by decide) (by decide)
  obtain ⟨b1, g1⟩ : ∃ z, z = h0.size := ⟨_, rfl⟩
  rw [← g1] at A1 D1 st1
  have gb1 : n0 ≤ b1 := Nat.le_trans Z0 (Nat.le_of_eq g1.symm)
  have F_value_b1 : Fld Z h1 b1 "java/lang/Integer" "value" "I" (.int (0 : Int32)) := D1 (Or.inr (hw _ (List.mem_of_getElem? (i := 63) rfl))) (ty := .int) (by decide)
  obtain ⟨_, _, ⟨T2, L2, k2, n2⟩, -, X2, ⟨Lc2, hQ2, l2, y2, z2⟩, st2⟩ := X1.specialBack hx (y := (⟨"java/lang/Integer", "<init>", "(I)V"⟩ : MethodName)) rfl hown (mvT hZ (hw _ (List.mem_of_getElem? (i := 51) rfl))) (mvT hZ (hw _ (List.mem_of_getElem? (i := 52) rfl))) (mvT hZ (hw _ (List.mem_of_getElem? (i := 54) rfl))) (by decide) (backOf (W := 1) (rm7 l Z a0 hw [] b1 pk _ h1 n0 (Nat.le_trans Z0 E1.1) A1 F_value_b1 gb1) hZ (hw _ (List.mem_of_getElem? (i := 54) rfl)) (hw _ (List.mem_of_getElem? (i := 37) rfl)) (by decide) (by decide)) (g := (mkF m 28 #[.val (.int pk)] [(.int pk), (.ref b1), (.ref b1)])) rfl (by rw [hml]; rfl) (Steps.refl _) (a := b1) (argsL := [(.int pk)]) (rest := [(.ref b1)]) (lenOf pdm_2 rfl) rfl (by show 2 * 0 + _ ≤ _; exact Nat.le_of_eq rfl) (hb hby d5_28) (fun _ _ => ⟨rfl, e1, (by decide : 1 + 0 ≤ _), (by decide : 1 + 0 ≤ _)⟩)
  dsimp only [Pt.U, Pt.locs, Pt.cells, Pt.slots] at X2 l2 y2 z2 st2 hQ2
  subst l2 y2 z2
  obtain ⟨rfl, N2q, K2, A2c⟩ := hQ2
  have Ec2 := own_extK E1 g1 K2
  have N2 := Fr.app N0 N2q
  obtain ⟨fs, hr, hrun, hended, hW, hsame⟩ := X2.leave (v := some (.ref b1)) (fun h => by rw [Bd.returns] at h; cases h)
  refine ⟨_, _, pre0 _ ?_, hrun, hended, _, _, rfl, ?_, ⟨_, rfl⟩, hW, hsame.mono (by decide) (by decide)⟩
  · show Steps p.tables e below (s₁.setTop (mkF m 0 #[.val (.int pk)] [])) _
    refine XS.iloadN X0.here hx rfl (hb hby d5_0) rfl ?_
    show Steps p.tables e below (s₁.setTop (mkF m 1 #[.val (.int pk)] [(.int pk)])) _
    refine XS.bipush X0.here hx rfl (hb hby d5_1) ?_
    show Steps p.tables e below (s₁.setTop (mkF m 3 #[.val (.int pk)] [(.int (-128 : Int32)), (.int pk)])) _
    refine XS.icmpYes X0.here hx rfl (pc0 := 3) (pc' := 23) rfl (hb hby d5_3) rfl (tlt hc3).1 (by decide) (by decide) ?_
    show Steps p.tables e below (s₁.setTop (mkF m 23 #[.val (.int pk)] [])) _
    refine st1 _ ?_
    show Steps p.tables e below (T1.setTop (mkF m 26 #[.val (.int pk)] [(.ref b1)])) _
    refine XS.dup X1.here hx rfl (hb hby d5_26) rfl rfl ?_
    show Steps p.tables e below (T1.setTop (mkF m 27 #[.val (.int pk)] [(.ref b1), (.ref b1)])) _
    refine XS.iloadN X1.here hx rfl (hb hby d5_27) rfl ?_
    show Steps p.tables e below (T1.setTop (mkF m 28 #[.val (.int pk)] [(.int pk), (.ref b1), (.ref b1)])) _
    refine st2.trans ?_
    show Steps p.tables e below (T2.setTop (mkF m 31 #[.val (.int pk)] [(.ref b1)])) _
    exact retOut X2 hx Bd.returns rfl (Or.inr (Or.inr (Or.inr (Or.inr ⟨rfl, rfl, rfl⟩)))) (hb hby d5_31) hr
  · show QB Z h0 n0 _ T2.heap _
    exact ⟨b1, rfl, N2, Ec2, A2c⟩
set_option maxRecDepth 65536 in
set_option maxHeartbeats 40000000 in
theorem rm5_ft (l : Launch) (Z : State) (a0 : Array Value) (hw : ∀ d ∈ tables_1, d.before a0 Z = true) (ws : List Jvm.Cond) (pk : Int32) (w_c : Addr) (cl : Cell) (val : Int32 → Value) (h0 : Heap) (n0 : Nat) (Z0 : n0 ≤ h0.size) (S_high : Sta Z h0 "java/lang/Integer$IntegerCache" "high" "I" (.int (127 : Int32))) (S_cache : Sta Z h0 "java/lang/Integer$IntegerCache" "cache" "[Ljava/lang/Integer;" (.ref w_c)) (Bx : Bxs Z w_c cl "java/lang/Integer" "I" (256 : Int32) val) (EZ : Ext Z.heap h0) (hc3 : ¬ (pk < (-128 : Int32))) (hc10 : (127 : Int32) < pk) :
    MetFree l (⟨"java/lang/Integer", "valueOf", "(I)Ljava/lang/Integer;"⟩ : MethodName) (head1 (Jvm.Cond.code (⟨"java/lang/Integer", "valueOf", "(I)Ljava/lang/Integer;"⟩ : MethodName) jdk_33_method_22_code 1 (some (.object "java/lang/Integer")) :: ws) ({ frames := 3, cells := 1, slots := 1, locals := 38 } : Room)) (fun a U => a = #[(.int pk)] ∧ Z.Warmed39 U.vm ∧ U.heap = h0) (fun _ _ _ _ _ => True) (fun _ U o U' => ∃ v L, o = .returned v ∧ QB Z h0 n0 v U'.heap L ∧ FrameEnd U o U' L ({ frames := 3, cells := 1, slots := 1, locals := 38 } : Room).cells ({ frames := 3, cells := 1, slots := 1, locals := 38 } : Room).slots) := by
  refine MetFree.of_bodySF (plainFor_of_name pnm_3) hisR ?_
  intro p e s m args below meth c s₁ Bd hml0 hP hK
  obtain ⟨rfl, hZ, hh⟩ := hP
  have hx := Bd.exec
  have hby := Bd.bytes
  have hml : c.maxLocals = 1 := hml0
  have hown : s.vm.findClass "java/lang/Integer" = some m.cls := findClass_of_methodNamed Bd.named
  have hnm := (name_of_methodNamed Bd.named Bd.method).1
  have X0 : Stand p l e ({ frames := 3, cells := 1, slots := 1, locals := 38 } : Room) s m #[(.int pk)] below meth c s₁ [] 0 0 := Stand.of_body Bd
  have e0 : s₁.heap = h0 := by rw [← hh, Bd.state]; rfl
  have N0 := Fr.nil n0
  have pre0 : ∀ t, Steps p.tables e below (s₁.setTop (mkF m 0 #[.val (.int pk)] [])) t → Steps p.tables e below (s₁.setTop (entryFrame m #[(.int pk)] 1)) t := fun t k => castTop (ef_rm5 m pk) k
  obtain ⟨T1, X1, e1, st1⟩ := getS2 X0 hx hZ hown (host := "") (Or.inl (hw _ (List.mem_of_getElem? (i := 39) rfl))) Via.refl e0 S_high (g := (mkF m 7 #[.val (.int pk)] [(.int pk)])) rfl (hb hby d5_7)
  obtain ⟨T2, h2, X2, e2, E2, A2, D2, -, st2⟩ := newO X1 hx hZ hown (hw _ (List.mem_of_getElem? (i := 49) rfl)) (hw _ (List.mem_of_getElem? (i := 50) rfl)) (hw _ (List.mem_of_getElem? (i := 37) rfl)) e1 (g := (mkF m 23 #[.val (.int pk)] [])) rfl (hb hby d5_23) (by decide) (by decide)
  obtain ⟨b2, g2⟩ : ∃ z, z = h0.size := ⟨_, rfl⟩
  rw [← g2] at A2 D2 st2
  have gb2 : n0 ≤ b2 := Nat.le_trans Z0 (Nat.le_of_eq g2.symm)
  have F_value_b2 : Fld Z h2 b2 "java/lang/Integer" "value" "I" (.int (0 : Int32)) := D2 (Or.inr (hw _ (List.mem_of_getElem? (i := 63) rfl))) (ty := .int) (by decide)
  obtain ⟨_, _, ⟨T3, L3, k3, n3⟩, -, X3, ⟨Lc3, hQ3, l3, y3, z3⟩, st3⟩ := X2.specialBack hx (y := (⟨"java/lang/Integer", "<init>", "(I)V"⟩ : MethodName)) rfl hown (mvT hZ (hw _ (List.mem_of_getElem? (i := 51) rfl))) (mvT hZ (hw _ (List.mem_of_getElem? (i := 52) rfl))) (mvT hZ (hw _ (List.mem_of_getElem? (i := 54) rfl))) (by decide) (backOf (W := 1) (rm7 l Z a0 hw [] b2 pk _ h2 n0 (Nat.le_trans Z0 E2.1) A2 F_value_b2 gb2) hZ (hw _ (List.mem_of_getElem? (i := 54) rfl)) (hw _ (List.mem_of_getElem? (i := 37) rfl)) (by decide) (by decide)) (g := (mkF m 28 #[.val (.int pk)] [(.int pk), (.ref b2), (.ref b2)])) rfl (by rw [hml]; rfl) (Steps.refl _) (a := b2) (argsL := [(.int pk)]) (rest := [(.ref b2)]) (lenOf pdm_2 rfl) rfl (by show 2 * 0 + _ ≤ _; exact Nat.le_of_eq rfl) (hb hby d5_28) (fun _ _ => ⟨rfl, e2, (by decide : 1 + 0 ≤ _), (by decide : 1 + 0 ≤ _)⟩)
  dsimp only [Pt.U, Pt.locs, Pt.cells, Pt.slots] at X3 l3 y3 z3 st3 hQ3
  subst l3 y3 z3
  obtain ⟨rfl, N3q, K3, A3c⟩ := hQ3
  have Ec3 := own_extK E2 g2 K3
  have N3 := Fr.app N0 N3q
  obtain ⟨fs, hr, hrun, hended, hW, hsame⟩ := X3.leave (v := some (.ref b2)) (fun h => by rw [Bd.returns] at h; cases h)
  refine ⟨_, _, pre0 _ ?_, hrun, hended, _, _, rfl, ?_, ⟨_, rfl⟩, hW, hsame.mono (by decide) (by decide)⟩
  · show Steps p.tables e below (s₁.setTop (mkF m 0 #[.val (.int pk)] [])) _
    refine XS.iloadN X0.here hx rfl (hb hby d5_0) rfl ?_
    show Steps p.tables e below (s₁.setTop (mkF m 1 #[.val (.int pk)] [(.int pk)])) _
    refine XS.bipush X0.here hx rfl (hb hby d5_1) ?_
    show Steps p.tables e below (s₁.setTop (mkF m 3 #[.val (.int pk)] [(.int (-128 : Int32)), (.int pk)])) _
    refine XS.icmpNo X0.here hx rfl (hb hby d5_3) rfl (flt hc3).1 ?_
    show Steps p.tables e below (s₁.setTop (mkF m 6 #[.val (.int pk)] [])) _
    refine XS.iloadN X0.here hx rfl (hb hby d5_6) rfl ?_
    show Steps p.tables e below (s₁.setTop (mkF m 7 #[.val (.int pk)] [(.int pk)])) _
    refine st1 _ ?_
    show Steps p.tables e below (T1.setTop (mkF m 10 #[.val (.int pk)] [(.int (127 : Int32)), (.int pk)])) _
    refine XS.icmpYes X1.here hx rfl (pc0 := 10) (pc' := 23) rfl (hb hby d5_10) rfl (tlt hc10).2.2.1 (by decide) (by decide) ?_
    show Steps p.tables e below (T1.setTop (mkF m 23 #[.val (.int pk)] [])) _
    refine st2 _ ?_
    show Steps p.tables e below (T2.setTop (mkF m 26 #[.val (.int pk)] [(.ref b2)])) _
    refine XS.dup X2.here hx rfl (hb hby d5_26) rfl rfl ?_
    show Steps p.tables e below (T2.setTop (mkF m 27 #[.val (.int pk)] [(.ref b2), (.ref b2)])) _
    refine XS.iloadN X2.here hx rfl (hb hby d5_27) rfl ?_
    show Steps p.tables e below (T2.setTop (mkF m 28 #[.val (.int pk)] [(.int pk), (.ref b2), (.ref b2)])) _
    refine st3.trans ?_
    show Steps p.tables e below (T3.setTop (mkF m 31 #[.val (.int pk)] [(.ref b2)])) _
    exact retOut X3 hx Bd.returns rfl (Or.inr (Or.inr (Or.inr (Or.inr ⟨rfl, rfl, rfl⟩)))) (hb hby d5_31) hr
  · show QB Z h0 n0 _ T3.heap _
    exact ⟨b2, rfl, N3, Ec3, A3c⟩
set_option maxRecDepth 65536 in
set_option maxHeartbeats 40000000 in
theorem rm5_ff (l : Launch) (Z : State) (a0 : Array Value) (hw : ∀ d ∈ tables_1, d.before a0 Z = true) (ws : List Jvm.Cond) (pk : Int32) (w_c : Addr) (cl : Cell) (val : Int32 → Value) (h0 : Heap) (n0 : Nat) (Z0 : n0 ≤ h0.size) (S_high : Sta Z h0 "java/lang/Integer$IntegerCache" "high" "I" (.int (127 : Int32))) (S_cache : Sta Z h0 "java/lang/Integer$IntegerCache" "cache" "[Ljava/lang/Integer;" (.ref w_c)) (Bx : Bxs Z w_c cl "java/lang/Integer" "I" (256 : Int32) val) (EZ : Ext Z.heap h0) (hc3 : ¬ (pk < (-128 : Int32))) (hc10 : ¬ ((127 : Int32) < pk)) :
    MetFree l (⟨"java/lang/Integer", "valueOf", "(I)Ljava/lang/Integer;"⟩ : MethodName) (head1 (Jvm.Cond.code (⟨"java/lang/Integer", "valueOf", "(I)Ljava/lang/Integer;"⟩ : MethodName) jdk_33_method_22_code 1 (some (.object "java/lang/Integer")) :: ws) ({ frames := 3, cells := 1, slots := 1, locals := 38 } : Room)) (fun a U => a = #[(.int pk)] ∧ Z.Warmed39 U.vm ∧ U.heap = h0) (fun _ _ _ _ _ => True) (fun _ U o U' => ∃ v L, o = .returned v ∧ QB Z h0 n0 v U'.heap L ∧ FrameEnd U o U' L ({ frames := 3, cells := 1, slots := 1, locals := 38 } : Room).cells ({ frames := 3, cells := 1, slots := 1, locals := 38 } : Room).slots) := by
  refine MetFree.of_bodySF (plainFor_of_name pnm_3) hisR ?_
  intro p e s m args below meth c s₁ Bd hml0 hP hK
  obtain ⟨rfl, hZ, hh⟩ := hP
  have hx := Bd.exec
  have hby := Bd.bytes
  have hml : c.maxLocals = 1 := hml0
  have hown : s.vm.findClass "java/lang/Integer" = some m.cls := findClass_of_methodNamed Bd.named
  have hnm := (name_of_methodNamed Bd.named Bd.method).1
  have X0 : Stand p l e ({ frames := 3, cells := 1, slots := 1, locals := 38 } : Room) s m #[(.int pk)] below meth c s₁ [] 0 0 := Stand.of_body Bd
  have e0 : s₁.heap = h0 := by rw [← hh, Bd.state]; rfl
  have N0 := Fr.nil n0
  have pre0 : ∀ t, Steps p.tables e below (s₁.setTop (mkF m 0 #[.val (.int pk)] [])) t → Steps p.tables e below (s₁.setTop (entryFrame m #[(.int pk)] 1)) t := fun t k => castTop (ef_rm5 m pk) k
  obtain ⟨T1, X1, e1, st1⟩ := getS2 X0 hx hZ hown (host := "") (Or.inl (hw _ (List.mem_of_getElem? (i := 39) rfl))) Via.refl e0 S_high (g := (mkF m 7 #[.val (.int pk)] [(.int pk)])) rfl (hb hby d5_7)
  obtain ⟨T2, X2, e2, st2⟩ := getS2 X1 hx hZ hown (host := "") (Or.inl (hw _ (List.mem_of_getElem? (i := 41) rfl))) Via.refl e1 S_cache (g := (mkF m 13 #[.val (.int pk)] [])) rfl (hb hby d5_13)
  have hin : ¬ ((pk + (128 : Int32)) < 0 ∨ cl.slots.size ≤ ((pk + (128 : Int32))).toNatClampNeg) := inb_of Bx.2.1 (own_idx hc3 hc10)
  obtain ⟨bx, hat, Ebx, -⟩ := Bx.2.2.2 _ hin
  have Arx := Bx.1.ext EZ
  obtain ⟨fs, hr, hrun, hended, hW, hsame⟩ := X2.leave (v := some (.ref bx)) (fun h => by rw [Bd.returns] at h; cases h)
  refine ⟨_, _, pre0 _ ?_, hrun, hended, _, _, rfl, ?_, ⟨_, rfl⟩, hW, hsame.mono (by decide) (by decide)⟩
  · show Steps p.tables e below (s₁.setTop (mkF m 0 #[.val (.int pk)] [])) _
    refine XS.iloadN X0.here hx rfl (hb hby d5_0) rfl ?_
    show Steps p.tables e below (s₁.setTop (mkF m 1 #[.val (.int pk)] [(.int pk)])) _
    refine XS.bipush X0.here hx rfl (hb hby d5_1) ?_
    show Steps p.tables e below (s₁.setTop (mkF m 3 #[.val (.int pk)] [(.int (-128 : Int32)), (.int pk)])) _
    refine XS.icmpNo X0.here hx rfl (hb hby d5_3) rfl (flt hc3).1 ?_
    show Steps p.tables e below (s₁.setTop (mkF m 6 #[.val (.int pk)] [])) _
    refine XS.iloadN X0.here hx rfl (hb hby d5_6) rfl ?_
    show Steps p.tables e below (s₁.setTop (mkF m 7 #[.val (.int pk)] [(.int pk)])) _
    refine st1 _ ?_
    show Steps p.tables e below (T1.setTop (mkF m 10 #[.val (.int pk)] [(.int (127 : Int32)), (.int pk)])) _
    refine XS.icmpNo X1.here hx rfl (hb hby d5_10) rfl (flt hc10).2.2.1 ?_
    show Steps p.tables e below (T1.setTop (mkF m 13 #[.val (.int pk)] [])) _
    refine st2 _ ?_
    show Steps p.tables e below (T2.setTop (mkF m 16 #[.val (.int pk)] [(.ref w_c)])) _
    refine XS.iloadN X2.here hx rfl (hb hby d5_16) rfl ?_
    show Steps p.tables e below (T2.setTop (mkF m 17 #[.val (.int pk)] [(.int pk), (.ref w_c)])) _
    refine XS.sipush X2.here hx rfl (hb hby d5_17) ?_
    show Steps p.tables e below (T2.setTop (mkF m 20 #[.val (.int pk)] [(.int (128 : Int32)), (.int pk), (.ref w_c)])) _
    refine XS.iadd X2.here hx rfl (hb hby d5_20) rfl ?_
    show Steps p.tables e below (T2.setTop (mkF m 21 #[.val (.int pk)] [(.int (pk + (128 : Int32))), (.ref w_c)])) _
    refine X2.aaload hx (j := (pk + (128 : Int32))) (v := .ref bx) (by rw [e2]; exact Arx.1) (State.isArrayOf_alike hZ.alike Arx.2.1) rfl Arx.2.2 hin hat (g := (mkF m 21 #[.val (.int pk)] [(.int (pk + (128 : Int32))), (.ref w_c)])) rfl rfl (hb hby d5_21) _ ?_
    show Steps p.tables e below (T2.setTop (mkF m 22 #[.val (.int pk)] [(.ref bx)])) _
    exact retOut X2 hx Bd.returns rfl (Or.inr (Or.inr (Or.inr (Or.inr ⟨rfl, rfl, rfl⟩)))) (hb hby d5_22) hr
  · show QB Z h0 n0 _ T2.heap _
    rw [e2]
    exact ⟨bx, rfl, N0, (own_ext_refl h0), (Ebx.ext EZ)⟩
set_option maxRecDepth 65536 in
set_option maxHeartbeats 40000000 in
theorem rm5 (l : Launch) (Z : State) (a0 : Array Value) (hw : ∀ d ∈ tables_1, d.before a0 Z = true) (ws : List Jvm.Cond) (pk : Int32) (w_c : Addr) (cl : Cell) (val : Int32 → Value) (h0 : Heap) (n0 : Nat) (Z0 : n0 ≤ h0.size) (S_high : Sta Z h0 "java/lang/Integer$IntegerCache" "high" "I" (.int (127 : Int32))) (S_cache : Sta Z h0 "java/lang/Integer$IntegerCache" "cache" "[Ljava/lang/Integer;" (.ref w_c)) (Bx : Bxs Z w_c cl "java/lang/Integer" "I" (256 : Int32) val) (EZ : Ext Z.heap h0) :
    MetFree l (⟨"java/lang/Integer", "valueOf", "(I)Ljava/lang/Integer;"⟩ : MethodName) (head1 (Jvm.Cond.code (⟨"java/lang/Integer", "valueOf", "(I)Ljava/lang/Integer;"⟩ : MethodName) jdk_33_method_22_code 1 (some (.object "java/lang/Integer")) :: ws) ({ frames := 3, cells := 1, slots := 1, locals := 38 } : Room)) (fun a U => a = #[(.int pk)] ∧ Z.Warmed39 U.vm ∧ U.heap = h0) (fun _ _ _ _ _ => True) (fun _ U o U' => ∃ v L, o = .returned v ∧ QB Z h0 n0 v U'.heap L ∧ FrameEnd U o U' L ({ frames := 3, cells := 1, slots := 1, locals := 38 } : Room).cells ({ frames := 3, cells := 1, slots := 1, locals := 38 } : Room).slots) := by
  by_cases hc3 : pk < (-128 : Int32)
  · exact rm5_t l Z a0 hw ws pk w_c cl val h0 n0 Z0 S_high S_cache Bx EZ hc3
  · by_cases hc10 : (127 : Int32) < pk
    · exact rm5_ft l Z a0 hw ws pk w_c cl val h0 n0 Z0 S_high S_cache Bx EZ hc3 hc10
    · exact rm5_ff l Z a0 hw ws pk w_c cl val h0 n0 Z0 S_high S_cache Bx EZ hc3 hc10
theorem d6_0 : decode prog_25_method_7_code 0 = .ok (.aload_n 0, 1) := by decide +kernel
theorem d6_1 : decode prog_25_method_7_code 1 = .ok (.aload_n 1, 1) := by decide +kernel
theorem d6_2 : decode prog_25_method_7_code 2 = .ok (.if_acmp .ne 5, 3) := by decide +kernel
theorem d6_5 : decode prog_25_method_7_code 5 = .ok (.iconst 1, 1) := by decide +kernel
theorem d6_6 : decode prog_25_method_7_code 6 = .ok (.ireturn, 1) := by decide +kernel
theorem ef_rm6s (m : MethodId) (ak : Addr) (al : Addr) : entryFrame m #[(.ref ak), (.ref al)] 3 = mkF m 0 #[.val (.ref ak), .val (.ref al), .unset] [] := by first | (simp [entryFrame, mkF, argsToLocals, Value.category]; done) | rfl
set_option maxRecDepth 65536 in
set_option maxHeartbeats 40000000 in
theorem rm6s (l : Launch) (Z : State) (a0 : Array Value) (hw : ∀ d ∈ tables_1, d.before a0 Z = true) (ws : List Jvm.Cond) (ak : Addr) (al : Addr) (h0 : Heap) (n0 : Nat) (Z0 : n0 ≤ h0.size) (hs : ak = al) (r : Int32) (hr0 : r = (1 : Int32)) :
    MetFree l (⟨"com/example/segmentwise/segmentwise/model/Location", "equals", "(Ljava/lang/Object;)Z"⟩ : MethodName) (head1 (Jvm.Cond.code (⟨"com/example/segmentwise/segmentwise/model/Location", "equals", "(Ljava/lang/Object;)Z"⟩ : MethodName) prog_25_method_7_code 3 (some .boolean) :: ws) ({ frames := 0, cells := 0, slots := 0, locals := 0 } : Room)) (fun a U => a = #[(.ref ak), (.ref al)] ∧ Z.Warmed39 U.vm ∧ U.heap = h0) (fun _ _ _ _ _ => True) (fun _ U o U' => ∃ v L, o = .returned v ∧ QP (.int r) h0 n0 v U'.heap L ∧ FrameEnd U o U' L ({ frames := 0, cells := 0, slots := 0, locals := 0 } : Room).cells ({ frames := 0, cells := 0, slots := 0, locals := 0 } : Room).slots) := by
  rw [hr0]
  refine MetFree.of_bodySF (plainFor_of_name pnm_1) hisR ?_
  intro p e s m args below meth c s₁ Bd hml0 hP hK
  obtain ⟨rfl, hZ, hh⟩ := hP
  have hx := Bd.exec
  have hby := Bd.bytes
  have hml : c.maxLocals = 3 := hml0
  have hown : s.vm.findClass "com/example/segmentwise/segmentwise/model/Location" = some m.cls := findClass_of_methodNamed Bd.named
  have hnm := (name_of_methodNamed Bd.named Bd.method).1
  have X0 : Stand p l e ({ frames := 0, cells := 0, slots := 0, locals := 0 } : Room) s m #[(.ref ak), (.ref al)] below meth c s₁ [] 0 0 := Stand.of_body Bd
  have e0 : s₁.heap = h0 := by rw [← hh, Bd.state]; rfl
  have N0 := Fr.nil n0
  have pre0 : ∀ t, Steps p.tables e below (s₁.setTop (mkF m 0 #[.val (.ref ak), .val (.ref al), .unset] [])) t → Steps p.tables e below (s₁.setTop (entryFrame m #[(.ref ak), (.ref al)] 3)) t := fun t k => castTop (ef_rm6s m ak al) k
  obtain ⟨fs, hr, hrun, hended, hW, hsame⟩ := X0.leave (v := some (.int (1 : Int32))) (fun h => by rw [Bd.returns] at h; cases h)
  refine ⟨_, _, pre0 _ ?_, hrun, hended, _, _, rfl, ?_, ⟨_, rfl⟩, hW, hsame.mono (by decide) (by decide)⟩
  · show Steps p.tables e below (s₁.setTop (mkF m 0 #[.val (.ref ak), .val (.ref al), .unset] [])) _
    refine XS.aloadN X0.here hx rfl (hb hby d6_0) rfl rfl ?_
    show Steps p.tables e below (s₁.setTop (mkF m 1 #[.val (.ref ak), .val (.ref al), .unset] [(.ref ak)])) _
    refine XS.aloadN X0.here hx rfl (hb hby d6_1) rfl rfl ?_
    show Steps p.tables e below (s₁.setTop (mkF m 2 #[.val (.ref ak), .val (.ref al), .unset] [(.ref al), (.ref ak)])) _
    refine Jvm.RoadKit.acmp (g := (mkF m 2 #[.val (.ref ak), .val (.ref al), .unset] [(.ref al), (.ref ak)])) X0 hx rfl rfl rfl (pc0 := 2) (pc' := 5) (same := true) rfl (hb hby d6_2) rfl (decide_eq_true (congrArg Value.ref (hs))) (by decide) (by decide) ?_
    show Steps p.tables e below (s₁.setTop (mkF m 5 #[.val (.ref ak), .val (.ref al), .unset] [])) _
    refine XS.iconst X0.here hx rfl (hb hby d6_5) ?_
    show Steps p.tables e below (s₁.setTop (mkF m 6 #[.val (.ref ak), .val (.ref al), .unset] [(.int (1 : Int32))])) _
    exact retN X0 hx (t := .boolean) Bd.returns (by simp) (hb hby d6_6) hr
  · show QP (.int (1 : Int32)) h0 n0 _ s₁.heap _
    rw [e0]
    exact ⟨rfl, N0, rfl⟩
theorem d6_7 : decode prog_25_method_7_code 7 = .ok (.aload_n 1, 1) := by decide +kernel
theorem d6_8 : decode prog_25_method_7_code 8 = .ok (.instanceof 10, 3) := by decide +kernel
theorem d6_11 : decode prog_25_method_7_code 11 = .ok (.ifCond .eq 11, 3) := by decide +kernel
theorem d6_22 : decode prog_25_method_7_code 22 = .ok (.iconst 0, 1) := by decide +kernel
theorem d6_23 : decode prog_25_method_7_code 23 = .ok (.ireturn, 1) := by decide +kernel
theorem ef_rm6n (m : MethodId) (ak : Addr) : entryFrame m #[(.ref ak), .null] 3 = mkF m 0 #[.val (.ref ak), .val .null, .unset] [] := by first | (simp [entryFrame, mkF, argsToLocals, Value.category]; done) | rfl
set_option maxRecDepth 65536 in
set_option maxHeartbeats 40000000 in
theorem rm6n (l : Launch) (Z : State) (a0 : Array Value) (hw : ∀ d ∈ tables_1, d.before a0 Z = true) (ws : List Jvm.Cond) (ak : Addr) (h0 : Heap) (n0 : Nat) (Z0 : n0 ≤ h0.size) (r : Int32) (hr0 : r = (0 : Int32)) :
    MetFree l (⟨"com/example/segmentwise/segmentwise/model/Location", "equals", "(Ljava/lang/Object;)Z"⟩ : MethodName) (head1 (Jvm.Cond.code (⟨"com/example/segmentwise/segmentwise/model/Location", "equals", "(Ljava/lang/Object;)Z"⟩ : MethodName) prog_25_method_7_code 3 (some .boolean) :: ws) ({ frames := 0, cells := 0, slots := 0, locals := 0 } : Room)) (fun a U => a = #[(.ref ak), .null] ∧ Z.Warmed39 U.vm ∧ U.heap = h0) (fun _ _ _ _ _ => True) (fun _ U o U' => ∃ v L, o = .returned v ∧ QP (.int r) h0 n0 v U'.heap L ∧ FrameEnd U o U' L ({ frames := 0, cells := 0, slots := 0, locals := 0 } : Room).cells ({ frames := 0, cells := 0, slots := 0, locals := 0 } : Room).slots) := by
  rw [hr0]
  refine MetFree.of_bodySF (plainFor_of_name pnm_1) hisR ?_
  intro p e s m args below meth c s₁ Bd hml0 hP hK
  obtain ⟨rfl, hZ, hh⟩ := hP
  have hx := Bd.exec
  have hby := Bd.bytes
  have hml : c.maxLocals = 3 := hml0
  have hown : s.vm.findClass "com/example/segmentwise/segmentwise/model/Location" = some m.cls := findClass_of_methodNamed Bd.named
  have hnm := (name_of_methodNamed Bd.named Bd.method).1
  have X0 : Stand p l e ({ frames := 0, cells := 0, slots := 0, locals := 0 } : Room) s m #[(.ref ak), .null] below meth c s₁ [] 0 0 := Stand.of_body Bd
  have e0 : s₁.heap = h0 := by rw [← hh, Bd.state]; rfl
  have N0 := Fr.nil n0
  have pre0 : ∀ t, Steps p.tables e below (s₁.setTop (mkF m 0 #[.val (.ref ak), .val .null, .unset] [])) t → Steps p.tables e below (s₁.setTop (entryFrame m #[(.ref ak), .null] 3)) t := fun t k => castTop (ef_rm6n m ak) k
  obtain ⟨fs, hr, hrun, hended, hW, hsame⟩ := X0.leave (v := some (.int (0 : Int32))) (fun h => by rw [Bd.returns] at h; cases h)
  refine ⟨_, _, pre0 _ ?_, hrun, hended, _, _, rfl, ?_, ⟨_, rfl⟩, hW, hsame.mono (by decide) (by decide)⟩
  · show Steps p.tables e below (s₁.setTop (mkF m 0 #[.val (.ref ak), .val .null, .unset] [])) _
    refine XS.aloadN X0.here hx rfl (hb hby d6_0) rfl rfl ?_
    show Steps p.tables e below (s₁.setTop (mkF m 1 #[.val (.ref ak), .val .null, .unset] [(.ref ak)])) _
    refine XS.aloadN X0.here hx rfl (hb hby d6_1) rfl rfl ?_
    show Steps p.tables e below (s₁.setTop (mkF m 2 #[.val (.ref ak), .val .null, .unset] [.null, (.ref ak)])) _
    refine Jvm.RoadKit.acmp (g := (mkF m 2 #[.val (.ref ak), .val .null, .unset] [.null, (.ref ak)])) X0 hx rfl rfl rfl (pc0 := 2) (pc' := 7) (same := false) rfl (hb hby d6_2) rfl (rfl) (by decide) (by decide) ?_
    show Steps p.tables e below (s₁.setTop (mkF m 7 #[.val (.ref ak), .val .null, .unset] [])) _
    refine XS.aloadN X0.here hx rfl (hb hby d6_7) rfl rfl ?_
    show Steps p.tables e below (s₁.setTop (mkF m 8 #[.val (.ref ak), .val .null, .unset] [.null])) _
    refine X0.instanceofNull hx (g := (mkF m 8 #[.val (.ref ak), .val .null, .unset] [.null])) rfl rfl (hb hby d6_8) _ ?_
    show Steps p.tables e below (s₁.setTop (mkF m 11 #[.val (.ref ak), .val .null, .unset] [(.int (0 : Int32))])) _
    refine XS.ifYes X0.here hx rfl (pc0 := 11) (pc' := 22) rfl (hb hby d6_11) rfl ((if0 _ _).trans (teq (by decide : (0 : Int32) = (0 : Int32))).1) (by decide) (by decide) ?_
    show Steps p.tables e below (s₁.setTop (mkF m 22 #[.val (.ref ak), .val .null, .unset] [])) _
    refine XS.iconst X0.here hx rfl (hb hby d6_22) ?_
    show Steps p.tables e below (s₁.setTop (mkF m 23 #[.val (.ref ak), .val .null, .unset] [(.int (0 : Int32))])) _
    exact retN X0 hx (t := .boolean) Bd.returns (by simp) (hb hby d6_23) hr
  · show QP (.int (0 : Int32)) h0 n0 _ s₁.heap _
    rw [e0]
    exact ⟨rfl, N0, rfl⟩
theorem ef_rm6i (m : MethodId) (ak : Addr) (al : Addr) : entryFrame m #[(.ref ak), (.ref al)] 3 = mkF m 0 #[.val (.ref ak), .val (.ref al), .unset] [] := by first | (simp [entryFrame, mkF, argsToLocals, Value.category]; done) | rfl
set_option maxRecDepth 65536 in
set_option maxHeartbeats 40000000 in
theorem rm6i (l : Launch) (Z : State) (a0 : Array Value) (hw : ∀ d ∈ tables_1, d.before a0 Z = true) (ws : List Jvm.Cond) (ak : Addr) (al : Addr) (h0 : Heap) (n0 : Nat) (Z0 : n0 ≤ h0.size) (hne : ¬ ak = al) (E_al : Exa Z h0 al "java/lang/Integer") (r : Int32) (hr0 : r = (0 : Int32)) :
    MetFree l (⟨"com/example/segmentwise/segmentwise/model/Location", "equals", "(Ljava/lang/Object;)Z"⟩ : MethodName) (head1 (Jvm.Cond.code (⟨"com/example/segmentwise/segmentwise/model/Location", "equals", "(Ljava/lang/Object;)Z"⟩ : MethodName) prog_25_method_7_code 3 (some .boolean) :: ws) ({ frames := 0, cells := 0, slots := 0, locals := 0 } : Room)) (fun a U => a = #[(.ref ak), (.ref al)] ∧ Z.Warmed39 U.vm ∧ U.heap = h0) (fun _ _ _ _ _ => True) (fun _ U o U' => ∃ v L, o = .returned v ∧ QP (.int r) h0 n0 v U'.heap L ∧ FrameEnd U o U' L ({ frames := 0, cells := 0, slots := 0, locals := 0 } : Room).cells ({ frames := 0, cells := 0, slots := 0, locals := 0 } : Room).slots) := by
  rw [hr0]
  refine MetFree.of_bodySF (plainFor_of_name pnm_1) hisR ?_
  intro p e s m args below meth c s₁ Bd hml0 hP hK
  obtain ⟨rfl, hZ, hh⟩ := hP
  have hx := Bd.exec
  have hby := Bd.bytes
  have hml : c.maxLocals = 3 := hml0
  have hown : s.vm.findClass "com/example/segmentwise/segmentwise/model/Location" = some m.cls := findClass_of_methodNamed Bd.named
  have hnm := (name_of_methodNamed Bd.named Bd.method).1
  have X0 : Stand p l e ({ frames := 0, cells := 0, slots := 0, locals := 0 } : Room) s m #[(.ref ak), (.ref al)] below meth c s₁ [] 0 0 := Stand.of_body Bd
  have e0 : s₁.heap = h0 := by rw [← hh, Bd.state]; rfl
  have N0 := Fr.nil n0
  have pre0 : ∀ t, Steps p.tables e below (s₁.setTop (mkF m 0 #[.val (.ref ak), .val (.ref al), .unset] [])) t → Steps p.tables e below (s₁.setTop (entryFrame m #[(.ref ak), (.ref al)] 3)) t := fun t k => castTop (ef_rm6i m ak al) k
  obtain ⟨T1, X1, e1, st1⟩ := instNo X0 hx hZ hown (hw _ (List.mem_of_getElem? (i := 47) rfl)) e0 E_al (own_no hw) (g := (mkF m 8 #[.val (.ref ak), .val (.ref al), .unset] [(.ref al)])) rfl rfl (hb hby d6_8)
  obtain ⟨fs, hr, hrun, hended, hW, hsame⟩ := X1.leave (v := some (.int (0 : Int32))) (fun h => by rw [Bd.returns] at h; cases h)
  refine ⟨_, _, pre0 _ ?_, hrun, hended, _, _, rfl, ?_, ⟨_, rfl⟩, hW, hsame.mono (by decide) (by decide)⟩
  · show Steps p.tables e below (s₁.setTop (mkF m 0 #[.val (.ref ak), .val (.ref al), .unset] [])) _
    refine XS.aloadN X0.here hx rfl (hb hby d6_0) rfl rfl ?_
    show Steps p.tables e below (s₁.setTop (mkF m 1 #[.val (.ref ak), .val (.ref al), .unset] [(.ref ak)])) _
    refine XS.aloadN X0.here hx rfl (hb hby d6_1) rfl rfl ?_
    show Steps p.tables e below (s₁.setTop (mkF m 2 #[.val (.ref ak), .val (.ref al), .unset] [(.ref al), (.ref ak)])) _
    refine Jvm.RoadKit.acmp (g := (mkF m 2 #[.val (.ref ak), .val (.ref al), .unset] [(.ref al), (.ref ak)])) X0 hx rfl rfl rfl (pc0 := 2) (pc' := 7) (same := false) rfl (hb hby d6_2) rfl (decide_eq_false fun q => (hne) (Value.ref.inj q)) (by decide) (by decide) ?_
    show Steps p.tables e below (s₁.setTop (mkF m 7 #[.val (.ref ak), .val (.ref al), .unset] [])) _
    refine XS.aloadN X0.here hx rfl (hb hby d6_7) rfl rfl ?_
    show Steps p.tables e below (s₁.setTop (mkF m 8 #[.val (.ref ak), .val (.ref al), .unset] [(.ref al)])) _
    refine st1 _ ?_
    show Steps p.tables e below (T1.setTop (mkF m 11 #[.val (.ref ak), .val (.ref al), .unset] [(.int (0 : Int32))])) _
    refine XS.ifYes X1.here hx rfl (pc0 := 11) (pc' := 22) rfl (hb hby d6_11) rfl ((if0 _ _).trans (teq (by decide : (0 : Int32) = (0 : Int32))).1) (by decide) (by decide) ?_
    show Steps p.tables e below (T1.setTop (mkF m 22 #[.val (.ref ak), .val (.ref al), .unset] [])) _
    refine XS.iconst X1.here hx rfl (hb hby d6_22) ?_
    show Steps p.tables e below (T1.setTop (mkF m 23 #[.val (.ref ak), .val (.ref al), .unset] [(.int (0 : Int32))])) _
    exact retN X1 hx (t := .boolean) Bd.returns (by simp) (hb hby d6_23) hr
  · show QP (.int (0 : Int32)) h0 n0 _ T1.heap _
    rw [e1]
    exact ⟨rfl, N0, rfl⟩
theorem d6_14 : decode prog_25_method_7_code 14 = .ok (.aload_n 1, 1) := by decide +kernel
theorem d6_15 : decode prog_25_method_7_code 15 = .ok (.checkcast 10, 3) := by decide +kernel
theorem d6_18 : decode prog_25_method_7_code 18 = .ok (.astore_n 2, 1) := by decide +kernel
theorem d6_19 : decode prog_25_method_7_code 19 = .ok (.goto 5, 3) := by decide +kernel
theorem d6_24 : decode prog_25_method_7_code 24 = .ok (.aload_n 0, 1) := by decide +kernel
theorem d6_25 : decode prog_25_method_7_code 25 = .ok (.getfield 15, 3) := by decide +kernel
theorem d6_28 : decode prog_25_method_7_code 28 = .ok (.aload_n 2, 1) := by decide +kernel
theorem d6_29 : decode prog_25_method_7_code 29 = .ok (.getfield 15, 3) := by decide +kernel
theorem d6_32 : decode prog_25_method_7_code 32 = .ok (.if_icmp .ne 40, 3) := by decide +kernel
theorem d6_72 : decode prog_25_method_7_code 72 = .ok (.iconst 0, 1) := by decide +kernel
theorem d6_73 : decode prog_25_method_7_code 73 = .ok (.ireturn, 1) := by decide +kernel
theorem d6_35 : decode prog_25_method_7_code 35 = .ok (.aload_n 0, 1) := by decide +kernel
theorem d6_36 : decode prog_25_method_7_code 36 = .ok (.getfield 21, 3) := by decide +kernel
theorem d6_39 : decode prog_25_method_7_code 39 = .ok (.aload_n 2, 1) := by decide +kernel
theorem d6_40 : decode prog_25_method_7_code 40 = .ok (.getfield 21, 3) := by decide +kernel
theorem d6_43 : decode prog_25_method_7_code 43 = .ok (.if_icmp .ne 29, 3) := by decide +kernel
theorem d6_46 : decode prog_25_method_7_code 46 = .ok (.aload_n 0, 1) := by decide +kernel
theorem d6_47 : decode prog_25_method_7_code 47 = .ok (.getfield 26, 3) := by decide +kernel
theorem d6_50 : decode prog_25_method_7_code 50 = .ok (.aload_n 2, 1) := by decide +kernel
theorem d6_51 : decode prog_25_method_7_code 51 = .ok (.getfield 26, 3) := by decide +kernel
theorem d6_54 : decode prog_25_method_7_code 54 = .ok (.if_icmp .ne 18, 3) := by decide +kernel
theorem d6_57 : decode prog_25_method_7_code 57 = .ok (.aload_n 0, 1) := by decide +kernel
theorem d6_58 : decode prog_25_method_7_code 58 = .ok (.getfield 31, 3) := by decide +kernel
theorem d6_61 : decode prog_25_method_7_code 61 = .ok (.aload_n 2, 1) := by decide +kernel
theorem d6_62 : decode prog_25_method_7_code 62 = .ok (.getfield 31, 3) := by decide +kernel
theorem d6_65 : decode prog_25_method_7_code 65 = .ok (.if_icmp .ne 7, 3) := by decide +kernel
theorem d6_68 : decode prog_25_method_7_code 68 = .ok (.iconst 1, 1) := by decide +kernel
theorem d6_69 : decode prog_25_method_7_code 69 = .ok (.goto 4, 3) := by decide +kernel
theorem ef_rm6o (m : MethodId) (ak : Addr) (al : Addr) : entryFrame m #[(.ref ak), (.ref al)] 3 = mkF m 0 #[.val (.ref ak), .val (.ref al), .unset] [] := by first | (simp [entryFrame, mkF, argsToLocals, Value.category]; done) | rfl
set_option maxRecDepth 65536 in
set_option maxHeartbeats 40000000 in
theorem rm6o_t (l : Launch) (Z : State) (a0 : Array Value) (hw : ∀ d ∈ tables_1, d.before a0 Z = true) (ws : List Jvm.Cond) (ak : Addr) (al : Addr) (k1 : Int32) (k2 : Int32) (k3 : Int32) (k4 : Int32) (l1 : Int32) (l2 : Int32) (l3 : Int32) (l4 : Int32) (h0 : Heap) (n0 : Nat) (Z0 : n0 ≤ h0.size) (hne : ¬ ak = al) (E_ak : Exa Z h0 ak "com/example/segmentwise/segmentwise/model/Location") (F_ak_segmentPosition : Fld Z h0 ak "com/example/segmentwise/segmentwise/model/Location" "segmentPosition" "I" (.int k1)) (F_ak_elementPosition : Fld Z h0 ak "com/example/segmentwise/segmentwise/model/Location" "elementPosition" "I" (.int k2)) (F_ak_elementOccurrence : Fld Z h0 ak "com/example/segmentwise/segmentwise/model/Location" "elementOccurrence" "I" (.int k3)) (F_ak_componentPosition : Fld Z h0 ak "com/example/segmentwise/segmentwise/model/Location" "componentPosition" "I" (.int k4)) (E_al : Exa Z h0 al "com/example/segmentwise/segmentwise/model/Location") (F_al_segmentPosition : Fld Z h0 al "com/example/segmentwise/segmentwise/model/Location" "segmentPosition" "I" (.int l1)) (F_al_elementPosition : Fld Z h0 al "com/example/segmentwise/segmentwise/model/Location" "elementPosition" "I" (.int l2)) (F_al_elementOccurrence : Fld Z h0 al "com/example/segmentwise/segmentwise/model/Location" "elementOccurrence" "I" (.int l3)) (F_al_componentPosition : Fld Z h0 al "com/example/segmentwise/segmentwise/model/Location" "componentPosition" "I" (.int l4)) (r : Int32) (hr0 : r = (0 : Int32)) (hc32 : ¬ (k1 = l1)) :
    MetFree l (⟨"com/example/segmentwise/segmentwise/model/Location", "equals", "(Ljava/lang/Object;)Z"⟩ : MethodName) (head1 (Jvm.Cond.code (⟨"com/example/segmentwise/segmentwise/model/Location", "equals", "(Ljava/lang/Object;)Z"⟩ : MethodName) prog_25_method_7_code 3 (some .boolean) :: ws) ({ frames := 0, cells := 0, slots := 0, locals := 0 } : Room)) (fun a U => a = #[(.ref ak), (.ref al)] ∧ Z.Warmed39 U.vm ∧ U.heap = h0) (fun _ _ _ _ _ => True) (fun _ U o U' => ∃ v L, o = .returned v ∧ QP (.int r) h0 n0 v U'.heap L ∧ FrameEnd U o U' L ({ frames := 0, cells := 0, slots := 0, locals := 0 } : Room).cells ({ frames := 0, cells := 0, slots := 0, locals := 0 } : Room).slots) := by
  rw [hr0]
  refine MetFree.of_bodySF (plainFor_of_name pnm_1) hisR ?_
  intro p e s m args below meth c s₁ Bd hml0 hP hK
  obtain ⟨rfl, hZ, hh⟩ := hP
  have hx := Bd.exec
  have hby := Bd.bytes
  have hml : c.maxLocals = 3 := hml0
  have hown : s.vm.findClass "com/example/segmentwise/segmentwise/model/Location" = some m.cls := findClass_of_methodNamed Bd.named
  have hnm := (name_of_methodNamed Bd.named Bd.method).1
  have X0 : Stand p l e ({ frames := 0, cells := 0, slots := 0, locals := 0 } : Room) s m #[(.ref ak), (.ref al)] below meth c s₁ [] 0 0 := Stand.of_body Bd
  have e0 : s₁.heap = h0 := by rw [← hh, Bd.state]; rfl
  have N0 := Fr.nil n0
  have pre0 : ∀ t, Steps p.tables e below (s₁.setTop (mkF m 0 #[.val (.ref ak), .val (.ref al), .unset] [])) t → Steps p.tables e below (s₁.setTop (entryFrame m #[(.ref ak), (.ref al)] 3)) t := fun t k => castTop (ef_rm6o m ak al) k
  obtain ⟨T1, X1, e1, st1⟩ := instY X0 hx hZ hown (hw _ (List.mem_of_getElem? (i := 47) rfl)) e0 (Ins.self E_al) (g := (mkF m 8 #[.val (.ref ak), .val (.ref al), .unset] [(.ref al)])) rfl rfl (hb hby d6_8)
  obtain ⟨T2, X2, e2, st2⟩ := castY X1 hx hZ hown (hw _ (List.mem_of_getElem? (i := 47) rfl)) e1 (Ins.self E_al) (g := (mkF m 15 #[.val (.ref ak), .val (.ref al), .unset] [(.ref al)])) rfl rfl (hb hby d6_15)
  obtain ⟨T3, X3, e3, st3⟩ := getF X2 hx hZ hown (host := "") (Or.inl (hw _ (List.mem_of_getElem? (i := 24) rfl))) Via.refl e2 F_ak_segmentPosition (g := (mkF m 25 #[.val (.ref ak), .val (.ref al), .val (.ref al)] [(.ref ak)])) rfl rfl (hb hby d6_25)
  obtain ⟨T4, X4, e4, st4⟩ := getF X3 hx hZ hown (host := "") (Or.inl (hw _ (List.mem_of_getElem? (i := 24) rfl))) Via.refl e3 F_al_segmentPosition (g := (mkF m 29 #[.val (.ref ak), .val (.ref al), .val (.ref al)] [(.ref al), (.int k1)])) rfl rfl (hb hby d6_29)
  obtain ⟨fs, hr, hrun, hended, hW, hsame⟩ := X4.leave (v := some (.int (0 : Int32))) (fun h => by rw [Bd.returns] at h; cases h)
  refine ⟨_, _, pre0 _ ?_, hrun, hended, _, _, rfl, ?_, ⟨_, rfl⟩, hW, hsame.mono (by decide) (by decide)⟩
  · show Steps p.tables e below (s₁.setTop (mkF m 0 #[.val (.ref ak), .val (.ref al), .unset] [])) _
    refine XS.aloadN X0.here hx rfl (hb hby d6_0) rfl rfl ?_
    show Steps p.tables e below (s₁.setTop (mkF m 1 #[.val (.ref ak), .val (.ref al), .unset] [(.ref ak)])) _
    refine XS.aloadN X0.here hx rfl (hb hby d6_1) rfl rfl ?_
    show Steps p.tables e below (s₁.setTop (mkF m 2 #[.val (.ref ak), .val (.ref al), .unset] [(.ref al), (.ref ak)])) _
    refine Jvm.RoadKit.acmp (g := (mkF m 2 #[.val (.ref ak), .val (.ref al), .unset] [(.ref al), (.ref ak)])) X0 hx rfl rfl rfl (pc0 := 2) (pc' := 7) (same := false) rfl (hb hby d6_2) rfl (decide_eq_false fun q => (hne) (Value.ref.inj q)) (by decide) (by decide) ?_
    show Steps p.tables e below (s₁.setTop (mkF m 7 #[.val (.ref ak), .val (.ref al), .unset] [])) _
    refine XS.aloadN X0.here hx rfl (hb hby d6_7) rfl rfl ?_
    show Steps p.tables e below (s₁.setTop (mkF m 8 #[.val (.ref ak), .val (.ref al), .unset] [(.ref al)])) _
    refine st1 _ ?_
    show Steps p.tables e below (T1.setTop (mkF m 11 #[.val (.ref ak), .val (.ref al), .unset] [(.int (1 : Int32))])) _
    refine XS.ifNo X1.here hx rfl (hb hby d6_11) rfl ((if0 _ _).trans (feq (by decide : ¬ ((1 : Int32) = (0 : Int32)))).1) ?_
    show Steps p.tables e below (T1.setTop (mkF m 14 #[.val (.ref ak), .val (.ref al), .unset] [])) _
    refine XS.aloadN X1.here hx rfl (hb hby d6_14) rfl rfl ?_
    show Steps p.tables e below (T1.setTop (mkF m 15 #[.val (.ref ak), .val (.ref al), .unset] [(.ref al)])) _
    refine st2 _ ?_
    show Steps p.tables e below (T2.setTop (mkF m 18 #[.val (.ref ak), .val (.ref al), .unset] [(.ref al)])) _
    refine XS.astoreN X2.here hx rfl (hb hby d6_18) rfl rfl (l' := #[.val (.ref ak), .val (.ref al), .val (.ref al)]) rfl ?_
    show Steps p.tables e below (T2.setTop (mkF m 19 #[.val (.ref ak), .val (.ref al), .val (.ref al)] [])) _
    refine XS.goto X2.here hx rfl (pc0 := 19) (pc' := 24) rfl (hb hby d6_19) (by decide) (by decide) ?_
    show Steps p.tables e below (T2.setTop (mkF m 24 #[.val (.ref ak), .val (.ref al), .val (.ref al)] [])) _
    refine XS.aloadN X2.here hx rfl (hb hby d6_24) rfl rfl ?_
    show Steps p.tables e below (T2.setTop (mkF m 25 #[.val (.ref ak), .val (.ref al), .val (.ref al)] [(.ref ak)])) _
    refine st3 _ ?_
    show Steps p.tables e below (T3.setTop (mkF m 28 #[.val (.ref ak), .val (.ref al), .val (.ref al)] [(.int k1)])) _
    refine XS.aloadN X3.here hx rfl (hb hby d6_28) rfl rfl ?_
    show Steps p.tables e below (T3.setTop (mkF m 29 #[.val (.ref ak), .val (.ref al), .val (.ref al)] [(.ref al), (.int k1)])) _
    refine st4 _ ?_
    show Steps p.tables e below (T4.setTop (mkF m 32 #[.val (.ref ak), .val (.ref al), .val (.ref al)] [(.int l1), (.int k1)])) _
    refine XS.icmpYes X4.here hx rfl (pc0 := 32) (pc' := 72) rfl (hb hby d6_32) rfl (feq hc32).2 (by decide) (by decide) ?_
    show Steps p.tables e below (T4.setTop (mkF m 72 #[.val (.ref ak), .val (.ref al), .val (.ref al)] [])) _
    refine XS.iconst X4.here hx rfl (hb hby d6_72) ?_
    show Steps p.tables e below (T4.setTop (mkF m 73 #[.val (.ref ak), .val (.ref al), .val (.ref al)] [(.int (0 : Int32))])) _
    exact retN X4 hx (t := .boolean) Bd.returns (by simp) (hb hby d6_73) hr
  · show QP (.int (0 : Int32)) h0 n0 _ T4.heap _
    rw [e4]
    exact ⟨rfl, N0, rfl⟩
set_option maxRecDepth 65536 in
set_option maxHeartbeats 40000000 in
theorem rm6o_ft (l : Launch) (Z : State) (a0 : Array Value) (hw : ∀ d ∈ tables_1, d.before a0 Z = true) (ws : List Jvm.Cond) (ak : Addr) (al : Addr) (k1 : Int32) (k2 : Int32) (k3 : Int32) (k4 : Int32) (l1 : Int32) (l2 : Int32) (l3 : Int32) (l4 : Int32) (h0 : Heap) (n0 : Nat) (Z0 : n0 ≤ h0.size) (hne : ¬ ak = al) (E_ak : Exa Z h0 ak "com/example/segmentwise/segmentwise/model/Location") (F_ak_segmentPosition : Fld Z h0 ak "com/example/segmentwise/segmentwise/model/Location" "segmentPosition" "I" (.int k1)) (F_ak_elementPosition : Fld Z h0 ak "com/example/segmentwise/segmentwise/model/Location" "elementPosition" "I" (.int k2)) (F_ak_elementOccurrence : Fld Z h0 ak "com/example/segmentwise/segmentwise/model/Location" "elementOccurrence" "I" (.int k3)) (F_ak_componentPosition : Fld Z h0 ak "com/example/segmentwise/segmentwise/model/Location" "componentPosition" "I" (.int k4)) (E_al : Exa Z h0 al "com/example/segmentwise/segmentwise/model/Location") (F_al_segmentPosition : Fld Z h0 al "com/example/segmentwise/segmentwise/model/Location" "segmentPosition" "I" (.int l1)) (F_al_elementPosition : Fld Z h0 al "com/example/segmentwise/segmentwise/model/Location" "elementPosition" "I" (.int l2)) (F_al_elementOccurrence : Fld Z h0 al "com/example/segmentwise/segmentwise/model/Location" "elementOccurrence" "I" (.int l3)) (F_al_componentPosition : Fld Z h0 al "com/example/segmentwise/segmentwise/model/Location" "componentPosition" "I" (.int l4)) (r : Int32) (hr0 : r = (0 : Int32)) (hc32 : k1 = l1) (hc43 : ¬ (k2 = l2)) :
    MetFree l (⟨"com/example/segmentwise/segmentwise/model/Location", "equals", "(Ljava/lang/Object;)Z"⟩ : MethodName) (head1 (Jvm.Cond.code (⟨"com/example/segmentwise/segmentwise/model/Location", "equals", "(Ljava/lang/Object;)Z"⟩ : MethodName) prog_25_method_7_code 3 (some .boolean) :: ws) ({ frames := 0, cells := 0, slots := 0, locals := 0 } : Room)) (fun a U => a = #[(.ref ak), (.ref al)] ∧ Z.Warmed39 U.vm ∧ U.heap = h0) (fun _ _ _ _ _ => True) (fun _ U o U' => ∃ v L, o = .returned v ∧ QP (.int r) h0 n0 v U'.heap L ∧ FrameEnd U o U' L ({ frames := 0, cells := 0, slots := 0, locals := 0 } : Room).cells ({ frames := 0, cells := 0, slots := 0, locals := 0 } : Room).slots) := by
  rw [hr0]
  refine MetFree.of_bodySF (plainFor_of_name pnm_1) hisR ?_
  intro p e s m args below meth c s₁ Bd hml0 hP hK
  obtain ⟨rfl, hZ, hh⟩ := hP
  have hx := Bd.exec
  have hby := Bd.bytes
  have hml : c.maxLocals = 3 := hml0
  have hown : s.vm.findClass "com/example/segmentwise/segmentwise/model/Location" = some m.cls := findClass_of_methodNamed Bd.named
  have hnm := (name_of_methodNamed Bd.named Bd.method).1
  have X0 : Stand p l e ({ frames := 0, cells := 0, slots := 0, locals := 0 } : Room) s m #[(.ref ak), (.ref al)] below meth c s₁ [] 0 0 := Stand.of_body Bd
  have e0 : s₁.heap = h0 := by rw [← hh, Bd.state]; rfl
  have N0 := Fr.nil n0
  have pre0 : ∀ t, Steps p.tables e below (s₁.setTop (mkF m 0 #[.val (.ref ak), .val (.ref al), .unset] [])) t → Steps p.tables e below (s₁.setTop (entryFrame m #[(.ref ak), (.ref al)] 3)) t := fun t k => castTop (ef_rm6o m ak al) k
  obtain ⟨T1, X1, e1, st1⟩ := instY X0 hx hZ hown (hw _ (List.mem_of_getElem? (i := 47) rfl)) e0 (Ins.self E_al) (g := (mkF m 8 #[.val (.ref ak), .val (.ref al), .unset] [(.ref al)])) rfl rfl (hb hby d6_8)
  obtain ⟨T2, X2, e2, st2⟩ := castY X1 hx hZ hown (hw _ (List.mem_of_getElem? (i := 47) rfl)) e1 (Ins.self E_al) (g := (mkF m 15 #[.val (.ref ak), .val (.ref al), .unset] [(.ref al)])) rfl rfl (hb hby d6_15)
  obtain ⟨T3, X3, e3, st3⟩ := getF X2 hx hZ hown (host := "") (Or.inl (hw _ (List.mem_of_getElem? (i := 24) rfl))) Via.refl e2 F_ak_segmentPosition (g := (mkF m 25 #[.val (.ref ak), .val (.ref al), .val (.ref al)] [(.ref ak)])) rfl rfl (hb hby d6_25)
  obtain ⟨T4, X4, e4, st4⟩ := getF X3 hx hZ hown (host := "") (Or.inl (hw _ (List.mem_of_getElem? (i := 24) rfl))) Via.refl e3 F_al_segmentPosition (g := (mkF m 29 #[.val (.ref ak), .val (.ref al), .val (.ref al)] [(.ref al), (.int k1)])) rfl rfl (hb hby d6_29)
  obtain ⟨T5, X5, e5, st5⟩ := getF X4 hx hZ hown (host := "") (Or.inl (hw _ (List.mem_of_getElem? (i := 27) rfl))) Via.refl e4 F_ak_elementPosition (g := (mkF m 36 #[.val (.ref ak), .val (.ref al), .val (.ref al)] [(.ref ak)])) rfl rfl (hb hby d6_36)
  obtain ⟨T6, X6, e6, st6⟩ := getF X5 hx hZ hown (host := "") (Or.inl (hw _ (List.mem_of_getElem? (i := 27) rfl))) Via.refl e5 F_al_elementPosition (g := (mkF m 40 #[.val (.ref ak), .val (.ref al), .val (.ref al)] [(.ref al), (.int k2)])) rfl rfl (hb hby d6_40)
  obtain ⟨fs, hr, hrun, hended, hW, hsame⟩ := X6.leave (v := some (.int (0 : Int32))) (fun h => by rw [Bd.returns] at h; cases h)
  refine ⟨_, _, pre0 _ ?_, hrun, hended, _, _, rfl, ?_, ⟨_, rfl⟩, hW, hsame.mono (by decide) (by decide)⟩
  · show Steps p.tables e below (s₁.setTop (mkF m 0 #[.val (.ref ak), .val (.ref al), .unset] [])) _
    refine XS.aloadN X0.here hx rfl (hb hby d6_0) rfl rfl ?_
    show Steps p.tables e below (s₁.setTop (mkF m 1 #[.val (.ref ak), .val (.ref al), .unset] [(.ref ak)])) _
    refine XS.aloadN X0.here hx rfl (hb hby d6_1) rfl rfl ?_
    show Steps p.tables e below (s₁.setTop (mkF m 2 #[.val (.ref ak), .val (.ref al), .unset] [(.ref al), (.ref ak)])) _
    refine Jvm.RoadKit.acmp (g := (mkF m 2 #[.val (.ref ak), .val (.ref al), .unset] [(.ref al), (.ref ak)])) X0 hx rfl rfl rfl (pc0 := 2) (pc' := 7) (same := false) rfl (hb hby d6_2) rfl (decide_eq_false fun q => (hne) (Value.ref.inj q)) (by decide) (by decide) ?_
    show Steps p.tables e below (s₁.setTop (mkF m 7 #[.val (.ref ak), .val (.ref al), .unset] [])) _
    refine XS.aloadN X0.here hx rfl (hb hby d6_7) rfl rfl ?_
    show Steps p.tables e below (s₁.setTop (mkF m 8 #[.val (.ref ak), .val (.ref al), .unset] [(.ref al)])) _
    refine st1 _ ?_
    show Steps p.tables e below (T1.setTop (mkF m 11 #[.val (.ref ak), .val (.ref al), .unset] [(.int (1 : Int32))])) _
    refine XS.ifNo X1.here hx rfl (hb hby d6_11) rfl ((if0 _ _).trans (feq (by decide : ¬ ((1 : Int32) = (0 : Int32)))).1) ?_
    show Steps p.tables e below (T1.setTop (mkF m 14 #[.val (.ref ak), .val (.ref al), .unset] [])) _
    refine XS.aloadN X1.here hx rfl (hb hby d6_14) rfl rfl ?_
    show Steps p.tables e below (T1.setTop (mkF m 15 #[.val (.ref ak), .val (.ref al), .unset] [(.ref al)])) _
    refine st2 _ ?_
    show Steps p.tables e below (T2.setTop (mkF m 18 #[.val (.ref ak), .val (.ref al), .unset] [(.ref al)])) _
    refine XS.astoreN X2.here hx rfl (hb hby d6_18) rfl rfl (l' := #[.val (.ref ak), .val (.ref al), .val (.ref al)]) rfl ?_
    show Steps p.tables e below (T2.setTop (mkF m 19 #[.val (.ref ak), .val (.ref al), .val (.ref al)] [])) _
    refine XS.goto X2.here hx rfl (pc0 := 19) (pc' := 24) rfl (hb hby d6_19) (by decide) (by decide) ?_
    show Steps p.tables e below (T2.setTop (mkF m 24 #[.val (.ref ak), .val (.ref al), .val (.ref al)] [])) _
    refine XS.aloadN X2.here hx rfl (hb hby d6_24) rfl rfl ?_
    show Steps p.tables e below (T2.setTop (mkF m 25 #[.val (.ref ak), .val (.ref al), .val (.ref al)] [(.ref ak)])) _
    refine st3 _ ?_
    show Steps p.tables e below (T3.setTop (mkF m 28 #[.val (.ref ak), .val (.ref al), .val (.ref al)] [(.int k1)])) _
    refine XS.aloadN X3.here hx rfl (hb hby d6_28) rfl rfl ?_
    show Steps p.tables e below (T3.setTop (mkF m 29 #[.val (.ref ak), .val (.ref al), .val (.ref al)] [(.ref al), (.int k1)])) _
    refine st4 _ ?_
    show Steps p.tables e below (T4.setTop (mkF m 32 #[.val (.ref ak), .val (.ref al), .val (.ref al)] [(.int l1), (.int k1)])) _
    refine XS.icmpNo X4.here hx rfl (hb hby d6_32) rfl (teq hc32).2 ?_
    show Steps p.tables e below (T4.setTop (mkF m 35 #[.val (.ref ak), .val (.ref al), .val (.ref al)] [])) _
    refine XS.aloadN X4.here hx rfl (hb hby d6_35) rfl rfl ?_
    show Steps p.tables e below (T4.setTop (mkF m 36 #[.val (.ref ak), .val (.ref al), .val (.ref al)] [(.ref ak)])) _
    refine st5 _ ?_
    show Steps p.tables e below (T5.setTop (mkF m 39 #[.val (.ref ak), .val (.ref al), .val (.ref al)] [(.int k2)])) _
    refine XS.aloadN X5.here hx rfl (hb hby d6_39) rfl rfl ?_
    show Steps p.tables e below (T5.setTop (mkF m 40 #[.val (.ref ak), .val (.ref al), .val (.ref al)] [(.ref al), (.int k2)])) _
    refine st6 _ ?_
    show Steps p.tables e below (T6.setTop (mkF m 43 #[.val (.ref ak), .val (.ref al), .val (.ref al)] [(.int l2), (.int k2)])) _
    refine XS.icmpYes X6.here hx rfl (pc0 := 43) (pc' := 72) rfl (hb hby d6_43) rfl (feq hc43).2 (by decide) (by decide) ?_
    show Steps p.tables e below (T6.setTop (mkF m 72 #[.val (.ref ak), .val (.ref al), .val (.ref al)] [])) _
    refine XS.iconst X6.here hx rfl (hb hby d6_72) ?_
    show Steps p.tables e below (T6.setTop (mkF m 73 #[.val (.ref ak), .val (.ref al), .val (.ref al)] [(.int (0 : Int32))])) _
    exact retN X6 hx (t := .boolean) Bd.returns (by simp) (hb hby d6_73) hr
  · show QP (.int (0 : Int32)) h0 n0 _ T6.heap _
    rw [e6]
    exact ⟨rfl, N0, rfl⟩
set_option maxRecDepth 65536 in
set_option maxHeartbeats 40000000 in
theorem rm6o_fft (l : Launch) (Z : State) (a0 : Array Value) (hw : ∀ d ∈ tables_1, d.before a0 Z = true) (ws : List Jvm.Cond) (ak : Addr) (al : Addr) (k1 : Int32) (k2 : Int32) (k3 : Int32) (k4 : Int32) (l1 : Int32) (l2 : Int32) (l3 : Int32) (l4 : Int32) (h0 : Heap) (n0 : Nat) (Z0 : n0 ≤ h0.size) (hne : ¬ ak = al) (E_ak : Exa Z h0 ak "com/example/segmentwise/segmentwise/model/Location") (F_ak_segmentPosition : Fld Z h0 ak "com/example/segmentwise/segmentwise/model/Location" "segmentPosition" "I" (.int k1)) (F_ak_elementPosition : Fld Z h0 ak "com/example/segmentwise/segmentwise/model/Location" "elementPosition" "I" (.int k2)) (F_ak_elementOccurrence : Fld Z h0 ak "com/example/segmentwise/segmentwise/model/Location" "elementOccurrence" "I" (.int k3)) (F_ak_componentPosition : Fld Z h0 ak "com/example/segmentwise/segmentwise/model/Location" "componentPosition" "I" (.int k4)) (E_al : Exa Z h0 al "com/example/segmentwise/segmentwise/model/Location") (F_al_segmentPosition : Fld Z h0 al "com/example/segmentwise/segmentwise/model/Location" "segmentPosition" "I" (.int l1)) (F_al_elementPosition : Fld Z h0 al "com/example/segmentwise/segmentwise/model/Location" "elementPosition" "I" (.int l2)) (F_al_elementOccurrence : Fld Z h0 al "com/example/segmentwise/segmentwise/model/Location" "elementOccurrence" "I" (.int l3)) (F_al_componentPosition : Fld Z h0 al "com/example/segmentwise/segmentwise/model/Location" "componentPosition" "I" (.int l4)) (r : Int32) (hr0 : r = (0 : Int32)) (hc32 : k1 = l1) (hc43 : k2 = l2) (hc54 : ¬ (k3 = l3)) :
    MetFree l (⟨"com/example/segmentwise/segmentwise/model/Location", "equals", "(Ljava/lang/Object;)Z"⟩ : MethodName) (head1 (Jvm.Cond.code (⟨"com/example/segmentwise/segmentwise/model/Location", "equals", "(Ljava/lang/Object;)Z"⟩ : MethodName) prog_25_method_7_code 3 (some .boolean) :: ws) ({ frames := 0, cells := 0, slots := 0, locals := 0 } : Room)) (fun a U => a = #[(.ref ak), (.ref al)] ∧ Z.Warmed39 U.vm ∧ U.heap = h0) (fun _ _ _ _ _ => True) (fun _ U o U' => ∃ v L, o = .returned v ∧ QP (.int r) h0 n0 v U'.heap L ∧ FrameEnd U o U' L ({ frames := 0, cells := 0, slots := 0, locals := 0 } : Room).cells ({ frames := 0, cells := 0, slots := 0, locals := 0 } : Room).slots) := by
  rw [hr0]
  refine MetFree.of_bodySF (plainFor_of_name pnm_1) hisR ?_
  intro p e s m args below meth c s₁ Bd hml0 hP hK
  obtain ⟨rfl, hZ, hh⟩ := hP
  have hx := Bd.exec
  have hby := Bd.bytes
  have hml : c.maxLocals = 3 := hml0
  have hown : s.vm.findClass "com/example/segmentwise/segmentwise/model/Location" = some m.cls := findClass_of_methodNamed Bd.named
  have hnm := (name_of_methodNamed Bd.named Bd.method).1
  have X0 : Stand p l e ({ frames := 0, cells := 0, slots := 0, locals := 0 } : Room) s m #[(.ref ak), (.ref al)] below meth c s₁ [] 0 0 := Stand.of_body Bd
  have e0 : s₁.heap = h0 := by rw [← hh, Bd.state]; rfl
  have N0 := Fr.nil n0
  have pre0 : ∀ t, Steps p.tables e below (s₁.setTop (mkF m 0 #[.val (.ref ak), .val (.ref al), .unset] [])) t → Steps p.tables e below (s₁.setTop (entryFrame m #[(.ref ak), (.ref al)] 3)) t := fun t k => castTop (ef_rm6o m ak al) k
  obtain ⟨T1, X1, e1, st1⟩ := instY X0 hx hZ hown (hw _ (List.mem_of_getElem? (i := 47) rfl)) e0 (Ins.self E_al) (g := (mkF m 8 #[.val (.ref ak), .val (.ref al), .unset] [(.ref al)])) rfl rfl (hb hby d6_8)
  obtain ⟨T2, X2, e2, st2⟩ := castY X1 hx hZ hown (hw _ (List.mem_of_getElem? (i := 47) rfl)) e1 (Ins.self E_al) (g := (mkF m 15 #[.val (.ref ak), .val (.ref al), .unset] [(.ref al)])) rfl rfl (hb hby d6_15)
  obtain ⟨T3, X3, e3, st3⟩ := getF X2 hx hZ hown (host := "") (Or.inl (hw _ (List.mem_of_getElem? (i := 24) rfl))) Via.refl e2 F_ak_segmentPosition (g := (mkF m 25 #[.val (.ref ak), .val (.ref al), .val (.ref al)] [(.ref ak)])) rfl rfl (hb hby d6_25)
  obtain ⟨T4, X4, e4, st4⟩ := getF X3 hx hZ hown (host := "") (Or.inl (hw _ (List.mem_of_getElem? (i := 24) rfl))) Via.refl e3 F_al_segmentPosition (g := (mkF m 29 #[.val (.ref ak), .val (.ref al), .val (.ref al)] [(.ref al), (.int k1)])) rfl rfl (hb hby d6_29)
  obtain ⟨T5, X5, e5, st5⟩ := getF X4 hx hZ hown (host := "") (Or.inl (hw _ (List.mem_of_getElem? (i := 27) rfl))) Via.refl e4 F_ak_elementPosition (g := (mkF m 36 #[.val (.ref ak), .val (.ref al), .val (.ref al)] [(.ref ak)])) rfl rfl (hb hby d6_36)
  obtain ⟨T6, X6, e6, st6⟩ := getF X5 hx hZ hown (host := "") (Or.inl (hw _ (List.mem_of_getElem? (i := 27) rfl))) Via.refl e5 F_al_elementPosition (g := (mkF m 40 #[.val (.ref ak), .val (.ref al), .val (.ref al)] [(.ref al), (.int k2)])) rfl rfl (hb hby d6_40)
  obtain ⟨T7, X7, e7, st7⟩ := getF X6 hx hZ hown (host := "") (Or.inl (hw _ (List.mem_of_getElem? (i := 30) rfl))) Via.refl e6 F_ak_elementOccurrence (g := (mkF m 47 #[.val (.ref ak), .val (.ref al), .val (.ref al)] [(.ref ak)])) rfl rfl (hb hby d6_47)
  obtain ⟨T8, X8, e8, st8⟩ := getF X7 hx hZ hown (host := "") (Or.inl (hw _ (List.mem_of_getElem? (i := 30) rfl))) Via.refl e7 F_al_elementOccurrence (g := (mkF m 51 #[.val (.ref ak), .val (.ref al), .val (.ref al)] [(.ref al), (.int k3)])) rfl rfl (hb hby d6_51)
  obtain ⟨fs, hr, hrun, hended, hW, hsame⟩ := X8.leave (v := some (.int (0 : Int32))) (fun h => by rw [Bd.returns] at h; cases h)
  refine ⟨_, _, pre0 _ ?_, hrun, hended, _, _, rfl, ?_, ⟨_, rfl⟩, hW, hsame.mono (by decide) (by decide)⟩
  · show Steps p.tables e below (s₁.setTop (mkF m 0 #[.val (.ref ak), .val (.ref al), .unset] [])) _
    refine XS.aloadN X0.here hx rfl (hb hby d6_0) rfl rfl ?_
    show Steps p.tables e below (s₁.setTop (mkF m 1 #[.val (.ref ak), .val (.ref al), .unset] [(.ref ak)])) _
    refine XS.aloadN X0.here hx rfl (hb hby d6_1) rfl rfl ?_
    show Steps p.tables e below (s₁.setTop (mkF m 2 #[.val (.ref ak), .val (.ref al), .unset] [(.ref al), (.ref ak)])) _
    refine Jvm.RoadKit.acmp (g := (mkF m 2 #[.val (.ref ak), .val (.ref al), .unset] [(.ref al), (.ref ak)])) X0 hx rfl rfl rfl (pc0 := 2) (pc' := 7) (same := false) rfl (hb hby d6_2) rfl (decide_eq_false fun q => (hne) (Value.ref.inj q)) (by decide) (by decide) ?_
    show Steps p.tables e below (s₁.setTop (mkF m 7 #[.val (.ref ak), .val (.ref al), .unset] [])) _
    refine XS.aloadN X0.here hx rfl (hb hby d6_7) rfl rfl ?_
    show Steps p.tables e below (s₁.setTop (mkF m 8 #[.val (.ref ak), .val (.ref al), .unset] [(.ref al)])) _
    refine st1 _ ?_
    show Steps p.tables e below (T1.setTop (mkF m 11 #[.val (.ref ak), .val (.ref al), .unset] [(.int (1 : Int32))])) _
    refine XS.ifNo X1.here hx rfl (hb hby d6_11) rfl ((if0 _ _).trans (feq (by decide : ¬ ((1 : Int32) = (0 : Int32)))).1) ?_
    show Steps p.tables e below (T1.setTop (mkF m 14 #[.val (.ref ak), .val (.ref al), .unset] [])) _
    refine XS.aloadN X1.here hx rfl (hb hby d6_14) rfl rfl ?_
    show Steps p.tables e below (T1.setTop (mkF m 15 #[.val (.ref ak), .val (.ref al), .unset] [(.ref al)])) _
    refine st2 _ ?_
    show Steps p.tables e below (T2.setTop (mkF m 18 #[.val (.ref ak), .val (.ref al), .unset] [(.ref al)])) _
    refine XS.astoreN X2.here hx rfl (hb hby d6_18) rfl rfl (l' := #[.val (.ref ak), .val (.ref al), .val (.ref al)]) rfl ?_
    show Steps p.tables e below (T2.setTop (mkF m 19 #[.val (.ref ak), .val (.ref al), .val (.ref al)] [])) _
    refine XS.goto X2.here hx rfl (pc0 := 19) (pc' := 24) rfl (hb hby d6_19) (by decide) (by decide) ?_
    show Steps p.tables e below (T2.setTop (mkF m 24 #[.val (.ref ak), .val (.ref al), .val (.ref al)] [])) _
    refine XS.aloadN X2.here hx rfl (hb hby d6_24) rfl rfl ?_
    show Steps p.tables e below (T2.setTop (mkF m 25 #[.val (.ref ak), .val (.ref al), .val (.ref al)] [(.ref ak)])) _
    refine st3 _ ?_
    show Steps p.tables e below (T3.setTop (mkF m 28 #[.val (.ref ak), .val (.ref al), .val (.ref al)] [(.int k1)])) _
    refine XS.aloadN X3.here hx rfl (hb hby d6_28) rfl rfl ?_
    show Steps p.tables e below (T3.setTop (mkF m 29 #[.val (.ref ak), .val (.ref al), .val (.ref al)] [(.ref al), (.int k1)])) _
    refine st4 _ ?_
    show Steps p.tables e below (T4.setTop (mkF m 32 #[.val (.ref ak), .val (.ref al), .val (.ref al)] [(.int l1), (.int k1)])) _
    refine XS.icmpNo X4.here hx rfl (hb hby d6_32) rfl (teq hc32).2 ?_
    show Steps p.tables e below (T4.setTop (mkF m 35 #[.val (.ref ak), .val (.ref al), .val (.ref al)] [])) _
    refine XS.aloadN X4.here hx rfl (hb hby d6_35) rfl rfl ?_
    show Steps p.tables e below (T4.setTop (mkF m 36 #[.val (.ref ak), .val (.ref al), .val (.ref al)] [(.ref ak)])) _
    refine st5 _ ?_
    show Steps p.tables e below (T5.setTop (mkF m 39 #[.val (.ref ak), .val (.ref al), .val (.ref al)] [(.int k2)])) _
    refine XS.aloadN X5.here hx rfl (hb hby d6_39) rfl rfl ?_
    show Steps p.tables e below (T5.setTop (mkF m 40 #[.val (.ref ak), .val (.ref al), .val (.ref al)] [(.ref al), (.int k2)])) _
    refine st6 _ ?_
    show Steps p.tables e below (T6.setTop (mkF m 43 #[.val (.ref ak), .val (.ref al), .val (.ref al)] [(.int l2), (.int k2)])) _
    refine XS.icmpNo X6.here hx rfl (hb hby d6_43) rfl (teq hc43).2 ?_
    show Steps p.tables e below (T6.setTop (mkF m 46 #[.val (.ref ak), .val (.ref al), .val (.ref al)] [])) _
    refine XS.aloadN X6.here hx rfl (hb hby d6_46) rfl rfl ?_
    show Steps p.tables e below (T6.setTop (mkF m 47 #[.val (.ref ak), .val (.ref al), .val (.ref al)] [(.ref ak)])) _
    refine st7 _ ?_
    show Steps p.tables e below (T7.setTop (mkF m 50 #[.val (.ref ak), .val (.ref al), .val (.ref al)] [(.int k3)])) _
    refine XS.aloadN X7.here hx rfl (hb hby d6_50) rfl rfl ?_
    show Steps p.tables e below (T7.setTop (mkF m 51 #[.val (.ref ak), .val (.ref al), .val (.ref al)] [(.ref al), (.int k3)])) _
    refine st8 _ ?_
    show Steps p.tables e below (T8.setTop (mkF m 54 #[.val (.ref ak), .val (.ref al), .val (.ref al)] [(.int l3), (.int k3)])) _
    refine XS.icmpYes X8.here hx rfl (pc0 := 54) (pc' := 72) rfl (hb hby d6_54) rfl (feq hc54).2 (by decide) (by decide) ?_
    show Steps p.tables e below (T8.setTop (mkF m 72 #[.val (.ref ak), .val (.ref al), .val (.ref al)] [])) _
    refine XS.iconst X8.here hx rfl (hb hby d6_72) ?_
    show Steps p.tables e below (T8.setTop (mkF m 73 #[.val (.ref ak), .val (.ref al), .val (.ref al)] [(.int (0 : Int32))])) _
    exact retN X8 hx (t := .boolean) Bd.returns (by simp) (hb hby d6_73) hr
  · show QP (.int (0 : Int32)) h0 n0 _ T8.heap _
    rw [e8]
    exact ⟨rfl, N0, rfl⟩
set_option maxRecDepth 65536 in
set_option maxHeartbeats 40000000 in
theorem rm6o_ffft (l : Launch) (Z : State) (a0 : Array Value) (hw : ∀ d ∈ tables_1, d.before a0 Z = true) (ws : List Jvm.Cond) (ak : Addr) (al : Addr) (k1 : Int32) (k2 : Int32) (k3 : Int32) (k4 : Int32) (l1 : Int32) (l2 : Int32) (l3 : Int32) (l4 : Int32) (h0 : Heap) (n0 : Nat) (Z0 : n0 ≤ h0.size) (hne : ¬ ak = al) (E_ak : Exa Z h0 ak "com/example/segmentwise/segmentwise/model/Location") (F_ak_segmentPosition : Fld Z h0 ak "com/example/segmentwise/segmentwise/model/Location" "segmentPosition" "I" (.int k1)) (F_ak_elementPosition : Fld Z h0 ak "com/example/segmentwise/segmentwise/model/Location" "elementPosition" "I" (.int k2)) (F_ak_elementOccurrence : Fld Z h0 ak "com/example/segmentwise/segmentwise/model/Location" "elementOccurrence" "I" (.int k3)) (F_ak_componentPosition : Fld Z h0 ak "com/example/segmentwise/segmentwise/model/Location" "componentPosition" "I" (.int k4)) (E_al : Exa Z h0 al "com/example/segmentwise/segmentwise/model/Location") (F_al_segmentPosition : Fld Z h0 al "com/example/segmentwise/segmentwise/model/Location" "segmentPosition" "I" (.int l1)) (F_al_elementPosition : Fld Z h0 al "com/example/segmentwise/segmentwise/model/Location" "elementPosition" "I" (.int l2)) (F_al_elementOccurrence : Fld Z h0 al "com/example/segmentwise/segmentwise/model/Location" "elementOccurrence" "I" (.int l3)) (F_al_componentPosition : Fld Z h0 al "com/example/segmentwise/segmentwise/model/Location" "componentPosition" "I" (.int l4)) (r : Int32) (hr0 : r = (0 : Int32)) (hc32 : k1 = l1) (hc43 : k2 = l2) (hc54 : k3 = l3) (hc65 : ¬ (k4 = l4)) :
    MetFree l (⟨"com/example/segmentwise/segmentwise/model/Location", "equals", "(Ljava/lang/Object;)Z"⟩ : MethodName) (head1 (Jvm.Cond.code (⟨"com/example/segmentwise/segmentwise/model/Location", "equals", "(Ljava/lang/Object;)Z"⟩ : MethodName) prog_25_method_7_code 3 (some .boolean) :: ws) ({ frames := 0, cells := 0, slots := 0, locals := 0 } : Room)) (fun a U => a = #[(.ref ak), (.ref al)] ∧ Z.Warmed39 U.vm ∧ U.heap = h0) (fun _ _ _ _ _ => True) (fun _ U o U' => ∃ v L, o = .returned v ∧ QP (.int r) h0 n0 v U'.heap L ∧ FrameEnd U o U' L ({ frames := 0, cells := 0, slots := 0, locals := 0 } : Room).cells ({ frames := 0, cells := 0, slots := 0, locals := 0 } : Room).slots) := by
  rw [hr0]
  refine MetFree.of_bodySF (plainFor_of_name pnm_1) hisR ?_
  intro p e s m args below meth c s₁ Bd hml0 hP hK
  obtain ⟨rfl, hZ, hh⟩ := hP
  have hx := Bd.exec
  have hby := Bd.bytes
  have hml : c.maxLocals = 3 := hml0
  have hown : s.vm.findClass "com/example/segmentwise/segmentwise/model/Location" = some m.cls := findClass_of_methodNamed Bd.named
  have hnm := (name_of_methodNamed Bd.named Bd.method).1
  have X0 : Stand p l e ({ frames := 0, cells := 0, slots := 0, locals := 0 } : Room) s m #[(.ref ak), (.ref al)] below meth c s₁ [] 0 0 := Stand.of_body Bd
  have e0 : s₁.heap = h0 := by rw [← hh, Bd.state]; rfl
  have N0 := Fr.nil n0
  have pre0 : ∀ t, Steps p.tables e below (s₁.setTop (mkF m 0 #[.val (.ref ak), .val (.ref al), .unset] [])) t → Steps p.tables e below (s₁.setTop (entryFrame m #[(.ref ak), (.ref al)] 3)) t := fun t k => castTop (ef_rm6o m ak al) k
  obtain ⟨T1, X1, e1, st1⟩ := instY X0 hx hZ hown (hw _ (List.mem_of_getElem? (i := 47) rfl)) e0 (Ins.self E_al) (g := (mkF m 8 #[.val (.ref ak), .val (.ref al), .unset] [(.ref al)])) rfl rfl (hb hby d6_8)
  obtain ⟨T2, X2, e2, st2⟩ := castY X1 hx hZ hown (hw _ (List.mem_of_getElem? (i := 47) rfl)) e1 (Ins.self E_al) (g := (mkF m 15 #[.val (.ref ak), .val (.ref al), .unset] [(.ref al)])) rfl rfl (hb hby d6_15)
  obtain ⟨T3, X3, e3, st3⟩ := getF X2 hx hZ hown (host := "") (Or.inl (hw _ (List.mem_of_getElem? (i := 24) rfl))) Via.refl e2 F_ak_segmentPosition (g := (mkF m 25 #[.val (.ref ak), .val (.ref al), .val (.ref al)] [(.ref ak)])) rfl rfl (hb hby d6_25)
  obtain ⟨T4, X4, e4, st4⟩ := getF X3 hx hZ hown (host := "") (Or.inl (hw _ (List.mem_of_getElem? (i := 24) rfl))) Via.refl e3 F_al_segmentPosition (g := (mkF m 29 #[.val (.ref ak), .val (.ref al), .val (.ref al)] [(.ref al), (.int k1)])) rfl rfl (hb hby d6_29)
  obtain ⟨T5, X5, e5, st5⟩ := getF X4 hx hZ hown (host := "") (Or.inl (hw _ (List.mem_of_getElem? (i := 27) rfl))) Via.refl e4 F_ak_elementPosition (g := (mkF m 36 #[.val (.ref ak), .val (.ref al), .val (.ref al)] [(.ref ak)])) rfl rfl (hb hby d6_36)
  obtain ⟨T6, X6, e6, st6⟩ := getF X5 hx hZ hown (host := "") (Or.inl (hw _ (List.mem_of_getElem? (i := 27) rfl))) Via.refl e5 F_al_elementPosition (g := (mkF m 40 #[.val (.ref ak), .val (.ref al), .val (.ref al)] [(.ref al), (.int k2)])) rfl rfl (hb hby d6_40)
  obtain ⟨T7, X7, e7, st7⟩ := getF X6 hx hZ hown (host := "") (Or.inl (hw _ (List.mem_of_getElem? (i := 30) rfl))) Via.refl e6 F_ak_elementOccurrence (g := (mkF m 47 #[.val (.ref ak), .val (.ref al), .val (.ref al)] [(.ref ak)])) rfl rfl (hb hby d6_47)
  obtain ⟨T8, X8, e8, st8⟩ := getF X7 hx hZ hown (host := "") (Or.inl (hw _ (List.mem_of_getElem? (i := 30) rfl))) Via.refl e7 F_al_elementOccurrence (g := (mkF m 51 #[.val (.ref ak), .val (.ref al), .val (.ref al)] [(.ref al), (.int k3)])) rfl rfl (hb hby d6_51)
  obtain ⟨T9, X9, e9, st9⟩ := getF X8 hx hZ hown (host := "") (Or.inl (hw _ (List.mem_of_getElem? (i := 33) rfl))) Via.refl e8 F_ak_componentPosition (g := (mkF m 58 #[.val (.ref ak), .val (.ref al), .val (.ref al)] [(.ref ak)])) rfl rfl (hb hby d6_58)
  obtain ⟨T10, X10, e10, st10⟩ := getF X9 hx hZ hown (host := "") (Or.inl (hw _ (List.mem_of_getElem? (i := 33) rfl))) Via.refl e9 F_al_componentPosition (g := (mkF m 62 #[.val (.ref ak), .val (.ref al), .val (.ref al)] [(.ref al), (.int k4)])) rfl rfl (hb hby d6_62)
  obtain ⟨fs, hr, hrun, hended, hW, hsame⟩ := X10.leave (v := some (.int (0 : Int32))) (fun h => by rw [Bd.returns] at h; cases h)
  refine ⟨_, _, pre0 _ ?_, hrun, hended, _, _, rfl, ?_, ⟨_, rfl⟩, hW, hsame.mono (by decide) (by decide)⟩
  · show Steps p.tables e below (s₁.setTop (mkF m 0 #[.val (.ref ak), .val (.ref al), .unset] [])) _
    refine XS.aloadN X0.here hx rfl (hb hby d6_0) rfl rfl ?_
    show Steps p.tables e below (s₁.setTop (mkF m 1 #[.val (.ref ak), .val (.ref al), .unset] [(.ref ak)])) _
    refine XS.aloadN X0.here hx rfl (hb hby d6_1) rfl rfl ?_
    show Steps p.tables e below (s₁.setTop (mkF m 2 #[.val (.ref ak), .val (.ref al), .unset] [(.ref al), (.ref ak)])) _
    refine Jvm.RoadKit.acmp (g := (mkF m 2 #[.val (.ref ak), .val (.ref al), .unset] [(.ref al), (.ref ak)])) X0 hx rfl rfl rfl (pc0 := 2) (pc' := 7) (same := false) rfl (hb hby d6_2) rfl (decide_eq_false fun q => (hne) (Value.ref.inj q)) (by decide) (by decide) ?_
    show Steps p.tables e below (s₁.setTop (mkF m 7 #[.val (.ref ak), .val (.ref al), .unset] [])) _
    refine XS.aloadN X0.here hx rfl (hb hby d6_7) rfl rfl ?_
    show Steps p.tables e below (s₁.setTop (mkF m 8 #[.val (.ref ak), .val (.ref al), .unset] [(.ref al)])) _
    refine st1 _ ?_
    show Steps p.tables e below (T1.setTop (mkF m 11 #[.val (.ref ak), .val (.ref al), .unset] [(.int (1 : Int32))])) _
    refine XS.ifNo X1.here hx rfl (hb hby d6_11) rfl ((if0 _ _).trans (feq (by decide : ¬ ((1 : Int32) = (0 : Int32)))).1) ?_
    show Steps p.tables e below (T1.setTop (mkF m 14 #[.val (.ref ak), .val (.ref al), .unset] [])) _
    refine XS.aloadN X1.here hx rfl (hb hby d6_14) rfl rfl ?_
    show Steps p.tables e below (T1.setTop (mkF m 15 #[.val (.ref ak), .val (.ref al), .unset] [(.ref al)])) _
    refine st2 _ ?_
    show Steps p.tables e below (T2.setTop (mkF m 18 #[.val (.ref ak), .val (.ref al), .unset] [(.ref al)])) _
    refine XS.astoreN X2.here hx rfl (hb hby d6_18) rfl rfl (l' := #[.val (.ref ak), .val (.ref al), .val (.ref al)]) rfl ?_
    show Steps p.tables e below (T2.setTop (mkF m 19 #[.val (.ref ak), .val (.ref al), .val (.ref al)] [])) _
    refine XS.goto X2.here hx rfl (pc0 := 19) (pc' := 24) rfl (hb hby d6_19) (by decide) (by decide) ?_
    show Steps p.tables e below (T2.setTop (mkF m 24 #[.val (.ref ak), .val (.ref al), .val (.ref al)] [])) _
    refine XS.aloadN X2.here hx rfl (hb hby d6_24) rfl rfl ?_
    show Steps p.tables e below (T2.setTop (mkF m 25 #[.val (.ref ak), .val (.ref al), .val (.ref al)] [(.ref ak)])) _
    refine st3 _ ?_
    show Steps p.tables e below (T3.setTop (mkF m 28 #[.val (.ref ak), .val (.ref al), .val (.ref al)] [(.int k1)])) _
    refine XS.aloadN X3.here hx rfl (hb hby d6_28) rfl rfl ?_
    show Steps p.tables e below (T3.setTop (mkF m 29 #[.val (.ref ak), .val (.ref al), .val (.ref al)] [(.ref al), (.int k1)])) _
    refine st4 _ ?_
    show Steps p.tables e below (T4.setTop (mkF m 32 #[.val (.ref ak), .val (.ref al), .val (.ref al)] [(.int l1), (.int k1)])) _
    refine XS.icmpNo X4.here hx rfl (hb hby d6_32) rfl (teq hc32).2 ?_
    show Steps p.tables e below (T4.setTop (mkF m 35 #[.val (.ref ak), .val (.ref al), .val (.ref al)] [])) _
    refine XS.aloadN X4.here hx rfl (hb hby d6_35) rfl rfl ?_
    show Steps p.tables e below (T4.setTop (mkF m 36 #[.val (.ref ak), .val (.ref al), .val (.ref al)] [(.ref ak)])) _
    refine st5 _ ?_
    show Steps p.tables e below (T5.setTop (mkF m 39 #[.val (.ref ak), .val (.ref al), .val (.ref al)] [(.int k2)])) _
    refine XS.aloadN X5.here hx rfl (hb hby d6_39) rfl rfl ?_
    show Steps p.tables e below (T5.setTop (mkF m 40 #[.val (.ref ak), .val (.ref al), .val (.ref al)] [(.ref al), (.int k2)])) _
    refine st6 _ ?_
    show Steps p.tables e below (T6.setTop (mkF m 43 #[.val (.ref ak), .val (.ref al), .val (.ref al)] [(.int l2), (.int k2)])) _
    refine XS.icmpNo X6.here hx rfl (hb hby d6_43) rfl (teq hc43).2 ?_
    show Steps p.tables e below (T6.setTop (mkF m 46 #[.val (.ref ak), .val (.ref al), .val (.ref al)] [])) _
    refine XS.aloadN X6.here hx rfl (hb hby d6_46) rfl rfl ?_
    show Steps p.tables e below (T6.setTop (mkF m 47 #[.val (.ref ak), .val (.ref al), .val (.ref al)] [(.ref ak)])) _
    refine st7 _ ?_
    show Steps p.tables e below (T7.setTop (mkF m 50 #[.val (.ref ak), .val (.ref al), .val (.ref al)] [(.int k3)])) _
    refine XS.aloadN X7.here hx rfl (hb hby d6_50) rfl rfl ?_
    show Steps p.tables e below (T7.setTop (mkF m 51 #[.val (.ref ak), .val (.ref al), .val (.ref al)] [(.ref al), (.int k3)])) _
    refine st8 _ ?_
    show Steps p.tables e below (T8.setTop (mkF m 54 #[.val (.ref ak), .val (.ref al), .val (.ref al)] [(.int l3), (.int k3)])) _
    refine XS.icmpNo X8.here hx rfl (hb hby d6_54) rfl (teq hc54).2 ?_
    show Steps p.tables e below (T8.setTop (mkF m 57 #[.val (.ref ak), .val (.ref al), .val (.ref al)] [])) _
    refine XS.aloadN X8.here hx rfl (hb hby d6_57) rfl rfl ?_
    show Steps p.tables e below (T8.setTop (mkF m 58 #[.val (.ref ak), .val (.ref al), .val (.ref al)] [(.ref ak)])) _
    refine st9 _ ?_
    show Steps p.tables e below (T9.setTop (mkF m 61 #[.val (.ref ak), .val (.ref al), .val (.ref al)] [(.int k4)])) _
    refine XS.aloadN X9.here hx rfl (hb hby d6_61) rfl rfl ?_
    show Steps p.tables e below (T9.setTop (mkF m 62 #[.val (.ref ak), .val (.ref al), .val (.ref al)] [(.ref al), (.int k4)])) _
    refine st10 _ ?_
    show Steps p.tables e below (T10.setTop (mkF m 65 #[.val (.ref ak), .val (.ref al), .val (.ref al)] [(.int l4), (.int k4)])) _
    refine XS.icmpYes X10.here hx rfl (pc0 := 65) (pc' := 72) rfl (hb hby d6_65) rfl (feq hc65).2 (by decide) (by decide) ?_
    show Steps p.tables e below (T10.setTop (mkF m 72 #[.val (.ref ak), .val (.ref al), .val (.ref al)] [])) _
    refine XS.iconst X10.here hx rfl (hb hby d6_72) ?_
    show Steps p.tables e below (T10.setTop (mkF m 73 #[.val (.ref ak), .val (.ref al), .val (.ref al)] [(.int (0 : Int32))])) _
    exact retN X10 hx (t := .boolean) Bd.returns (by simp) (hb hby d6_73) hr
  · show QP (.int (0 : Int32)) h0 n0 _ T10.heap _
    rw [e10]
    exact ⟨rfl, N0, rfl⟩
set_option maxRecDepth 65536 in
set_option maxHeartbeats 40000000 in
theorem rm6o_ffff (l : Launch) (Z : State) (a0 : Array Value) (hw : ∀ d ∈ tables_1, d.before a0 Z = true) (ws : List Jvm.Cond) (ak : Addr) (al : Addr) (k1 : Int32) (k2 : Int32) (k3 : Int32) (k4 : Int32) (l1 : Int32) (l2 : Int32) (l3 : Int32) (l4 : Int32) (h0 : Heap) (n0 : Nat) (Z0 : n0 ≤ h0.size) (hne : ¬ ak = al) (E_ak : Exa Z h0 ak "com/example/segmentwise/segmentwise/model/Location") (F_ak_segmentPosition : Fld Z h0 ak "com/example/segmentwise/segmentwise/model/Location" "segmentPosition" "I" (.int k1)) (F_ak_elementPosition : Fld Z h0 ak "com/example/segmentwise/segmentwise/model/Location" "elementPosition" "I" (.int k2)) (F_ak_elementOccurrence : Fld Z h0 ak "com/example/segmentwise/segmentwise/model/Location" "elementOccurrence" "I" (.int k3)) (F_ak_componentPosition : Fld Z h0 ak "com/example/segmentwise/segmentwise/model/Location" "componentPosition" "I" (.int k4)) (E_al : Exa Z h0 al "com/example/segmentwise/segmentwise/model/Location") (F_al_segmentPosition : Fld Z h0 al "com/example/segmentwise/segmentwise/model/Location" "segmentPosition" "I" (.int l1)) (F_al_elementPosition : Fld Z h0 al "com/example/segmentwise/segmentwise/model/Location" "elementPosition" "I" (.int l2)) (F_al_elementOccurrence : Fld Z h0 al "com/example/segmentwise/segmentwise/model/Location" "elementOccurrence" "I" (.int l3)) (F_al_componentPosition : Fld Z h0 al "com/example/segmentwise/segmentwise/model/Location" "componentPosition" "I" (.int l4)) (r : Int32) (hr0 : r = (1 : Int32)) (hc32 : k1 = l1) (hc43 : k2 = l2) (hc54 : k3 = l3) (hc65 : k4 = l4) :
    MetFree l (⟨"com/example/segmentwise/segmentwise/model/Location", "equals", "(Ljava/lang/Object;)Z"⟩ : MethodName) (head1 (Jvm.Cond.code (⟨"com/example/segmentwise/segmentwise/model/Location", "equals", "(Ljava/lang/Object;)Z"⟩ : MethodName) prog_25_method_7_code 3 (some .boolean) :: ws) ({ frames := 0, cells := 0, slots := 0, locals := 0 } : Room)) (fun a U => a = #[(.ref ak), (.ref al)] ∧ Z.Warmed39 U.vm ∧ U.heap = h0) (fun _ _ _ _ _ => True) (fun _ U o U' => ∃ v L, o = .returned v ∧ QP (.int r) h0 n0 v U'.heap L ∧ FrameEnd U o U' L ({ frames := 0, cells := 0, slots := 0, locals := 0 } : Room).cells ({ frames := 0, cells := 0, slots := 0, locals := 0 } : Room).slots) := by
  rw [hr0]
  refine MetFree.of_bodySF (plainFor_of_name pnm_1) hisR ?_
  intro p e s m args below meth c s₁ Bd hml0 hP hK
  obtain ⟨rfl, hZ, hh⟩ := hP
  have hx := Bd.exec
  have hby := Bd.bytes
  have hml : c.maxLocals = 3 := hml0
  have hown : s.vm.findClass "com/example/segmentwise/segmentwise/model/Location" = some m.cls := findClass_of_methodNamed Bd.named
  have hnm := (name_of_methodNamed Bd.named Bd.method).1
  have X0 : Stand p l e ({ frames := 0, cells := 0, slots := 0, locals := 0 } : Room) s m #[(.ref ak), (.ref al)] below meth c s₁ [] 0 0 := Stand.of_body Bd
  have e0 : s₁.heap = h0 := by rw [← hh, Bd.state]; rfl
  have N0 := Fr.nil n0
  have pre0 : ∀ t, Steps p.tables e below (s₁.setTop (mkF m 0 #[.val (.ref ak), .val (.ref al), .unset] [])) t → Steps p.tables e below (s₁.setTop (entryFrame m #[(.ref ak), (.ref al)] 3)) t := fun t k => castTop (ef_rm6o m ak al) k
  obtain ⟨T1, X1, e1, st1⟩ := instY X0 hx hZ hown (hw _ (List.mem_of_getElem? (i := 47) rfl)) e0 (Ins.self E_al) (g := (mkF m 8 #[.val (.ref ak), .val (.ref al), .unset] [(.ref al)])) rfl rfl (hb hby d6_8)
  obtain ⟨T2, X2, e2, st2⟩ := castY X1 hx hZ hown (hw _ (List.mem_of_getElem? (i := 47) rfl)) e1 (Ins.self E_al) (g := (mkF m 15 #[.val (.ref ak), .val (.ref al), .unset] [(.ref al)])) rfl rfl (hb hby d6_15)
  obtain ⟨T3, X3, e3, st3⟩ := getF X2 hx hZ hown (host := "") (Or.inl (hw _ (List.mem_of_getElem? (i := 24) rfl))) Via.refl e2 F_ak_segmentPosition (g := (mkF m 25 #[.val (.ref ak), .val (.ref al), .val (.ref al)] [(.ref ak)])) rfl rfl (hb hby d6_25)
  obtain ⟨T4, X4, e4, st4⟩ := getF X3 hx hZ hown (host := "") (Or.inl (hw _ (List.mem_of_getElem? (i := 24) rfl))) Via.refl e3 F_al_segmentPosition (g := (mkF m 29 #[.val (.ref ak), .val (.ref al), .val (.ref al)] [(.ref al), (.int k1)])) rfl rfl (hb hby d6_29)
  obtain ⟨T5, X5, e5, st5⟩ := getF X4 hx hZ hown (host := "") (Or.inl (hw _ (List.mem_of_getElem? (i := 27) rfl))) Via.refl e4 F_ak_elementPosition (g := (mkF m 36 #[.val (.ref ak), .val (.ref al), .val (.ref al)] [(.ref ak)])) rfl rfl (hb hby d6_36)
  obtain ⟨T6, X6, e6, st6⟩ := getF X5 hx hZ hown (host := "") (Or.inl (hw _ (List.mem_of_getElem? (i := 27) rfl))) Via.refl e5 F_al_elementPosition (g := (mkF m 40 #[.val (.ref ak), .val (.ref al), .val (.ref al)] [(.ref al), (.int k2)])) rfl rfl (hb hby d6_40)
  obtain ⟨T7, X7, e7, st7⟩ := getF X6 hx hZ hown (host := "") (Or.inl (hw _ (List.mem_of_getElem? (i := 30) rfl))) Via.refl e6 F_ak_elementOccurrence (g := (mkF m 47 #[.val (.ref ak), .val (.ref al), .val (.ref al)] [(.ref ak)])) rfl rfl (hb hby d6_47)
  obtain ⟨T8, X8, e8, st8⟩ := getF X7 hx hZ hown (host := "") (Or.inl (hw _ (List.mem_of_getElem? (i := 30) rfl))) Via.refl e7 F_al_elementOccurrence (g := (mkF m 51 #[.val (.ref ak), .val (.ref al), .val (.ref al)] [(.ref al), (.int k3)])) rfl rfl (hb hby d6_51)
  obtain ⟨T9, X9, e9, st9⟩ := getF X8 hx hZ hown (host := "") (Or.inl (hw _ (List.mem_of_getElem? (i := 33) rfl))) Via.refl e8 F_ak_componentPosition (g := (mkF m 58 #[.val (.ref ak), .val (.ref al), .val (.ref al)] [(.ref ak)])) rfl rfl (hb hby d6_58)
  obtain ⟨T10, X10, e10, st10⟩ := getF X9 hx hZ hown (host := "") (Or.inl (hw _ (List.mem_of_getElem? (i := 33) rfl))) Via.refl e9 F_al_componentPosition (g := (mkF m 62 #[.val (.ref ak), .val (.ref al), .val (.ref al)] [(.ref al), (.int k4)])) rfl rfl (hb hby d6_62)
  obtain ⟨fs, hr, hrun, hended, hW, hsame⟩ := X10.leave (v := some (.int (1 : Int32))) (fun h => by rw [Bd.returns] at h; cases h)
  refine ⟨_, _, pre0 _ ?_, hrun, hended, _, _, rfl, ?_, ⟨_, rfl⟩, hW, hsame.mono (by decide) (by decide)⟩
  · show Steps p.tables e below (s₁.setTop (mkF m 0 #[.val (.ref ak), .val (.ref al), .unset] [])) _
    refine XS.aloadN X0.here hx rfl (hb hby d6_0) rfl rfl ?_
    show Steps p.tables e below (s₁.setTop (mkF m 1 #[.val (.ref ak), .val (.ref al), .unset] [(.ref ak)])) _
    refine XS.aloadN X0.here hx rfl (hb hby d6_1) rfl rfl ?_
    show Steps p.tables e below (s₁.setTop (mkF m 2 #[.val (.ref ak), .val (.ref al), .unset] [(.ref al), (.ref ak)])) _
    refine Jvm.RoadKit.acmp (g := (mkF m 2 #[.val (.ref ak), .val (.ref al), .unset] [(.ref al), (.ref ak)])) X0 hx rfl rfl rfl (pc0 := 2) (pc' := 7) (same := false) rfl (hb hby d6_2) rfl (decide_eq_false fun q => (hne) (Value.ref.inj q)) (by decide) (by decide) ?_
    show Steps p.tables e below (s₁.setTop (mkF m 7 #[.val (.ref ak), .val (.ref al), .unset] [])) _
    refine XS.aloadN X0.here hx rfl (hb hby d6_7) rfl rfl ?_
    show Steps p.tables e below (s₁.setTop (mkF m 8 #[.val (.ref ak), .val (.ref al), .unset] [(.ref al)])) _
    refine st1 _ ?_
    show Steps p.tables e below (T1.setTop (mkF m 11 #[.val (.ref ak), .val (.ref al), .unset] [(.int (1 : Int32))])) _
    refine XS.ifNo X1.here hx rfl (hb hby d6_11) rfl ((if0 _ _).trans (feq (by decide : ¬ ((1 : Int32) = (0 : Int32)))).1) ?_
    show Steps p.tables e below (T1.setTop (mkF m 14 #[.val (.ref ak), .val (.ref al), .unset] [])) _
    refine XS.aloadN X1.here hx rfl (hb hby d6_14) rfl rfl ?_
    show Steps p.tables e below (T1.setTop (mkF m 15 #[.val (.ref ak), .val (.ref al), .unset] [(.ref al)])) _
    refine st2 _ ?_
    show Steps p.tables e below (T2.setTop (mkF m 18 #[.val (.ref ak), .val (.ref al), .unset] [(.ref al)])) _
    refine XS.astoreN X2.here hx rfl (hb hby d6_18) rfl rfl (l' := #[.val (.ref ak), .val (.ref al), .val (.ref al)]) rfl ?_
    show Steps p.tables e below (T2.setTop (mkF m 19 #[.val (.ref ak), .val (.ref al), .val (.ref al)] [])) _
    refine XS.goto X2.here hx rfl (pc0 := 19) (pc' := 24) rfl (hb hby d6_19) (by decide) (by decide) ?_
    show Steps p.tables e below (T2.setTop (mkF m 24 #[.val (.ref ak), .val (.ref al), .val (.ref al)] [])) _
    refine XS.aloadN X2.here hx rfl (hb hby d6_24) rfl rfl ?_
    show Steps p.tables e below (T2.setTop (mkF m 25 #[.val (.ref ak), .val (.ref al), .val (.ref al)] [(.ref ak)])) _
    refine st3 _ ?_
    show Steps p.tables e below (T3.setTop (mkF m 28 #[.val (.ref ak), .val (.ref al), .val (.ref al)] [(.int k1)])) _
    refine XS.aloadN X3.here hx rfl (hb hby d6_28) rfl rfl ?_
    show Steps p.tables e below (T3.setTop (mkF m 29 #[.val (.ref ak), .val (.ref al), .val (.ref al)] [(.ref al), (.int k1)])) _
    refine st4 _ ?_
    show Steps p.tables e below (T4.setTop (mkF m 32 #[.val (.ref ak), .val (.ref al), .val (.ref al)] [(.int l1), (.int k1)])) _
    refine XS.icmpNo X4.here hx rfl (hb hby d6_32) rfl (teq hc32).2 ?_
    show Steps p.tables e below (T4.setTop (mkF m 35 #[.val (.ref ak), .val (.ref al), .val (.ref al)] [])) _
    refine XS.aloadN X4.here hx rfl (hb hby d6_35) rfl rfl ?_
    show Steps p.tables e below (T4.setTop (mkF m 36 #[.val (.ref ak), .val (.ref al), .val (.ref al)] [(.ref ak)])) _
    refine st5 _ ?_
    show Steps p.tables e below (T5.setTop (mkF m 39 #[.val (.ref ak), .val (.ref al), .val (.ref al)] [(.int k2)])) _
    refine XS.aloadN X5.here hx rfl (hb hby d6_39) rfl rfl ?_
    show Steps p.tables e below (T5.setTop (mkF m 40 #[.val (.ref ak), .val (.ref al), .val (.ref al)] [(.ref al), (.int k2)])) _
    refine st6 _ ?_
    show Steps p.tables e below (T6.setTop (mkF m 43 #[.val (.ref ak), .val (.ref al), .val (.ref al)] [(.int l2), (.int k2)])) _
    refine XS.icmpNo X6.here hx rfl (hb hby d6_43) rfl (teq hc43).2 ?_
    show Steps p.tables e below (T6.setTop (mkF m 46 #[.val (.ref ak), .val (.ref al), .val (.ref al)] [])) _
    refine XS.aloadN X6.here hx rfl (hb hby d6_46) rfl rfl ?_
    show Steps p.tables e below (T6.setTop (mkF m 47 #[.val (.ref ak), .val (.ref al), .val (.ref al)] [(.ref ak)])) _
    refine st7 _ ?_
    show Steps p.tables e below (T7.setTop (mkF m 50 #[.val (.ref ak), .val (.ref al), .val (.ref al)] [(.int k3)])) _
    refine XS.aloadN X7.here hx rfl (hb hby d6_50) rfl rfl ?_
    show Steps p.tables e below (T7.setTop (mkF m 51 #[.val (.ref ak), .val (.ref al), .val (.ref al)] [(.ref al), (.int k3)])) _
    refine st8 _ ?_
    show Steps p.tables e below (T8.setTop (mkF m 54 #[.val (.ref ak), .val (.ref al), .val (.ref al)] [(.int l3), (.int k3)])) _
    refine XS.icmpNo X8.here hx rfl (hb hby d6_54) rfl (teq hc54).2 ?_
    show Steps p.tables e below (T8.setTop (mkF m 57 #[.val (.ref ak), .val (.ref al), .val (.ref al)] [])) _
    refine XS.aloadN X8.here hx rfl (hb hby d6_57) rfl rfl ?_
    show Steps p.tables e below (T8.setTop (mkF m 58 #[.val (.ref ak), .val (.ref al), .val (.ref al)] [(.ref ak)])) _
    refine st9 _ ?_
    show Steps p.tables e below (T9.setTop (mkF m 61 #[.val (.ref ak), .val (.ref al), .val (.ref al)] [(.int k4)])) _
    refine XS.aloadN X9.here hx rfl (hb hby d6_61) rfl rfl ?_
    show Steps p.tables e below (T9.setTop (mkF m 62 #[.val (.ref ak), .val (.ref al), .val (.ref al)] [(.ref al), (.int k4)])) _
    refine st10 _ ?_
    show Steps p.tables e below (T10.setTop (mkF m 65 #[.val (.ref ak), .val (.ref al), .val (.ref al)] [(.int l4), (.int k4)])) _
    refine XS.icmpNo X10.here hx rfl (hb hby d6_65) rfl (teq hc65).2 ?_
    show Steps p.tables e below (T10.setTop (mkF m 68 #[.val (.ref ak), .val (.ref al), .val (.ref al)] [])) _
    refine XS.iconst X10.here hx rfl (hb hby d6_68) ?_
    show Steps p.tables e below (T10.setTop (mkF m 69 #[.val (.ref ak), .val (.ref al), .val (.ref al)] [(.int (1 : Int32))])) _
    refine XS.goto X10.here hx rfl (pc0 := 69) (pc' := 73) rfl (hb hby d6_69) (by decide) (by decide) ?_
    show Steps p.tables e below (T10.setTop (mkF m 73 #[.val (.ref ak), .val (.ref al), .val (.ref al)] [(.int (1 : Int32))])) _
    exact retN X10 hx (t := .boolean) Bd.returns (by simp) (hb hby d6_73) hr
  · show QP (.int (1 : Int32)) h0 n0 _ T10.heap _
    rw [e10]
    exact ⟨rfl, N0, rfl⟩
set_option maxRecDepth 65536 in
set_option maxHeartbeats 40000000 in
theorem rm6o (l : Launch) (Z : State) (a0 : Array Value) (hw : ∀ d ∈ tables_1, d.before a0 Z = true) (ws : List Jvm.Cond) (ak : Addr) (al : Addr) (k1 : Int32) (k2 : Int32) (k3 : Int32) (k4 : Int32) (l1 : Int32) (l2 : Int32) (l3 : Int32) (l4 : Int32) (h0 : Heap) (n0 : Nat) (Z0 : n0 ≤ h0.size) (hne : ¬ ak = al) (E_ak : Exa Z h0 ak "com/example/segmentwise/segmentwise/model/Location") (F_ak_segmentPosition : Fld Z h0 ak "com/example/segmentwise/segmentwise/model/Location" "segmentPosition" "I" (.int k1)) (F_ak_elementPosition : Fld Z h0 ak "com/example/segmentwise/segmentwise/model/Location" "elementPosition" "I" (.int k2)) (F_ak_elementOccurrence : Fld Z h0 ak "com/example/segmentwise/segmentwise/model/Location" "elementOccurrence" "I" (.int k3)) (F_ak_componentPosition : Fld Z h0 ak "com/example/segmentwise/segmentwise/model/Location" "componentPosition" "I" (.int k4)) (E_al : Exa Z h0 al "com/example/segmentwise/segmentwise/model/Location") (F_al_segmentPosition : Fld Z h0 al "com/example/segmentwise/segmentwise/model/Location" "segmentPosition" "I" (.int l1)) (F_al_elementPosition : Fld Z h0 al "com/example/segmentwise/segmentwise/model/Location" "elementPosition" "I" (.int l2)) (F_al_elementOccurrence : Fld Z h0 al "com/example/segmentwise/segmentwise/model/Location" "elementOccurrence" "I" (.int l3)) (F_al_componentPosition : Fld Z h0 al "com/example/segmentwise/segmentwise/model/Location" "componentPosition" "I" (.int l4)) (r : Int32) (hr0 : r = (if k1 = l1 then (if k2 = l2 then (if k3 = l3 then (if k4 = l4 then (1 : Int32) else (0 : Int32)) else (0 : Int32)) else (0 : Int32)) else (0 : Int32))) :
    MetFree l (⟨"com/example/segmentwise/segmentwise/model/Location", "equals", "(Ljava/lang/Object;)Z"⟩ : MethodName) (head1 (Jvm.Cond.code (⟨"com/example/segmentwise/segmentwise/model/Location", "equals", "(Ljava/lang/Object;)Z"⟩ : MethodName) prog_25_method_7_code 3 (some .boolean) :: ws) ({ frames := 0, cells := 0, slots := 0, locals := 0 } : Room)) (fun a U => a = #[(.ref ak), (.ref al)] ∧ Z.Warmed39 U.vm ∧ U.heap = h0) (fun _ _ _ _ _ => True) (fun _ U o U' => ∃ v L, o = .returned v ∧ QP (.int r) h0 n0 v U'.heap L ∧ FrameEnd U o U' L ({ frames := 0, cells := 0, slots := 0, locals := 0 } : Room).cells ({ frames := 0, cells := 0, slots := 0, locals := 0 } : Room).slots) := by
  by_cases hc32 : k1 = l1
  · by_cases hc43 : k2 = l2
    · by_cases hc54 : k3 = l3
      · by_cases hc65 : k4 = l4
        · exact rm6o_ffff l Z a0 hw ws ak al k1 k2 k3 k4 l1 l2 l3 l4 h0 n0 Z0 hne E_ak F_ak_segmentPosition F_ak_elementPosition F_ak_elementOccurrence F_ak_componentPosition E_al F_al_segmentPosition F_al_elementPosition F_al_elementOccurrence F_al_componentPosition r ((((hr0.trans (if_pos hc32)).trans (if_pos hc43)).trans (if_pos hc54)).trans (if_pos hc65)) hc32 hc43 hc54 hc65
        · exact rm6o_ffft l Z a0 hw ws ak al k1 k2 k3 k4 l1 l2 l3 l4 h0 n0 Z0 hne E_ak F_ak_segmentPosition F_ak_elementPosition F_ak_elementOccurrence F_ak_componentPosition E_al F_al_segmentPosition F_al_elementPosition F_al_elementOccurrence F_al_componentPosition r ((((hr0.trans (if_pos hc32)).trans (if_pos hc43)).trans (if_pos hc54)).trans (if_neg hc65)) hc32 hc43 hc54 hc65
      · exact rm6o_fft l Z a0 hw ws ak al k1 k2 k3 k4 l1 l2 l3 l4 h0 n0 Z0 hne E_ak F_ak_segmentPosition F_ak_elementPosition F_ak_elementOccurrence F_ak_componentPosition E_al F_al_segmentPosition F_al_elementPosition F_al_elementOccurrence F_al_componentPosition r (((hr0.trans (if_pos hc32)).trans (if_pos hc43)).trans (if_neg hc54)) hc32 hc43 hc54
    · exact rm6o_ft l Z a0 hw ws ak al k1 k2 k3 k4 l1 l2 l3 l4 h0 n0 Z0 hne E_ak F_ak_segmentPosition F_ak_elementPosition F_ak_elementOccurrence F_ak_componentPosition E_al F_al_segmentPosition F_al_elementPosition F_al_elementOccurrence F_al_componentPosition r ((hr0.trans (if_pos hc32)).trans (if_neg hc43)) hc32 hc43
  · exact rm6o_t l Z a0 hw ws ak al k1 k2 k3 k4 l1 l2 l3 l4 h0 n0 Z0 hne E_ak F_ak_segmentPosition F_ak_elementPosition F_ak_elementOccurrence F_ak_componentPosition E_al F_al_segmentPosition F_al_elementPosition F_al_elementOccurrence F_al_componentPosition r (hr0.trans (if_neg hc32)) hc32
set_option maxRecDepth 65536 in
set_option maxHeartbeats 40000000 in
theorem own_j46 {p : Program} {l : Launch} {e : Env} {R : Room} {s : State} {m : MethodId} {args : Array Value} {below : List Frame} {meth : Method} {c : Code} {s₁ : State} {locs : List Loc} {cells slots : Nat} (p1 : Int32) (p2 : Int32) (p3 : Int32) (p4 : Int32) (p5 : Int32) (p6 : Int32) (vs : Int32) (ve : Int32) (vo : Int32) (vc : Int32) (vr : Int32) (kk : Int32) (md : Int32) (y : Int32) (hy : y = (if (kk &&& (1 : Int32)) = (0 : Int32) then vs else vr))
    (X0 : Stand p l e R s m args below meth c s₁ locs cells slots) (hx : p.tables.exec = Jvm.exec) (hby : c.code = code) (target : State) (kt : Steps p.tables e below (s₁.setTop (mkF m 62 #[.val (.int p1), .val (.int p2), .val (.int p3), .val (.int p4), .val (.int p5), .val (.int p6), .val (.int vs), .val (.int ve), .val (.int vo), .val (.int vc), .val (.int vr), .val (.int kk), .val (.int md), .val (.int y), .unset, .unset, .unset, .unset, .unset, .unset, .unset] [])) target) : Steps p.tables e below (s₁.setTop (mkF m 46 #[.val (.int p1), .val (.int p2), .val (.int p3), .val (.int p4), .val (.int p5), .val (.int p6), .val (.int vs), .val (.int ve), .val (.int vo), .val (.int vc), .val (.int vr), .val (.int kk), .val (.int md), .unset, .unset, .unset, .unset, .unset, .unset, .unset, .unset] [])) target := by
  by_cases hc50 : (kk &&& (1 : Int32)) = (0 : Int32)
  · rw [if_pos hc50] at hy
    rw [hy] at kt
    show Steps p.tables e below (s₁.setTop (mkF m 46 #[.val (.int p1), .val (.int p2), .val (.int p3), .val (.int p4), .val (.int p5), .val (.int p6), .val (.int vs), .val (.int ve), .val (.int vo), .val (.int vc), .val (.int vr), .val (.int kk), .val (.int md), .unset, .unset, .unset, .unset, .unset, .unset, .unset, .unset] [])) _
    refine XS.iload X0.here hx rfl (hb hby at_46) rfl ?_
    show Steps p.tables e below (s₁.setTop (mkF m 48 #[.val (.int p1), .val (.int p2), .val (.int p3), .val (.int p4), .val (.int p5), .val (.int p6), .val (.int vs), .val (.int ve), .val (.int vo), .val (.int vc), .val (.int vr), .val (.int kk), .val (.int md), .unset, .unset, .unset, .unset, .unset, .unset, .unset, .unset] [(.int kk)])) _
    refine XS.iconst X0.here hx rfl (hb hby at_48) ?_
    show Steps p.tables e below (s₁.setTop (mkF m 49 #[.val (.int p1), .val (.int p2), .val (.int p3), .val (.int p4), .val (.int p5), .val (.int p6), .val (.int vs), .val (.int ve), .val (.int vo), .val (.int vc), .val (.int vr), .val (.int kk), .val (.int md), .unset, .unset, .unset, .unset, .unset, .unset, .unset, .unset] [(.int (1 : Int32)), (.int kk)])) _
    refine XS.iand X0.here hx rfl (hb hby at_49) rfl ?_
    show Steps p.tables e below (s₁.setTop (mkF m 50 #[.val (.int p1), .val (.int p2), .val (.int p3), .val (.int p4), .val (.int p5), .val (.int p6), .val (.int vs), .val (.int ve), .val (.int vo), .val (.int vc), .val (.int vr), .val (.int kk), .val (.int md), .unset, .unset, .unset, .unset, .unset, .unset, .unset, .unset] [(.int (kk &&& (1 : Int32)))])) _
    refine XS.ifYes X0.here hx rfl (pc0 := 50) (pc' := 58) rfl (hb hby at_50) rfl ((if0 _ _).trans (teq hc50).1) (by decide) (by decide) ?_
    show Steps p.tables e below (s₁.setTop (mkF m 58 #[.val (.int p1), .val (.int p2), .val (.int p3), .val (.int p4), .val (.int p5), .val (.int p6), .val (.int vs), .val (.int ve), .val (.int vo), .val (.int vc), .val (.int vr), .val (.int kk), .val (.int md), .unset, .unset, .unset, .unset, .unset, .unset, .unset, .unset] [])) _
    refine XS.iload X0.here hx rfl (hb hby at_58) rfl ?_
    show Steps p.tables e below (s₁.setTop (mkF m 60 #[.val (.int p1), .val (.int p2), .val (.int p3), .val (.int p4), .val (.int p5), .val (.int p6), .val (.int vs), .val (.int ve), .val (.int vo), .val (.int vc), .val (.int vr), .val (.int kk), .val (.int md), .unset, .unset, .unset, .unset, .unset, .unset, .unset, .unset] [(.int vs)])) _
    refine XS.istore X0.here hx rfl (hb hby at_60) rfl (l' := #[.val (.int p1), .val (.int p2), .val (.int p3), .val (.int p4), .val (.int p5), .val (.int p6), .val (.int vs), .val (.int ve), .val (.int vo), .val (.int vc), .val (.int vr), .val (.int kk), .val (.int md), .val (.int vs), .unset, .unset, .unset, .unset, .unset, .unset, .unset]) rfl ?_
    exact kt
  · rw [if_neg hc50] at hy
    rw [hy] at kt
    show Steps p.tables e below (s₁.setTop (mkF m 46 #[.val (.int p1), .val (.int p2), .val (.int p3), .val (.int p4), .val (.int p5), .val (.int p6), .val (.int vs), .val (.int ve), .val (.int vo), .val (.int vc), .val (.int vr), .val (.int kk), .val (.int md), .unset, .unset, .unset, .unset, .unset, .unset, .unset, .unset] [])) _
    refine XS.iload X0.here hx rfl (hb hby at_46) rfl ?_
    show Steps p.tables e below (s₁.setTop (mkF m 48 #[.val (.int p1), .val (.int p2), .val (.int p3), .val (.int p4), .val (.int p5), .val (.int p6), .val (.int vs), .val (.int ve), .val (.int vo), .val (.int vc), .val (.int vr), .val (.int kk), .val (.int md), .unset, .unset, .unset, .unset, .unset, .unset, .unset, .unset] [(.int kk)])) _
    refine XS.iconst X0.here hx rfl (hb hby at_48) ?_
    show Steps p.tables e below (s₁.setTop (mkF m 49 #[.val (.int p1), .val (.int p2), .val (.int p3), .val (.int p4), .val (.int p5), .val (.int p6), .val (.int vs), .val (.int ve), .val (.int vo), .val (.int vc), .val (.int vr), .val (.int kk), .val (.int md), .unset, .unset, .unset, .unset, .unset, .unset, .unset, .unset] [(.int (1 : Int32)), (.int kk)])) _
    refine XS.iand X0.here hx rfl (hb hby at_49) rfl ?_
    show Steps p.tables e below (s₁.setTop (mkF m 50 #[.val (.int p1), .val (.int p2), .val (.int p3), .val (.int p4), .val (.int p5), .val (.int p6), .val (.int vs), .val (.int ve), .val (.int vo), .val (.int vc), .val (.int vr), .val (.int kk), .val (.int md), .unset, .unset, .unset, .unset, .unset, .unset, .unset, .unset] [(.int (kk &&& (1 : Int32)))])) _
    refine XS.ifNo X0.here hx rfl (hb hby at_50) rfl ((if0 _ _).trans (feq hc50).1) ?_
    show Steps p.tables e below (s₁.setTop (mkF m 53 #[.val (.int p1), .val (.int p2), .val (.int p3), .val (.int p4), .val (.int p5), .val (.int p6), .val (.int vs), .val (.int ve), .val (.int vo), .val (.int vc), .val (.int vr), .val (.int kk), .val (.int md), .unset, .unset, .unset, .unset, .unset, .unset, .unset, .unset] [])) _
    refine XS.iload X0.here hx rfl (hb hby at_53) rfl ?_
    show Steps p.tables e below (s₁.setTop (mkF m 55 #[.val (.int p1), .val (.int p2), .val (.int p3), .val (.int p4), .val (.int p5), .val (.int p6), .val (.int vs), .val (.int ve), .val (.int vo), .val (.int vc), .val (.int vr), .val (.int kk), .val (.int md), .unset, .unset, .unset, .unset, .unset, .unset, .unset, .unset] [(.int vr)])) _
    refine XS.goto X0.here hx rfl (pc0 := 55) (pc' := 60) rfl (hb hby at_55) (by decide) (by decide) ?_
    show Steps p.tables e below (s₁.setTop (mkF m 60 #[.val (.int p1), .val (.int p2), .val (.int p3), .val (.int p4), .val (.int p5), .val (.int p6), .val (.int vs), .val (.int ve), .val (.int vo), .val (.int vc), .val (.int vr), .val (.int kk), .val (.int md), .unset, .unset, .unset, .unset, .unset, .unset, .unset, .unset] [(.int vr)])) _
    refine XS.istore X0.here hx rfl (hb hby at_60) rfl (l' := #[.val (.int p1), .val (.int p2), .val (.int p3), .val (.int p4), .val (.int p5), .val (.int p6), .val (.int vs), .val (.int ve), .val (.int vo), .val (.int vc), .val (.int vr), .val (.int kk), .val (.int md), .val (.int vr), .unset, .unset, .unset, .unset, .unset, .unset, .unset]) rfl ?_
    exact kt
set_option maxRecDepth 65536 in
set_option maxHeartbeats 40000000 in
theorem own_j62 {p : Program} {l : Launch} {e : Env} {R : Room} {s : State} {m : MethodId} {args : Array Value} {below : List Frame} {meth : Method} {c : Code} {s₁ : State} {locs : List Loc} {cells slots : Nat} (p1 : Int32) (p2 : Int32) (p3 : Int32) (p4 : Int32) (p5 : Int32) (p6 : Int32) (vs : Int32) (ve : Int32) (vo : Int32) (vc : Int32) (vr : Int32) (kk : Int32) (md : Int32) (xs : Int32) (y : Int32) (hy : y = (if (kk &&& (2 : Int32)) = (0 : Int32) then ve else vr))
    (X0 : Stand p l e R s m args below meth c s₁ locs cells slots) (hx : p.tables.exec = Jvm.exec) (hby : c.code = code) (target : State) (kt : Steps p.tables e below (s₁.setTop (mkF m 78 #[.val (.int p1), .val (.int p2), .val (.int p3), .val (.int p4), .val (.int p5), .val (.int p6), .val (.int vs), .val (.int ve), .val (.int vo), .val (.int vc), .val (.int vr), .val (.int kk), .val (.int md), .val (.int xs), .val (.int y), .unset, .unset, .unset, .unset, .unset, .unset] [])) target) : Steps p.tables e below (s₁.setTop (mkF m 62 #[.val (.int p1), .val (.int p2), .val (.int p3), .val (.int p4), .val (.int p5), .val (.int p6), .val (.int vs), .val (.int ve), .val (.int vo), .val (.int vc), .val (.int vr), .val (.int kk), .val (.int md), .val (.int xs), .unset, .unset, .unset, .unset, .unset, .unset, .unset] [])) target := by
  by_cases hc66 : (kk &&& (2 : Int32)) = (0 : Int32)
  · rw [if_pos hc66] at hy
    rw [hy] at kt
    show Steps p.tables e below (s₁.setTop (mkF m 62 #[.val (.int p1), .val (.int p2), .val (.int p3), .val (.int p4), .val (.int p5), .val (.int p6), .val (.int vs), .val (.int ve), .val (.int vo), .val (.int vc), .val (.int vr), .val (.int kk), .val (.int md), .val (.int xs), .unset, .unset, .unset, .unset, .unset, .unset, .unset] [])) _
    refine XS.iload X0.here hx rfl (hb hby at_62) rfl ?_
    show Steps p.tables e below (s₁.setTop (mkF m 64 #[.val (.int p1), .val (.int p2), .val (.int p3), .val (.int p4), .val (.int p5), .val (.int p6), .val (.int vs), .val (.int ve), .val (.int vo), .val (.int vc), .val (.int vr), .val (.int kk), .val (.int md), .val (.int xs), .unset, .unset, .unset, .unset, .unset, .unset, .unset] [(.int kk)])) _
    refine XS.iconst X0.here hx rfl (hb hby at_64) ?_
    show Steps p.tables e below (s₁.setTop (mkF m 65 #[.val (.int p1), .val (.int p2), .val (.int p3), .val (.int p4), .val (.int p5), .val (.int p6), .val (.int vs), .val (.int ve), .val (.int vo), .val (.int vc), .val (.int vr), .val (.int kk), .val (.int md), .val (.int xs), .unset, .unset, .unset, .unset, .unset, .unset, .unset] [(.int (2 : Int32)), (.int kk)])) _
    refine XS.iand X0.here hx rfl (hb hby at_65) rfl ?_
    show Steps p.tables e below (s₁.setTop (mkF m 66 #[.val (.int p1), .val (.int p2), .val (.int p3), .val (.int p4), .val (.int p5), .val (.int p6), .val (.int vs), .val (.int ve), .val (.int vo), .val (.int vc), .val (.int vr), .val (.int kk), .val (.int md), .val (.int xs), .unset, .unset, .unset, .unset, .unset, .unset, .unset] [(.int (kk &&& (2 : Int32)))])) _
    refine XS.ifYes X0.here hx rfl (pc0 := 66) (pc' := 74) rfl (hb hby at_66) rfl ((if0 _ _).trans (teq hc66).1) (by decide) (by decide) ?_
    show Steps p.tables e below (s₁.setTop (mkF m 74 #[.val (.int p1), .val (.int p2), .val (.int p3), .val (.int p4), .val (.int p5), .val (.int p6), .val (.int vs), .val (.int ve), .val (.int vo), .val (.int vc), .val (.int vr), .val (.int kk), .val (.int md), .val (.int xs), .unset, .unset, .unset, .unset, .unset, .unset, .unset] [])) _
    refine XS.iload X0.here hx rfl (hb hby at_74) rfl ?_
    show Steps p.tables e below (s₁.setTop (mkF m 76 #[.val (.int p1), .val (.int p2), .val (.int p3), .val (.int p4), .val (.int p5), .val (.int p6), .val (.int vs), .val (.int ve), .val (.int vo), .val (.int vc), .val (.int vr), .val (.int kk), .val (.int md), .val (.int xs), .unset, .unset, .unset, .unset, .unset, .unset, .unset] [(.int ve)])) _
    refine XS.istore X0.here hx rfl (hb hby at_76) rfl (l' := #[.val (.int p1), .val (.int p2), .val (.int p3), .val (.int p4), .val (.int p5), .val (.int p6), .val (.int vs), .val (.int ve), .val (.int vo), .val (.int vc), .val (.int vr), .val (.int kk), .val (.int md), .val (.int xs), .val (.int ve), .unset, .unset, .unset, .unset, .unset, .unset]) rfl ?_
    exact kt
  · rw [if_neg hc66] at hy
    rw [hy] at kt
    show Steps p.tables e below (s₁.setTop (mkF m 62 #[.val (.int p1), .val (.int p2), .val (.int p3), .val (.int p4), .val (.int p5), .val (.int p6), .val (.int vs), .val (.int ve), .val (.int vo), .val (.int vc), .val (.int vr), .val (.int kk), .val (.int md), .val (.int xs), .unset, .unset, .unset, .unset, .unset, .unset, .unset] [])) _
    refine XS.iload X0.here hx rfl (hb hby at_62) rfl ?_
    show Steps p.tables e below (s₁.setTop (mkF m 64 #[.val (.int p1), .val (.int p2), .val (.int p3), .val (.int p4), .val (.int p5), .val (.int p6), .val (.int vs), .val (.int ve), .val (.int vo), .val (.int vc), .val (.int vr), .val (.int kk), .val (.int md), .val (.int xs), .unset, .unset, .unset, .unset, .unset, .unset, .unset] [(.int kk)])) _
    refine XS.iconst X0.here hx rfl (hb hby at_64) ?_
    show Steps p.tables e below (s₁.setTop (mkF m 65 #[.val (.int p1), .val (.int p2), .val (.int p3), .val (.int p4), .val (.int p5), .val (.int p6), .val (.int vs), .val (.int ve), .val (.int vo), .val (.int vc), .val (.int vr), .val (.int kk), .val (.int md), .val (.int xs), .unset, .unset, .unset, .unset, .unset, .unset, .unset] [(.int (2 : Int32)), (.int kk)])) _
    refine XS.iand X0.here hx rfl (hb hby at_65) rfl ?_
    show Steps p.tables e below (s₁.setTop (mkF m 66 #[.val (.int p1), .val (.int p2), .val (.int p3), .val (.int p4), .val (.int p5), .val (.int p6), .val (.int vs), .val (.int ve), .val (.int vo), .val (.int vc), .val (.int vr), .val (.int kk), .val (.int md), .val (.int xs), .unset, .unset, .unset, .unset, .unset, .unset, .unset] [(.int (kk &&& (2 : Int32)))])) _
    refine XS.ifNo X0.here hx rfl (hb hby at_66) rfl ((if0 _ _).trans (feq hc66).1) ?_
    show Steps p.tables e below (s₁.setTop (mkF m 69 #[.val (.int p1), .val (.int p2), .val (.int p3), .val (.int p4), .val (.int p5), .val (.int p6), .val (.int vs), .val (.int ve), .val (.int vo), .val (.int vc), .val (.int vr), .val (.int kk), .val (.int md), .val (.int xs), .unset, .unset, .unset, .unset, .unset, .unset, .unset] [])) _
    refine XS.iload X0.here hx rfl (hb hby at_69) rfl ?_
    show Steps p.tables e below (s₁.setTop (mkF m 71 #[.val (.int p1), .val (.int p2), .val (.int p3), .val (.int p4), .val (.int p5), .val (.int p6), .val (.int vs), .val (.int ve), .val (.int vo), .val (.int vc), .val (.int vr), .val (.int kk), .val (.int md), .val (.int xs), .unset, .unset, .unset, .unset, .unset, .unset, .unset] [(.int vr)])) _
    refine XS.goto X0.here hx rfl (pc0 := 71) (pc' := 76) rfl (hb hby at_71) (by decide) (by decide) ?_
    show Steps p.tables e below (s₁.setTop (mkF m 76 #[.val (.int p1), .val (.int p2), .val (.int p3), .val (.int p4), .val (.int p5), .val (.int p6), .val (.int vs), .val (.int ve), .val (.int vo), .val (.int vc), .val (.int vr), .val (.int kk), .val (.int md), .val (.int xs), .unset, .unset, .unset, .unset, .unset, .unset, .unset] [(.int vr)])) _
    refine XS.istore X0.here hx rfl (hb hby at_76) rfl (l' := #[.val (.int p1), .val (.int p2), .val (.int p3), .val (.int p4), .val (.int p5), .val (.int p6), .val (.int vs), .val (.int ve), .val (.int vo), .val (.int vc), .val (.int vr), .val (.int kk), .val (.int md), .val (.int xs), .val (.int vr), .unset, .unset, .unset, .unset, .unset, .unset]) rfl ?_
    exact kt
set_option maxRecDepth 65536 in
set_option maxHeartbeats 40000000 in
theorem own_j78 {p : Program} {l : Launch} {e : Env} {R : Room} {s : State} {m : MethodId} {args : Array Value} {below : List Frame} {meth : Method} {c : Code} {s₁ : State} {locs : List Loc} {cells slots : Nat} (p1 : Int32) (p2 : Int32) (p3 : Int32) (p4 : Int32) (p5 : Int32) (p6 : Int32) (vs : Int32) (ve : Int32) (vo : Int32) (vc : Int32) (vr : Int32) (kk : Int32) (md : Int32) (xs : Int32) (xe : Int32) (y : Int32) (hy : y = (if (kk &&& (4 : Int32)) = (0 : Int32) then vo else vr))
    (X0 : Stand p l e R s m args below meth c s₁ locs cells slots) (hx : p.tables.exec = Jvm.exec) (hby : c.code = code) (target : State) (kt : Steps p.tables e below (s₁.setTop (mkF m 94 #[.val (.int p1), .val (.int p2), .val (.int p3), .val (.int p4), .val (.int p5), .val (.int p6), .val (.int vs), .val (.int ve), .val (.int vo), .val (.int vc), .val (.int vr), .val (.int kk), .val (.int md), .val (.int xs), .val (.int xe), .val (.int y), .unset, .unset, .unset, .unset, .unset] [])) target) : Steps p.tables e below (s₁.setTop (mkF m 78 #[.val (.int p1), .val (.int p2), .val (.int p3), .val (.int p4), .val (.int p5), .val (.int p6), .val (.int vs), .val (.int ve), .val (.int vo), .val (.int vc), .val (.int vr), .val (.int kk), .val (.int md), .val (.int xs), .val (.int xe), .unset, .unset, .unset, .unset, .unset, .unset] [])) target := by
  by_cases hc82 : (kk &&& (4 : Int32)) = (0 : Int32)
  · rw [if_pos hc82] at hy
    rw [hy] at kt
    show Steps p.tables e below (s₁.setTop (mkF m 78 #[.val (.int p1), .val (.int p2), .val (.int p3), .val (.int p4), .val (.int p5), .val (.int p6), .val (.int vs), .val (.int ve), .val (.int vo), .val (.int vc), .val (.int vr), .val (.int kk), .val (.int md), .val (.int xs), .val (.int xe), .unset, .unset, .unset, .unset, .unset, .unset] [])) _
    refine XS.iload X0.here hx rfl (hb hby at_78) rfl ?_
    show Steps p.tables e below (s₁.setTop (mkF m 80 #[.val (.int p1), .val (.int p2), .val (.int p3), .val (.int p4), .val (.int p5), .val (.int p6), .val (.int vs), .val (.int ve), .val (.int vo), .val (.int vc), .val (.int vr), .val (.int kk), .val (.int md), .val (.int xs), .val (.int xe), .unset, .unset, .unset, .unset, .unset, .unset] [(.int kk)])) _
    refine XS.iconst X0.here hx rfl (hb hby at_80) ?_
    show Steps p.tables e below (s₁.setTop (mkF m 81 #[.val (.int p1), .val (.int p2), .val (.int p3), .val (.int p4), .val (.int p5), .val (.int p6), .val (.int vs), .val (.int ve), .val (.int vo), .val (.int vc), .val (.int vr), .val (.int kk), .val (.int md), .val (.int xs), .val (.int xe), .unset, .unset, .unset, .unset, .unset, .unset] [(.int (4 : Int32)), (.int kk)])) _
    refine XS.iand X0.here hx rfl (hb hby at_81) rfl ?_
    show Steps p.tables e below (s₁.setTop (mkF m 82 #[.val (.int p1), .val (.int p2), .val (.int p3), .val (.int p4), .val (.int p5), .val (.int p6), .val (.int vs), .val (.int ve), .val (.int vo), .val (.int vc), .val (.int vr), .val (.int kk), .val (.int md), .val (.int xs), .val (.int xe), .unset, .unset, .unset, .unset, .unset, .unset] [(.int (kk &&& (4 : Int32)))])) _
    refine XS.ifYes X0.here hx rfl (pc0 := 82) (pc' := 90) rfl (hb hby at_82) rfl ((if0 _ _).trans (teq hc82).1) (by decide) (by decide) ?_
    show Steps p.tables e below (s₁.setTop (mkF m 90 #[.val (.int p1), .val (.int p2), .val (.int p3), .val (.int p4), .val (.int p5), .val (.int p6), .val (.int vs), .val (.int ve), .val (.int vo), .val (.int vc), .val (.int vr), .val (.int kk), .val (.int md), .val (.int xs), .val (.int xe), .unset, .unset, .unset, .unset, .unset, .unset] [])) _
    refine XS.iload X0.here hx rfl (hb hby at_90) rfl ?_
    show Steps p.tables e below (s₁.setTop (mkF m 92 #[.val (.int p1), .val (.int p2), .val (.int p3), .val (.int p4), .val (.int p5), .val (.int p6), .val (.int vs), .val (.int ve), .val (.int vo), .val (.int vc), .val (.int vr), .val (.int kk), .val (.int md), .val (.int xs), .val (.int xe), .unset, .unset, .unset, .unset, .unset, .unset] [(.int vo)])) _
    refine XS.istore X0.here hx rfl (hb hby at_92) rfl (l' := #[.val (.int p1), .val (.int p2), .val (.int p3), .val (.int p4), .val (.int p5), .val (.int p6), .val (.int vs), .val (.int ve), .val (.int vo), .val (.int vc), .val (.int vr), .val (.int kk), .val (.int md), .val (.int xs), .val (.int xe), .val (.int vo), .unset, .unset, .unset, .unset, .unset]) rfl ?_
    exact kt
  · rw [if_neg hc82] at hy
    rw [hy] at kt
    show Steps p.tables e below (s₁.setTop (mkF m 78 #[.val (.int p1), .val (.int p2), .val (.int p3), .val (.int p4), .val (.int p5), .val (.int p6), .val (.int vs), .val (.int ve), .val (.int vo), .val (.int vc), .val (.int vr), .val (.int kk), .val (.int md), .val (.int xs), .val (.int xe), .unset, .unset, .unset, .unset, .unset, .unset] [])) _
    refine XS.iload X0.here hx rfl (hb hby at_78) rfl ?_
    show Steps p.tables e below (s₁.setTop (mkF m 80 #[.val (.int p1), .val (.int p2), .val (.int p3), .val (.int p4), .val (.int p5), .val (.int p6), .val (.int vs), .val (.int ve), .val (.int vo), .val (.int vc), .val (.int vr), .val (.int kk), .val (.int md), .val (.int xs), .val (.int xe), .unset, .unset, .unset, .unset, .unset, .unset] [(.int kk)])) _
    refine XS.iconst X0.here hx rfl (hb hby at_80) ?_
    show Steps p.tables e below (s₁.setTop (mkF m 81 #[.val (.int p1), .val (.int p2), .val (.int p3), .val (.int p4), .val (.int p5), .val (.int p6), .val (.int vs), .val (.int ve), .val (.int vo), .val (.int vc), .val (.int vr), .val (.int kk), .val (.int md), .val (.int xs), .val (.int xe), .unset, .unset, .unset, .unset, .unset, .unset] [(.int (4 : Int32)), (.int kk)])) _
    refine XS.iand X0.here hx rfl (hb hby at_81) rfl ?_
    show Steps p.tables e below (s₁.setTop (mkF m 82 #[.val (.int p1), .val (.int p2), .val (.int p3), .val (.int p4), .val (.int p5), .val (.int p6), .val (.int vs), .val (.int ve), .val (.int vo), .val (.int vc), .val (.int vr), .val (.int kk), .val (.int md), .val (.int xs), .val (.int xe), .unset, .unset, .unset, .unset, .unset, .unset] [(.int (kk &&& (4 : Int32)))])) _
    refine XS.ifNo X0.here hx rfl (hb hby at_82) rfl ((if0 _ _).trans (feq hc82).1) ?_
    show Steps p.tables e below (s₁.setTop (mkF m 85 #[.val (.int p1), .val (.int p2), .val (.int p3), .val (.int p4), .val (.int p5), .val (.int p6), .val (.int vs), .val (.int ve), .val (.int vo), .val (.int vc), .val (.int vr), .val (.int kk), .val (.int md), .val (.int xs), .val (.int xe), .unset, .unset, .unset, .unset, .unset, .unset] [])) _
    refine XS.iload X0.here hx rfl (hb hby at_85) rfl ?_
    show Steps p.tables e below (s₁.setTop (mkF m 87 #[.val (.int p1), .val (.int p2), .val (.int p3), .val (.int p4), .val (.int p5), .val (.int p6), .val (.int vs), .val (.int ve), .val (.int vo), .val (.int vc), .val (.int vr), .val (.int kk), .val (.int md), .val (.int xs), .val (.int xe), .unset, .unset, .unset, .unset, .unset, .unset] [(.int vr)])) _
    refine XS.goto X0.here hx rfl (pc0 := 87) (pc' := 92) rfl (hb hby at_87) (by decide) (by decide) ?_
    show Steps p.tables e below (s₁.setTop (mkF m 92 #[.val (.int p1), .val (.int p2), .val (.int p3), .val (.int p4), .val (.int p5), .val (.int p6), .val (.int vs), .val (.int ve), .val (.int vo), .val (.int vc), .val (.int vr), .val (.int kk), .val (.int md), .val (.int xs), .val (.int xe), .unset, .unset, .unset, .unset, .unset, .unset] [(.int vr)])) _
    refine XS.istore X0.here hx rfl (hb hby at_92) rfl (l' := #[.val (.int p1), .val (.int p2), .val (.int p3), .val (.int p4), .val (.int p5), .val (.int p6), .val (.int vs), .val (.int ve), .val (.int vo), .val (.int vc), .val (.int vr), .val (.int kk), .val (.int md), .val (.int xs), .val (.int xe), .val (.int vr), .unset, .unset, .unset, .unset, .unset]) rfl ?_
    exact kt
set_option maxRecDepth 65536 in
set_option maxHeartbeats 40000000 in
theorem own_j94 {p : Program} {l : Launch} {e : Env} {R : Room} {s : State} {m : MethodId} {args : Array Value} {below : List Frame} {meth : Method} {c : Code} {s₁ : State} {locs : List Loc} {cells slots : Nat} (p1 : Int32) (p2 : Int32) (p3 : Int32) (p4 : Int32) (p5 : Int32) (p6 : Int32) (vs : Int32) (ve : Int32) (vo : Int32) (vc : Int32) (vr : Int32) (kk : Int32) (md : Int32) (xs : Int32) (xe : Int32) (xo : Int32) (y : Int32) (hy : y = (if (kk &&& (8 : Int32)) = (0 : Int32) then vc else vr))
    (X0 : Stand p l e R s m args below meth c s₁ locs cells slots) (hx : p.tables.exec = Jvm.exec) (hby : c.code = code) (target : State) (kt : Steps p.tables e below (s₁.setTop (mkF m 111 #[.val (.int p1), .val (.int p2), .val (.int p3), .val (.int p4), .val (.int p5), .val (.int p6), .val (.int vs), .val (.int ve), .val (.int vo), .val (.int vc), .val (.int vr), .val (.int kk), .val (.int md), .val (.int xs), .val (.int xe), .val (.int xo), .val (.int y), .unset, .unset, .unset, .unset] [])) target) : Steps p.tables e below (s₁.setTop (mkF m 94 #[.val (.int p1), .val (.int p2), .val (.int p3), .val (.int p4), .val (.int p5), .val (.int p6), .val (.int vs), .val (.int ve), .val (.int vo), .val (.int vc), .val (.int vr), .val (.int kk), .val (.int md), .val (.int xs), .val (.int xe), .val (.int xo), .unset, .unset, .unset, .unset, .unset] [])) target := by
  by_cases hc99 : (kk &&& (8 : Int32)) = (0 : Int32)
  · rw [if_pos hc99] at hy
    rw [hy] at kt
    show Steps p.tables e below (s₁.setTop (mkF m 94 #[.val (.int p1), .val (.int p2), .val (.int p3), .val (.int p4), .val (.int p5), .val (.int p6), .val (.int vs), .val (.int ve), .val (.int vo), .val (.int vc), .val (.int vr), .val (.int kk), .val (.int md), .val (.int xs), .val (.int xe), .val (.int xo), .unset, .unset, .unset, .unset, .unset] [])) _
    refine XS.iload X0.here hx rfl (hb hby at_94) rfl ?_
    show Steps p.tables e below (s₁.setTop (mkF m 96 #[.val (.int p1), .val (.int p2), .val (.int p3), .val (.int p4), .val (.int p5), .val (.int p6), .val (.int vs), .val (.int ve), .val (.int vo), .val (.int vc), .val (.int vr), .val (.int kk), .val (.int md), .val (.int xs), .val (.int xe), .val (.int xo), .unset, .unset, .unset, .unset, .unset] [(.int kk)])) _
    refine XS.bipush X0.here hx rfl (hb hby at_96) ?_
    show Steps p.tables e below (s₁.setTop (mkF m 98 #[.val (.int p1), .val (.int p2), .val (.int p3), .val (.int p4), .val (.int p5), .val (.int p6), .val (.int vs), .val (.int ve), .val (.int vo), .val (.int vc), .val (.int vr), .val (.int kk), .val (.int md), .val (.int xs), .val (.int xe), .val (.int xo), .unset, .unset, .unset, .unset, .unset] [(.int (8 : Int32)), (.int kk)])) _
    refine XS.iand X0.here hx rfl (hb hby at_98) rfl ?_
    show Steps p.tables e below (s₁.setTop (mkF m 99 #[.val (.int p1), .val (.int p2), .val (.int p3), .val (.int p4), .val (.int p5), .val (.int p6), .val (.int vs), .val (.int ve), .val (.int vo), .val (.int vc), .val (.int vr), .val (.int kk), .val (.int md), .val (.int xs), .val (.int xe), .val (.int xo), .unset, .unset, .unset, .unset, .unset] [(.int (kk &&& (8 : Int32)))])) _
    refine XS.ifYes X0.here hx rfl (pc0 := 99) (pc' := 107) rfl (hb hby at_99) rfl ((if0 _ _).trans (teq hc99).1) (by decide) (by decide) ?_
    show Steps p.tables e below (s₁.setTop (mkF m 107 #[.val (.int p1), .val (.int p2), .val (.int p3), .val (.int p4), .val (.int p5), .val (.int p6), .val (.int vs), .val (.int ve), .val (.int vo), .val (.int vc), .val (.int vr), .val (.int kk), .val (.int md), .val (.int xs), .val (.int xe), .val (.int xo), .unset, .unset, .unset, .unset, .unset] [])) _
    refine XS.iload X0.here hx rfl (hb hby at_107) rfl ?_
    show Steps p.tables e below (s₁.setTop (mkF m 109 #[.val (.int p1), .val (.int p2), .val (.int p3), .val (.int p4), .val (.int p5), .val (.int p6), .val (.int vs), .val (.int ve), .val (.int vo), .val (.int vc), .val (.int vr), .val (.int kk), .val (.int md), .val (.int xs), .val (.int xe), .val (.int xo), .unset, .unset, .unset, .unset, .unset] [(.int vc)])) _
    refine XS.istore X0.here hx rfl (hb hby at_109) rfl (l' := #[.val (.int p1), .val (.int p2), .val (.int p3), .val (.int p4), .val (.int p5), .val (.int p6), .val (.int vs), .val (.int ve), .val (.int vo), .val (.int vc), .val (.int vr), .val (.int kk), .val (.int md), .val (.int xs), .val (.int xe), .val (.int xo), .val (.int vc), .unset, .unset, .unset, .unset]) rfl ?_
    exact kt
  · rw [if_neg hc99] at hy
    rw [hy] at kt
    show Steps p.tables e below (s₁.setTop (mkF m 94 #[.val (.int p1), .val (.int p2), .val (.int p3), .val (.int p4), .val (.int p5), .val (.int p6), .val (.int vs), .val (.int ve), .val (.int vo), .val (.int vc), .val (.int vr), .val (.int kk), .val (.int md), .val (.int xs), .val (.int xe), .val (.int xo), .unset, .unset, .unset, .unset, .unset] [])) _
    refine XS.iload X0.here hx rfl (hb hby at_94) rfl ?_
    show Steps p.tables e below (s₁.setTop (mkF m 96 #[.val (.int p1), .val (.int p2), .val (.int p3), .val (.int p4), .val (.int p5), .val (.int p6), .val (.int vs), .val (.int ve), .val (.int vo), .val (.int vc), .val (.int vr), .val (.int kk), .val (.int md), .val (.int xs), .val (.int xe), .val (.int xo), .unset, .unset, .unset, .unset, .unset] [(.int kk)])) _
    refine XS.bipush X0.here hx rfl (hb hby at_96) ?_
    show Steps p.tables e below (s₁.setTop (mkF m 98 #[.val (.int p1), .val (.int p2), .val (.int p3), .val (.int p4), .val (.int p5), .val (.int p6), .val (.int vs), .val (.int ve), .val (.int vo), .val (.int vc), .val (.int vr), .val (.int kk), .val (.int md), .val (.int xs), .val (.int xe), .val (.int xo), .unset, .unset, .unset, .unset, .unset] [(.int (8 : Int32)), (.int kk)])) _
    refine XS.iand X0.here hx rfl (hb hby at_98) rfl ?_
    show Steps p.tables e below (s₁.setTop (mkF m 99 #[.val (.int p1), .val (.int p2), .val (.int p3), .val (.int p4), .val (.int p5), .val (.int p6), .val (.int vs), .val (.int ve), .val (.int vo), .val (.int vc), .val (.int vr), .val (.int kk), .val (.int md), .val (.int xs), .val (.int xe), .val (.int xo), .unset, .unset, .unset, .unset, .unset] [(.int (kk &&& (8 : Int32)))])) _
    refine XS.ifNo X0.here hx rfl (hb hby at_99) rfl ((if0 _ _).trans (feq hc99).1) ?_
    show Steps p.tables e below (s₁.setTop (mkF m 102 #[.val (.int p1), .val (.int p2), .val (.int p3), .val (.int p4), .val (.int p5), .val (.int p6), .val (.int vs), .val (.int ve), .val (.int vo), .val (.int vc), .val (.int vr), .val (.int kk), .val (.int md), .val (.int xs), .val (.int xe), .val (.int xo), .unset, .unset, .unset, .unset, .unset] [])) _
    refine XS.iload X0.here hx rfl (hb hby at_102) rfl ?_
    show Steps p.tables e below (s₁.setTop (mkF m 104 #[.val (.int p1), .val (.int p2), .val (.int p3), .val (.int p4), .val (.int p5), .val (.int p6), .val (.int vs), .val (.int ve), .val (.int vo), .val (.int vc), .val (.int vr), .val (.int kk), .val (.int md), .val (.int xs), .val (.int xe), .val (.int xo), .unset, .unset, .unset, .unset, .unset] [(.int vr)])) _
    refine XS.goto X0.here hx rfl (pc0 := 104) (pc' := 109) rfl (hb hby at_104) (by decide) (by decide) ?_
    show Steps p.tables e below (s₁.setTop (mkF m 109 #[.val (.int p1), .val (.int p2), .val (.int p3), .val (.int p4), .val (.int p5), .val (.int p6), .val (.int vs), .val (.int ve), .val (.int vo), .val (.int vc), .val (.int vr), .val (.int kk), .val (.int md), .val (.int xs), .val (.int xe), .val (.int xo), .unset, .unset, .unset, .unset, .unset] [(.int vr)])) _
    refine XS.istore X0.here hx rfl (hb hby at_109) rfl (l' := #[.val (.int p1), .val (.int p2), .val (.int p3), .val (.int p4), .val (.int p5), .val (.int p6), .val (.int vs), .val (.int ve), .val (.int vo), .val (.int vc), .val (.int vr), .val (.int kk), .val (.int md), .val (.int xs), .val (.int xe), .val (.int xo), .val (.int vr), .unset, .unset, .unset, .unset]) rfl ?_
    exact kt
set_option maxRecDepth 65536 in
set_option maxHeartbeats 40000000 in
theorem own_jx {p : Program} {l : Launch} {e : Env} {R : Room} {s : State} {m : MethodId} {args : Array Value} {below : List Frame} {meth : Method} {c : Code} {s₁ : State} {locs : List Loc} {cells slots : Nat} (p1 : Int32) (p2 : Int32) (p3 : Int32) (p4 : Int32) (p5 : Int32) (p6 : Int32) (vs : Int32) (ve : Int32) (vo : Int32) (vc : Int32) (vr : Int32) (kk : Int32) (md : Int32) (xs : Int32) (xe : Int32) (xo : Int32) (xc : Int32) (b17 : Addr) (b18 : Addr) (b19 : Addr) (y : Int32) (hy : y = (if xs = vs then (if xe = ve then (if xo = vo then (if xc = vc then (1 : Int32) else (0 : Int32)) else (0 : Int32)) else (0 : Int32)) else (0 : Int32)))
    (X0 : Stand p l e R s m args below meth c s₁ locs cells slots) (hx : p.tables.exec = Jvm.exec) (hby : c.code = code) (target : State) (kt : Steps p.tables e below (s₁.setTop (mkF m 241 #[.val (.int p1), .val (.int p2), .val (.int p3), .val (.int p4), .val (.int p5), .val (.int p6), .val (.int vs), .val (.int ve), .val (.int vo), .val (.int vc), .val (.int vr), .val (.int kk), .val (.int md), .val (.int xs), .val (.int xe), .val (.int xo), .val (.int xc), .val (.ref b17), .val (.ref b18), .val (.ref b19), .unset] [(.int y)])) target) : Steps p.tables e below (s₁.setTop (mkF m 208 #[.val (.int p1), .val (.int p2), .val (.int p3), .val (.int p4), .val (.int p5), .val (.int p6), .val (.int vs), .val (.int ve), .val (.int vo), .val (.int vc), .val (.int vr), .val (.int kk), .val (.int md), .val (.int xs), .val (.int xe), .val (.int xo), .val (.int xc), .val (.ref b17), .val (.ref b18), .val (.ref b19), .unset] [])) target := by
  by_cases hc212 : xs = vs
  · rw [if_pos hc212] at hy
    by_cases hc219 : xe = ve
    · rw [if_pos hc219] at hy
      by_cases hc226 : xo = vo
      · rw [if_pos hc226] at hy
        by_cases hc233 : xc = vc
        · rw [if_pos hc233] at hy
          rw [hy] at kt
          show Steps p.tables e below (s₁.setTop (mkF m 208 #[.val (.int p1), .val (.int p2), .val (.int p3), .val (.int p4), .val (.int p5), .val (.int p6), .val (.int vs), .val (.int ve), .val (.int vo), .val (.int vc), .val (.int vr), .val (.int kk), .val (.int md), .val (.int xs), .val (.int xe), .val (.int xo), .val (.int xc), .val (.ref b17), .val (.ref b18), .val (.ref b19), .unset] [])) _
          refine XS.iload X0.here hx rfl (hb hby at_208) rfl ?_
          show Steps p.tables e below (s₁.setTop (mkF m 210 #[.val (.int p1), .val (.int p2), .val (.int p3), .val (.int p4), .val (.int p5), .val (.int p6), .val (.int vs), .val (.int ve), .val (.int vo), .val (.int vc), .val (.int vr), .val (.int kk), .val (.int md), .val (.int xs), .val (.int xe), .val (.int xo), .val (.int xc), .val (.ref b17), .val (.ref b18), .val (.ref b19), .unset] [(.int xs)])) _
          refine XS.iload X0.here hx rfl (hb hby at_210) rfl ?_
          show Steps p.tables e below (s₁.setTop (mkF m 212 #[.val (.int p1), .val (.int p2), .val (.int p3), .val (.int p4), .val (.int p5), .val (.int p6), .val (.int vs), .val (.int ve), .val (.int vo), .val (.int vc), .val (.int vr), .val (.int kk), .val (.int md), .val (.int xs), .val (.int xe), .val (.int xo), .val (.int xc), .val (.ref b17), .val (.ref b18), .val (.ref b19), .unset] [(.int vs), (.int xs)])) _
          refine XS.icmpNo X0.here hx rfl (hb hby at_212) rfl (teq hc212).2 ?_
          show Steps p.tables e below (s₁.setTop (mkF m 215 #[.val (.int p1), .val (.int p2), .val (.int p3), .val (.int p4), .val (.int p5), .val (.int p6), .val (.int vs), .val (.int ve), .val (.int vo), .val (.int vc), .val (.int vr), .val (.int kk), .val (.int md), .val (.int xs), .val (.int xe), .val (.int xo), .val (.int xc), .val (.ref b17), .val (.ref b18), .val (.ref b19), .unset] [])) _
          refine XS.iload X0.here hx rfl (hb hby at_215) rfl ?_
          show Steps p.tables e below (s₁.setTop (mkF m 217 #[.val (.int p1), .val (.int p2), .val (.int p3), .val (.int p4), .val (.int p5), .val (.int p6), .val (.int vs), .val (.int ve), .val (.int vo), .val (.int vc), .val (.int vr), .val (.int kk), .val (.int md), .val (.int xs), .val (.int xe), .val (.int xo), .val (.int xc), .val (.ref b17), .val (.ref b18), .val (.ref b19), .unset] [(.int xe)])) _
          refine XS.iload X0.here hx rfl (hb hby at_217) rfl ?_
          show Steps p.tables e below (s₁.setTop (mkF m 219 #[.val (.int p1), .val (.int p2), .val (.int p3), .val (.int p4), .val (.int p5), .val (.int p6), .val (.int vs), .val (.int ve), .val (.int vo), .val (.int vc), .val (.int vr), .val (.int kk), .val (.int md), .val (.int xs), .val (.int xe), .val (.int xo), .val (.int xc), .val (.ref b17), .val (.ref b18), .val (.ref b19), .unset] [(.int ve), (.int xe)])) _
          refine XS.icmpNo X0.here hx rfl (hb hby at_219) rfl (teq hc219).2 ?_
          show Steps p.tables e below (s₁.setTop (mkF m 222 #[.val (.int p1), .val (.int p2), .val (.int p3), .val (.int p4), .val (.int p5), .val (.int p6), .val (.int vs), .val (.int ve), .val (.int vo), .val (.int vc), .val (.int vr), .val (.int kk), .val (.int md), .val (.int xs), .val (.int xe), .val (.int xo), .val (.int xc), .val (.ref b17), .val (.ref b18), .val (.ref b19), .unset] [])) _
          refine XS.iload X0.here hx rfl (hb hby at_222) rfl ?_
          show Steps p.tables e below (s₁.setTop (mkF m 224 #[.val (.int p1), .val (.int p2), .val (.int p3), .val (.int p4), .val (.int p5), .val (.int p6), .val (.int vs), .val (.int ve), .val (.int vo), .val (.int vc), .val (.int vr), .val (.int kk), .val (.int md), .val (.int xs), .val (.int xe), .val (.int xo), .val (.int xc), .val (.ref b17), .val (.ref b18), .val (.ref b19), .unset] [(.int xo)])) _
          refine XS.iload X0.here hx rfl (hb hby at_224) rfl ?_
          show Steps p.tables e below (s₁.setTop (mkF m 226 #[.val (.int p1), .val (.int p2), .val (.int p3), .val (.int p4), .val (.int p5), .val (.int p6), .val (.int vs), .val (.int ve), .val (.int vo), .val (.int vc), .val (.int vr), .val (.int kk), .val (.int md), .val (.int xs), .val (.int xe), .val (.int xo), .val (.int xc), .val (.ref b17), .val (.ref b18), .val (.ref b19), .unset] [(.int vo), (.int xo)])) _
          refine XS.icmpNo X0.here hx rfl (hb hby at_226) rfl (teq hc226).2 ?_
          show Steps p.tables e below (s₁.setTop (mkF m 229 #[.val (.int p1), .val (.int p2), .val (.int p3), .val (.int p4), .val (.int p5), .val (.int p6), .val (.int vs), .val (.int ve), .val (.int vo), .val (.int vc), .val (.int vr), .val (.int kk), .val (.int md), .val (.int xs), .val (.int xe), .val (.int xo), .val (.int xc), .val (.ref b17), .val (.ref b18), .val (.ref b19), .unset] [])) _
          refine XS.iload X0.here hx rfl (hb hby at_229) rfl ?_
          show Steps p.tables e below (s₁.setTop (mkF m 231 #[.val (.int p1), .val (.int p2), .val (.int p3), .val (.int p4), .val (.int p5), .val (.int p6), .val (.int vs), .val (.int ve), .val (.int vo), .val (.int vc), .val (.int vr), .val (.int kk), .val (.int md), .val (.int xs), .val (.int xe), .val (.int xo), .val (.int xc), .val (.ref b17), .val (.ref b18), .val (.ref b19), .unset] [(.int xc)])) _
          refine XS.iload X0.here hx rfl (hb hby at_231) rfl ?_
          show Steps p.tables e below (s₁.setTop (mkF m 233 #[.val (.int p1), .val (.int p2), .val (.int p3), .val (.int p4), .val (.int p5), .val (.int p6), .val (.int vs), .val (.int ve), .val (.int vo), .val (.int vc), .val (.int vr), .val (.int kk), .val (.int md), .val (.int xs), .val (.int xe), .val (.int xo), .val (.int xc), .val (.ref b17), .val (.ref b18), .val (.ref b19), .unset] [(.int vc), (.int xc)])) _
          refine XS.icmpNo X0.here hx rfl (hb hby at_233) rfl (teq hc233).2 ?_
          show Steps p.tables e below (s₁.setTop (mkF m 236 #[.val (.int p1), .val (.int p2), .val (.int p3), .val (.int p4), .val (.int p5), .val (.int p6), .val (.int vs), .val (.int ve), .val (.int vo), .val (.int vc), .val (.int vr), .val (.int kk), .val (.int md), .val (.int xs), .val (.int xe), .val (.int xo), .val (.int xc), .val (.ref b17), .val (.ref b18), .val (.ref b19), .unset] [])) _
          refine XS.iconst X0.here hx rfl (hb hby at_236) ?_
          show Steps p.tables e below (s₁.setTop (mkF m 237 #[.val (.int p1), .val (.int p2), .val (.int p3), .val (.int p4), .val (.int p5), .val (.int p6), .val (.int vs), .val (.int ve), .val (.int vo), .val (.int vc), .val (.int vr), .val (.int kk), .val (.int md), .val (.int xs), .val (.int xe), .val (.int xo), .val (.int xc), .val (.ref b17), .val (.ref b18), .val (.ref b19), .unset] [(.int (1 : Int32))])) _
          refine XS.goto X0.here hx rfl (pc0 := 237) (pc' := 241) rfl (hb hby at_237) (by decide) (by decide) ?_
          exact kt
        · rw [if_neg hc233] at hy
          rw [hy] at kt
          show Steps p.tables e below (s₁.setTop (mkF m 208 #[.val (.int p1), .val (.int p2), .val (.int p3), .val (.int p4), .val (.int p5), .val (.int p6), .val (.int vs), .val (.int ve), .val (.int vo), .val (.int vc), .val (.int vr), .val (.int kk), .val (.int md), .val (.int xs), .val (.int xe), .val (.int xo), .val (.int xc), .val (.ref b17), .val (.ref b18), .val (.ref b19), .unset] [])) _
          refine XS.iload X0.here hx rfl (hb hby at_208) rfl ?_
          show Steps p.tables e below (s₁.setTop (mkF m 210 #[.val (.int p1), .val (.int p2), .val (.int p3), .val (.int p4), .val (.int p5), .val (.int p6), .val (.int vs), .val (.int ve), .val (.int vo), .val (.int vc), .val (.int vr), .val (.int kk), .val (.int md), .val (.int xs), .val (.int xe), .val (.int xo), .val (.int xc), .val (.ref b17), .val (.ref b18), .val (.ref b19), .unset] [(.int xs)])) _
          refine XS.iload X0.here hx rfl (hb hby at_210) rfl ?_
          show Steps p.tables e below (s₁.setTop (mkF m 212 #[.val (.int p1), .val (.int p2), .val (.int p3), .val (.int p4), .val (.int p5), .val (.int p6), .val (.int vs), .val (.int ve), .val (.int vo), .val (.int vc), .val (.int vr), .val (.int kk), .val (.int md), .val (.int xs), .val (.int xe), .val (.int xo), .val (.int xc), .val (.ref b17), .val (.ref b18), .val (.ref b19), .unset] [(.int vs), (.int xs)])) _
          refine XS.icmpNo X0.here hx rfl (hb hby at_212) rfl (teq hc212).2 ?_
          show Steps p.tables e below (s₁.setTop (mkF m 215 #[.val (.int p1), .val (.int p2), .val (.int p3), .val (.int p4), .val (.int p5), .val (.int p6), .val (.int vs), .val (.int ve), .val (.int vo), .val (.int vc), .val (.int vr), .val (.int kk), .val (.int md), .val (.int xs), .val (.int xe), .val (.int xo), .val (.int xc), .val (.ref b17), .val (.ref b18), .val (.ref b19), .unset] [])) _
          refine XS.iload X0.here hx rfl (hb hby at_215) rfl ?_
          show Steps p.tables e below (s₁.setTop (mkF m 217 #[.val (.int p1), .val (.int p2), .val (.int p3), .val (.int p4), .val (.int p5), .val (.int p6), .val (.int vs), .val (.int ve), .val (.int vo), .val (.int vc), .val (.int vr), .val (.int kk), .val (.int md), .val (.int xs), .val (.int xe), .val (.int xo), .val (.int xc), .val (.ref b17), .val (.ref b18), .val (.ref b19), .unset] [(.int xe)])) _
          refine XS.iload X0.here hx rfl (hb hby at_217) rfl ?_
          show Steps p.tables e below (s₁.setTop (mkF m 219 #[.val (.int p1), .val (.int p2), .val (.int p3), .val (.int p4), .val (.int p5), .val (.int p6), .val (.int vs), .val (.int ve), .val (.int vo), .val (.int vc), .val (.int vr), .val (.int kk), .val (.int md), .val (.int xs), .val (.int xe), .val (.int xo), .val (.int xc), .val (.ref b17), .val (.ref b18), .val (.ref b19), .unset] [(.int ve), (.int xe)])) _
          refine XS.icmpNo X0.here hx rfl (hb hby at_219) rfl (teq hc219).2 ?_
          show Steps p.tables e below (s₁.setTop (mkF m 222 #[.val (.int p1), .val (.int p2), .val (.int p3), .val (.int p4), .val (.int p5), .val (.int p6), .val (.int vs), .val (.int ve), .val (.int vo), .val (.int vc), .val (.int vr), .val (.int kk), .val (.int md), .val (.int xs), .val (.int xe), .val (.int xo), .val (.int xc), .val (.ref b17), .val (.ref b18), .val (.ref b19), .unset] [])) _
          refine XS.iload X0.here hx rfl (hb hby at_222) rfl ?_
          show Steps p.tables e below (s₁.setTop (mkF m 224 #[.val (.int p1), .val (.int p2), .val (.int p3), .val (.int p4), .val (.int p5), .val (.int p6), .val (.int vs), .val (.int ve), .val (.int vo), .val (.int vc), .val (.int vr), .val (.int kk), .val (.int md), .val (.int xs), .val (.int xe), .val (.int xo), .val (.int xc), .val (.ref b17), .val (.ref b18), .val (.ref b19), .unset] [(.int xo)])) _
          refine XS.iload X0.here hx rfl (hb hby at_224) rfl ?_
          show Steps p.tables e below (s₁.setTop (mkF m 226 #[.val (.int p1), .val (.int p2), .val (.int p3), .val (.int p4), .val (.int p5), .val (.int p6), .val (.int vs), .val (.int ve), .val (.int vo), .val (.int vc), .val (.int vr), .val (.int kk), .val (.int md), .val (.int xs), .val (.int xe), .val (.int xo), .val (.int xc), .val (.ref b17), .val (.ref b18), .val (.ref b19), .unset] [(.int vo), (.int xo)])) _
          refine XS.icmpNo X0.here hx rfl (hb hby at_226) rfl (teq hc226).2 ?_
          show Steps p.tables e below (s₁.setTop (mkF m 229 #[.val (.int p1), .val (.int p2), .val (.int p3), .val (.int p4), .val (.int p5), .val (.int p6), .val (.int vs), .val (.int ve), .val (.int vo), .val (.int vc), .val (.int vr), .val (.int kk), .val (.int md), .val (.int xs), .val (.int xe), .val (.int xo), .val (.int xc), .val (.ref b17), .val (.ref b18), .val (.ref b19), .unset] [])) _
          refine XS.iload X0.here hx rfl (hb hby at_229) rfl ?_
          show Steps p.tables e below (s₁.setTop (mkF m 231 #[.val (.int p1), .val (.int p2), .val (.int p3), .val (.int p4), .val (.int p5), .val (.int p6), .val (.int vs), .val (.int ve), .val (.int vo), .val (.int vc), .val (.int vr), .val (.int kk), .val (.int md), .val (.int xs), .val (.int xe), .val (.int xo), .val (.int xc), .val (.ref b17), .val (.ref b18), .val (.ref b19), .unset] [(.int xc)])) _
          refine XS.iload X0.here hx rfl (hb hby at_231) rfl ?_
          show Steps p.tables e below (s₁.setTop (mkF m 233 #[.val (.int p1), .val (.int p2), .val (.int p3), .val (.int p4), .val (.int p5), .val (.int p6), .val (.int vs), .val (.int ve), .val (.int vo), .val (.int vc), .val (.int vr), .val (.int kk), .val (.int md), .val (.int xs), .val (.int xe), .val (.int xo), .val (.int xc), .val (.ref b17), .val (.ref b18), .val (.ref b19), .unset] [(.int vc), (.int xc)])) _
          refine XS.icmpYes X0.here hx rfl (pc0 := 233) (pc' := 240) rfl (hb hby at_233) rfl (feq hc233).2 (by decide) (by decide) ?_
          show Steps p.tables e below (s₁.setTop (mkF m 240 #[.val (.int p1), .val (.int p2), .val (.int p3), .val (.int p4), .val (.int p5), .val (.int p6), .val (.int vs), .val (.int ve), .val (.int vo), .val (.int vc), .val (.int vr), .val (.int kk), .val (.int md), .val (.int xs), .val (.int xe), .val (.int xo), .val (.int xc), .val (.ref b17), .val (.ref b18), .val (.ref b19), .unset] [])) _
          refine XS.iconst X0.here hx rfl (hb hby at_240) ?_
          exact kt
      · rw [if_neg hc226] at hy
        rw [hy] at kt
        show Steps p.tables e below (s₁.setTop (mkF m 208 #[.val (.int p1), .val (.int p2), .val (.int p3), .val (.int p4), .val (.int p5), .val (.int p6), .val (.int vs), .val (.int ve), .val (.int vo), .val (.int vc), .val (.int vr), .val (.int kk), .val (.int md), .val (.int xs), .val (.int xe), .val (.int xo), .val (.int xc), .val (.ref b17), .val (.ref b18), .val (.ref b19), .unset] [])) _
        refine XS.iload X0.here hx rfl (hb hby at_208) rfl ?_
        show Steps p.tables e below (s₁.setTop (mkF m 210 #[.val (.int p1), .val (.int p2), .val (.int p3), .val (.int p4), .val (.int p5), .val (.int p6), .val (.int vs), .val (.int ve), .val (.int vo), .val (.int vc), .val (.int vr), .val (.int kk), .val (.int md), .val (.int xs), .val (.int xe), .val (.int xo), .val (.int xc), .val (.ref b17), .val (.ref b18), .val (.ref b19), .unset] [(.int xs)])) _
        refine XS.iload X0.here hx rfl (hb hby at_210) rfl ?_
        show Steps p.tables e below (s₁.setTop (mkF m 212 #[.val (.int p1), .val (.int p2), .val (.int p3), .val (.int p4), .val (.int p5), .val (.int p6), .val (.int vs), .val (.int ve), .val (.int vo), .val (.int vc), .val (.int vr), .val (.int kk), .val (.int md), .val (.int xs), .val (.int xe), .val (.int xo), .val (.int xc), .val (.ref b17), .val (.ref b18), .val (.ref b19), .unset] [(.int vs), (.int xs)])) _
        refine XS.icmpNo X0.here hx rfl (hb hby at_212) rfl (teq hc212).2 ?_
        show Steps p.tables e below (s₁.setTop (mkF m 215 #[.val (.int p1), .val (.int p2), .val (.int p3), .val (.int p4), .val (.int p5), .val (.int p6), .val (.int vs), .val (.int ve), .val (.int vo), .val (.int vc), .val (.int vr), .val (.int kk), .val (.int md), .val (.int xs), .val (.int xe), .val (.int xo), .val (.int xc), .val (.ref b17), .val (.ref b18), .val (.ref b19), .unset] [])) _
        refine XS.iload X0.here hx rfl (hb hby at_215) rfl ?_
        show Steps p.tables e below (s₁.setTop (mkF m 217 #[.val (.int p1), .val (.int p2), .val (.int p3), .val (.int p4), .val (.int p5), .val (.int p6), .val (.int vs), .val (.int ve), .val (.int vo), .val (.int vc), .val (.int vr), .val (.int kk), .val (.int md), .val (.int xs), .val (.int xe), .val (.int xo), .val (.int xc), .val (.ref b17), .val (.ref b18), .val (.ref b19), .unset] [(.int xe)])) _
        refine XS.iload X0.here hx rfl (hb hby at_217) rfl ?_
        show Steps p.tables e below (s₁.setTop (mkF m 219 #[.val (.int p1), .val (.int p2), .val (.int p3), .val (.int p4), .val (.int p5), .val (.int p6), .val (.int vs), .val (.int ve), .val (.int vo), .val (.int vc), .val (.int vr), .val (.int kk), .val (.int md), .val (.int xs), .val (.int xe), .val (.int xo), .val (.int xc), .val (.ref b17), .val (.ref b18), .val (.ref b19), .unset] [(.int ve), (.int xe)])) _
        refine XS.icmpNo X0.here hx rfl (hb hby at_219) rfl (teq hc219).2 ?_
        show Steps p.tables e below (s₁.setTop (mkF m 222 #[.val (.int p1), .val (.int p2), .val (.int p3), .val (.int p4), .val (.int p5), .val (.int p6), .val (.int vs), .val (.int ve), .val (.int vo), .val (.int vc), .val (.int vr), .val (.int kk), .val (.int md), .val (.int xs), .val (.int xe), .val (.int xo), .val (.int xc), .val (.ref b17), .val (.ref b18), .val (.ref b19), .unset] [])) _
        refine XS.iload X0.here hx rfl (hb hby at_222) rfl ?_
        show Steps p.tables e below (s₁.setTop (mkF m 224 #[.val (.int p1), .val (.int p2), .val (.int p3), .val (.int p4), .val (.int p5), .val (.int p6), .val (.int vs), .val (.int ve), .val (.int vo), .val (.int vc), .val (.int vr), .val (.int kk), .val (.int md), .val (.int xs), .val (.int xe), .val (.int xo), .val (.int xc), .val (.ref b17), .val (.ref b18), .val (.ref b19), .unset] [(.int xo)])) _
        refine XS.iload X0.here hx rfl (hb hby at_224) rfl ?_
        show Steps p.tables e below (s₁.setTop (mkF m 226 #[.val (.int p1), .val (.int p2), .val (.int p3), .val (.int p4), .val (.int p5), .val (.int p6), .val (.int vs), .val (.int ve), .val (.int vo), .val (.int vc), .val (.int vr), .val (.int kk), .val (.int md), .val (.int xs), .val (.int xe), .val (.int xo), .val (.int xc), .val (.ref b17), .val (.ref b18), .val (.ref b19), .unset] [(.int vo), (.int xo)])) _
        refine XS.icmpYes X0.here hx rfl (pc0 := 226) (pc' := 240) rfl (hb hby at_226) rfl (feq hc226).2 (by decide) (by decide) ?_
        show Steps p.tables e below (s₁.setTop (mkF m 240 #[.val (.int p1), .val (.int p2), .val (.int p3), .val (.int p4), .val (.int p5), .val (.int p6), .val (.int vs), .val (.int ve), .val (.int vo), .val (.int vc), .val (.int vr), .val (.int kk), .val (.int md), .val (.int xs), .val (.int xe), .val (.int xo), .val (.int xc), .val (.ref b17), .val (.ref b18), .val (.ref b19), .unset] [])) _
        refine XS.iconst X0.here hx rfl (hb hby at_240) ?_
        exact kt
    · rw [if_neg hc219] at hy
      rw [hy] at kt
      show Steps p.tables e below (s₁.setTop (mkF m 208 #[.val (.int p1), .val (.int p2), .val (.int p3), .val (.int p4), .val (.int p5), .val (.int p6), .val (.int vs), .val (.int ve), .val (.int vo), .val (.int vc), .val (.int vr), .val (.int kk), .val (.int md), .val (.int xs), .val (.int xe), .val (.int xo), .val (.int xc), .val (.ref b17), .val (.ref b18), .val (.ref b19), .unset] [])) _
      refine XS.iload X0.here hx rfl (hb hby at_208) rfl ?_
      show Steps p.tables e below (s₁.setTop (mkF m 210 #[.val (.int p1), .val (.int p2), .val (.int p3), .val (.int p4), .val (.int p5), .val (.int p6), .val (.int vs), .val (.int ve), .val (.int vo), .val (.int vc), .val (.int vr), .val (.int kk), .val (.int md), .val (.int xs), .val (.int xe), .val (.int xo), .val (.int xc), .val (.ref b17), .val (.ref b18), .val (.ref b19), .unset] [(.int xs)])) _
      refine XS.iload X0.here hx rfl (hb hby at_210) rfl ?_
      show Steps p.tables e below (s₁.setTop (mkF m 212 #[.val (.int p1), .val (.int p2), .val (.int p3), .val (.int p4), .val (.int p5), .val (.int p6), .val (.int vs), .val (.int ve), .val (.int vo), .val (.int vc), .val (.int vr), .val (.int kk), .val (.int md), .val (.int xs), .val (.int xe), .val (.int xo), .val (.int xc), .val (.ref b17), .val (.ref b18), .val (.ref b19), .unset] [(.int vs), (.int xs)])) _
      refine XS.icmpNo X0.here hx rfl (hb hby at_212) rfl (teq hc212).2 ?_
      show Steps p.tables e below (s₁.setTop (mkF m 215 #[.val (.int p1), .val (.int p2), .val (.int p3), .val (.int p4), .val (.int p5), .val (.int p6), .val (.int vs), .val (.int ve), .val (.int vo), .val (.int vc), .val (.int vr), .val (.int kk), .val (.int md), .val (.int xs), .val (.int xe), .val (.int xo), .val (.int xc), .val (.ref b17), .val (.ref b18), .val (.ref b19), .unset] [])) _
      refine XS.iload X0.here hx rfl (hb hby at_215) rfl ?_
      show Steps p.tables e below (s₁.setTop (mkF m 217 #[.val (.int p1), .val (.int p2), .val (.int p3), .val (.int p4), .val (.int p5), .val (.int p6), .val (.int vs), .val (.int ve), .val (.int vo), .val (.int vc), .val (.int vr), .val (.int kk), .val (.int md), .val (.int xs), .val (.int xe), .val (.int xo), .val (.int xc), .val (.ref b17), .val (.ref b18), .val (.ref b19), .unset] [(.int xe)])) _
      refine XS.iload X0.here hx rfl (hb hby at_217) rfl ?_
      show Steps p.tables e below (s₁.setTop (mkF m 219 #[.val (.int p1), .val (.int p2), .val (.int p3), .val (.int p4), .val (.int p5), .val (.int p6), .val (.int vs), .val (.int ve), .val (.int vo), .val (.int vc), .val (.int vr), .val (.int kk), .val (.int md), .val (.int xs), .val (.int xe), .val (.int xo), .val (.int xc), .val (.ref b17), .val (.ref b18), .val (.ref b19), .unset] [(.int ve), (.int xe)])) _
      refine XS.icmpYes X0.here hx rfl (pc0 := 219) (pc' := 240) rfl (hb hby at_219) rfl (feq hc219).2 (by decide) (by decide) ?_
      show Steps p.tables e below (s₁.setTop (mkF m 240 #[.val (.int p1), .val (.int p2), .val (.int p3), .val (.int p4), .val (.int p5), .val (.int p6), .val (.int vs), .val (.int ve), .val (.int vo), .val (.int vc), .val (.int vr), .val (.int kk), .val (.int md), .val (.int xs), .val (.int xe), .val (.int xo), .val (.int xc), .val (.ref b17), .val (.ref b18), .val (.ref b19), .unset] [])) _
      refine XS.iconst X0.here hx rfl (hb hby at_240) ?_
      exact kt
  · rw [if_neg hc212] at hy
    rw [hy] at kt
    show Steps p.tables e below (s₁.setTop (mkF m 208 #[.val (.int p1), .val (.int p2), .val (.int p3), .val (.int p4), .val (.int p5), .val (.int p6), .val (.int vs), .val (.int ve), .val (.int vo), .val (.int vc), .val (.int vr), .val (.int kk), .val (.int md), .val (.int xs), .val (.int xe), .val (.int xo), .val (.int xc), .val (.ref b17), .val (.ref b18), .val (.ref b19), .unset] [])) _
    refine XS.iload X0.here hx rfl (hb hby at_208) rfl ?_
    show Steps p.tables e below (s₁.setTop (mkF m 210 #[.val (.int p1), .val (.int p2), .val (.int p3), .val (.int p4), .val (.int p5), .val (.int p6), .val (.int vs), .val (.int ve), .val (.int vo), .val (.int vc), .val (.int vr), .val (.int kk), .val (.int md), .val (.int xs), .val (.int xe), .val (.int xo), .val (.int xc), .val (.ref b17), .val (.ref b18), .val (.ref b19), .unset] [(.int xs)])) _
    refine XS.iload X0.here hx rfl (hb hby at_210) rfl ?_
    show Steps p.tables e below (s₁.setTop (mkF m 212 #[.val (.int p1), .val (.int p2), .val (.int p3), .val (.int p4), .val (.int p5), .val (.int p6), .val (.int vs), .val (.int ve), .val (.int vo), .val (.int vc), .val (.int vr), .val (.int kk), .val (.int md), .val (.int xs), .val (.int xe), .val (.int xo), .val (.int xc), .val (.ref b17), .val (.ref b18), .val (.ref b19), .unset] [(.int vs), (.int xs)])) _
    refine XS.icmpYes X0.here hx rfl (pc0 := 212) (pc' := 240) rfl (hb hby at_212) rfl (feq hc212).2 (by decide) (by decide) ?_
    show Steps p.tables e below (s₁.setTop (mkF m 240 #[.val (.int p1), .val (.int p2), .val (.int p3), .val (.int p4), .val (.int p5), .val (.int p6), .val (.int vs), .val (.int ve), .val (.int vo), .val (.int vc), .val (.int vr), .val (.int kk), .val (.int md), .val (.int xs), .val (.int xe), .val (.int xo), .val (.int xc), .val (.ref b17), .val (.ref b18), .val (.ref b19), .unset] [])) _
    refine XS.iconst X0.here hx rfl (hb hby at_240) ?_
    exact kt
theorem own_ch (vs ve vo vc xs xe xo xc : Int32) : (if xs = vs then (if xe = ve then (if xo = vo then (if xc = vc then (1 : Int32) else (0 : Int32)) else (0 : Int32)) else (0 : Int32)) else (0 : Int32)) = (if vs = xs then (if ve = xe then (if vo = xo then (if vc = xc then (1 : Int32) else (0 : Int32)) else (0 : Int32)) else (0 : Int32)) else (0 : Int32)) := by
  repeat' split
  all_goals first | rfl | (exfalso; simp_all; done)
theorem pdm_3 : parseMethodDescriptor "(I)I" = some ⟨[.int], some .int⟩ := by decide +kernel
theorem pdm_4 : parseMethodDescriptor "(IIII)V" = some ⟨[.int, .int, .int, .int], none⟩ := by decide +kernel
theorem pdm_5 : parseMethodDescriptor "(I)Ljava/lang/Integer;" = some ⟨[.int], some (.object "java/lang/Integer")⟩ := by decide +kernel
theorem pdm_6 : parseMethodDescriptor "(Ljava/lang/Object;)Z" = some ⟨[(.object "java/lang/Object")], some .boolean⟩ := by decide +kernel
theorem ef_rm0_0 (m : MethodId) (p1 : Int32) (p2 : Int32) (p3 : Int32) (p4 : Int32) (p5 : Int32) (p6 : Int32) : entryFrame m #[(.int p1), (.int p2), (.int p3), (.int p4), (.int p5), (.int p6)] maxLocals = mkF m 0 #[.val (.int p1), .val (.int p2), .val (.int p3), .val (.int p4), .val (.int p5), .val (.int p6), .unset, .unset, .unset, .unset, .unset, .unset, .unset, .unset, .unset, .unset, .unset, .unset, .unset, .unset, .unset] [] := by first | (simp [entryFrame, mkF, argsToLocals, Value.category, maxLocals]; done) | rfl
set_option maxRecDepth 65536 in
set_option maxHeartbeats 40000000 in
theorem rm0_0 (l : Launch) (Z : State) (a0 : Array Value) (hw : ∀ d ∈ tables_1, d.before a0 Z = true) (ws : List Jvm.Cond) (p1 : Int32) (p2 : Int32) (p3 : Int32) (p4 : Int32) (p5 : Int32) (p6 : Int32) (vs : Int32) (ve : Int32) (vo : Int32) (vc : Int32) (vr : Int32) (kk : Int32) (md : Int32) (xs : Int32) (xe : Int32) (xo : Int32) (xc : Int32) (z : Int32) (w_c : Addr) (cl : Cell) (val : Int32 → Value) (h0 : Heap) (n0 : Nat) (Z0 : n0 ≤ h0.size) (h_vs : vs = (if p1 < (1 : Int32) then (-1 : Int32) else p1)) (h_ve : ve = (if p2 < (1 : Int32) then (-1 : Int32) else p2)) (h_vo : vo = (if p3 < (1 : Int32) then (-1 : Int32) else p3)) (h_vc : vc = (if p4 < (1 : Int32) then (-1 : Int32) else p4)) (h_vr : vr = (if p6 < (1 : Int32) then (-1 : Int32) else p6)) (hkk : (p5 &&& (15 : Int32)) = kk) (hmd : (((p5.toUInt32 >>> ((4 : Int32) &&& 31).toUInt32).toInt32) &&& (3 : Int32)) = md) (h_xs : xs = (if (kk &&& (1 : Int32)) = (0 : Int32) then vs else vr)) (h_xe : xe = (if (kk &&& (2 : Int32)) = (0 : Int32) then ve else vr)) (h_xo : xo = (if (kk &&& (4 : Int32)) = (0 : Int32) then vo else vr)) (h_xc : xc = (if (kk &&& (8 : Int32)) = (0 : Int32) then vc else vr)) (hp_vs : vs < (1 : Int32) → vs = (-1 : Int32)) (hp_ve : ve < (1 : Int32) → ve = (-1 : Int32)) (hp_vo : vo < (1 : Int32) → vo = (-1 : Int32)) (hp_vc : vc < (1 : Int32) → vc = (-1 : Int32)) (hp_xs : xs < (1 : Int32) → xs = (-1 : Int32)) (hp_xe : xe < (1 : Int32) → xe = (-1 : Int32)) (hp_xo : xo < (1 : Int32) → xo = (-1 : Int32)) (hp_xc : xc < (1 : Int32) → xc = (-1 : Int32)) (hz1 : z = (if vs = xs then (if ve = xe then (if vo = xo then (if vc = xc then (1 : Int32) else (0 : Int32)) else (0 : Int32)) else (0 : Int32)) else (0 : Int32))) (hz2 : z = (if xs = vs then (if xe = ve then (if xo = vo then (if xc = vc then (1 : Int32) else (0 : Int32)) else (0 : Int32)) else (0 : Int32)) else (0 : Int32))) (S_high : Sta Z h0 "java/lang/Integer$IntegerCache" "high" "I" (.int (127 : Int32))) (S_cache : Sta Z h0 "java/lang/Integer$IntegerCache" "cache" "[Ljava/lang/Integer;" (.ref w_c)) (Bx : Bxs Z w_c cl "java/lang/Integer" "I" (256 : Int32) val) (EZ : Ext Z.heap h0) (hm1 : md = (1 : Int32)) :
    MetFree l x (head1 (Jvm.Cond.code x code maxLocals ret :: ws) room_1) (fun a U => a = #[(.int p1), (.int p2), (.int p3), (.int p4), (.int p5), (.int p6)] ∧ Z.Warmed39 U.vm ∧ U.heap = h0) (fun _ _ _ _ _ => True) (fun _ U o U' => ∃ v L, o = .returned v ∧ QL (.int (1 : Int32)) n0 v U'.heap L ∧ ReturnedEndW U o U' L room_1.cells room_1.slots) := by
  refine MetFree.of_bodySF (plainFor_of_name pnm_0) hisR ?_
  intro p e s m args below meth c s₁ Bd hml0 hP hK
  obtain ⟨rfl, hZ, hh⟩ := hP
  have hx := Bd.exec
  have hby := Bd.bytes
  have hml : c.maxLocals = 21 := hml0
  have hown : s.vm.findClass "com/example/segmentwise/segmentwise/model/LocationEqualsPinLaw" = some m.cls := findClass_of_methodNamed Bd.named
  have hnm := (name_of_methodNamed Bd.named Bd.method).1
  have X0 : Stand p l e room_1 s m #[(.int p1), (.int p2), (.int p3), (.int p4), (.int p5), (.int p6)] below meth c s₁ [] 0 0 := Stand.of_body Bd
  have e0 : s₁.heap = h0 := by rw [← hh, Bd.state]; rfl
  have N0 := Fr.nil n0
  have pre0 : ∀ t, Steps p.tables e below (s₁.setTop (mkF m 0 #[.val (.int p1), .val (.int p2), .val (.int p3), .val (.int p4), .val (.int p5), .val (.int p6), .unset, .unset, .unset, .unset, .unset, .unset, .unset, .unset, .unset, .unset, .unset, .unset, .unset, .unset, .unset] [])) t → Steps p.tables e below (s₁.setTop (entryFrame m #[(.int p1), (.int p2), (.int p3), (.int p4), (.int p5), (.int p6)] maxLocals)) t := fun t k => castTop (ef_rm0_0 m p1 p2 p3 p4 p5 p6) k
  have hS0 : s.Since s.vm 0 := (State.WarmedH.refl s).since 0
  obtain ⟨_, _, ⟨T1, L1, k1, n1⟩, -, X1, ⟨Lc1, hQ1, l1, y1, z1⟩, st1⟩ := Jvm.LawKit.callS X0 hx (y := (⟨"com/example/segmentwise/segmentwise/model/LocationEqualsPinLaw", "pos", "(I)I"⟩ : MethodName)) hown (mvT hZ (hw _ (List.mem_of_getElem? (i := 0) rfl))) (mvT hZ (hw _ (List.mem_of_getElem? (i := 1) rfl))) (mvT hZ (hw _ (List.mem_of_getElem? (i := 2) rfl))) (mvT hZ (hw _ (List.mem_of_getElem? (i := 3) rfl))) (by decide) (backOf (W := 0) (rm1 l Z a0 hw [] p1 h0 n0 Z0 vs h_vs) hZ (hw _ (List.mem_of_getElem? (i := 3) rfl)) (hw _ (List.mem_of_getElem? (i := 2) rfl)) (by decide) (by decide)) (g := (mkF m 1 #[.val (.int p1), .val (.int p2), .val (.int p3), .val (.int p4), .val (.int p5), .val (.int p6), .unset, .unset, .unset, .unset, .unset, .unset, .unset, .unset, .unset, .unset, .unset, .unset, .unset, .unset, .unset] [(.int p1)])) rfl (by rw [hml]; rfl) (argsL := [(.int p1)]) (rest := []) (lenOf pdm_3 rfl) rfl (by show 2 * 0 + _ ≤ _; exact Nat.le_of_eq rfl) (hb hby at_1) (fun _ _ => ⟨rfl, e0, (by decide : 0 + 0 ≤ _), (by decide : 0 + 0 ≤ _)⟩)
  dsimp only [Pt.U, Pt.locs, Pt.cells, Pt.slots] at X1 l1 y1 z1 st1 hQ1
  subst l1 y1 z1
  obtain ⟨rfl, N1q, e1⟩ := hQ1
  have N1 := Fr.app N0 N1q
  obtain ⟨_, _, ⟨T2, L2, k2, n2⟩, -, X2, ⟨Lc2, hQ2, l2, y2, z2⟩, st2⟩ := Jvm.LawKit.callS X1 hx (y := (⟨"com/example/segmentwise/segmentwise/model/LocationEqualsPinLaw", "pos", "(I)I"⟩ : MethodName)) hown (mvT hZ (hw _ (List.mem_of_getElem? (i := 0) rfl))) (mvT hZ (hw _ (List.mem_of_getElem? (i := 1) rfl))) (mvT hZ (hw _ (List.mem_of_getElem? (i := 2) rfl))) (mvT hZ (hw _ (List.mem_of_getElem? (i := 3) rfl))) (by decide) (backOf (W := 0) (rm1 l Z a0 hw [] p2 h0 n0 Z0 ve h_ve) hZ (hw _ (List.mem_of_getElem? (i := 3) rfl)) (hw _ (List.mem_of_getElem? (i := 2) rfl)) (by decide) (by decide)) (g := (mkF m 7 #[.val (.int p1), .val (.int p2), .val (.int p3), .val (.int p4), .val (.int p5), .val (.int p6), .val (.int vs), .unset, .unset, .unset, .unset, .unset, .unset, .unset, .unset, .unset, .unset, .unset, .unset, .unset, .unset] [(.int p2)])) rfl (by rw [hml]; rfl) (argsL := [(.int p2)]) (rest := []) (lenOf pdm_3 rfl) rfl (by show 2 * 0 + _ ≤ _; exact Nat.le_of_eq rfl) (hb hby at_7) (fun _ _ => ⟨rfl, e1, (by decide : 0 + 0 ≤ _), (by decide : 0 + 0 ≤ _)⟩)
  dsimp only [Pt.U, Pt.locs, Pt.cells, Pt.slots] at X2 l2 y2 z2 st2 hQ2
  subst l2 y2 z2
  obtain ⟨rfl, N2q, e2⟩ := hQ2
  have N2 := Fr.app N1 N2q
  obtain ⟨_, _, ⟨T3, L3, k3, n3⟩, -, X3, ⟨Lc3, hQ3, l3, y3, z3⟩, st3⟩ := Jvm.LawKit.callS X2 hx (y := (⟨"com/example/segmentwise/segmentwise/model/LocationEqualsPinLaw", "pos", "(I)I"⟩ : MethodName)) hown (mvT hZ (hw _ (List.mem_of_getElem? (i := 0) rfl))) (mvT hZ (hw _ (List.mem_of_getElem? (i := 1) rfl))) (mvT hZ (hw _ (List.mem_of_getElem? (i := 2) rfl))) (mvT hZ (hw _ (List.mem_of_getElem? (i := 3) rfl))) (by decide) (backOf (W := 0) (rm1 l Z a0 hw [] p3 h0 n0 Z0 vo h_vo) hZ (hw _ (List.mem_of_getElem? (i := 3) rfl)) (hw _ (List.mem_of_getElem? (i := 2) rfl)) (by decide) (by decide)) (g := (mkF m 13 #[.val (.int p1), .val (.int p2), .val (.int p3), .val (.int p4), .val (.int p5), .val (.int p6), .val (.int vs), .val (.int ve), .unset, .unset, .unset, .unset, .unset, .unset, .unset, .unset, .unset, .unset, .unset, .unset, .unset] [(.int p3)])) rfl (by rw [hml]; rfl) (argsL := [(.int p3)]) (rest := []) (lenOf pdm_3 rfl) rfl (by show 2 * 0 + _ ≤ _; exact Nat.le_of_eq rfl) (hb hby at_13) (fun _ _ => ⟨rfl, e2, (by decide : 0 + 0 ≤ _), (by decide : 0 + 0 ≤ _)⟩)
  dsimp only [Pt.U, Pt.locs, Pt.cells, Pt.slots] at X3 l3 y3 z3 st3 hQ3
  subst l3 y3 z3
  obtain ⟨rfl, N3q, e3⟩ := hQ3
  have N3 := Fr.app N2 N3q
  obtain ⟨_, _, ⟨T4, L4, k4, n4⟩, -, X4, ⟨Lc4, hQ4, l4, y4, z4⟩, st4⟩ := Jvm.LawKit.callS X3 hx (y := (⟨"com/example/segmentwise/segmentwise/model/LocationEqualsPinLaw", "pos", "(I)I"⟩ : MethodName)) hown (mvT hZ (hw _ (List.mem_of_getElem? (i := 0) rfl))) (mvT hZ (hw _ (List.mem_of_getElem? (i := 1) rfl))) (mvT hZ (hw _ (List.mem_of_getElem? (i := 2) rfl))) (mvT hZ (hw _ (List.mem_of_getElem? (i := 3) rfl))) (by decide) (backOf (W := 0) (rm1 l Z a0 hw [] p4 h0 n0 Z0 vc h_vc) hZ (hw _ (List.mem_of_getElem? (i := 3) rfl)) (hw _ (List.mem_of_getElem? (i := 2) rfl)) (by decide) (by decide)) (g := (mkF m 19 #[.val (.int p1), .val (.int p2), .val (.int p3), .val (.int p4), .val (.int p5), .val (.int p6), .val (.int vs), .val (.int ve), .val (.int vo), .unset, .unset, .unset, .unset, .unset, .unset, .unset, .unset, .unset, .unset, .unset, .unset] [(.int p4)])) rfl (by rw [hml]; rfl) (argsL := [(.int p4)]) (rest := []) (lenOf pdm_3 rfl) rfl (by show 2 * 0 + _ ≤ _; exact Nat.le_of_eq rfl) (hb hby at_19) (fun _ _ => ⟨rfl, e3, (by decide : 0 + 0 ≤ _), (by decide : 0 + 0 ≤ _)⟩)
  dsimp only [Pt.U, Pt.locs, Pt.cells, Pt.slots] at X4 l4 y4 z4 st4 hQ4
  subst l4 y4 z4
  obtain ⟨rfl, N4q, e4⟩ := hQ4
  have N4 := Fr.app N3 N4q
  obtain ⟨_, _, ⟨T5, L5, k5, n5⟩, -, X5, ⟨Lc5, hQ5, l5, y5, z5⟩, st5⟩ := Jvm.LawKit.callS X4 hx (y := (⟨"com/example/segmentwise/segmentwise/model/LocationEqualsPinLaw", "pos", "(I)I"⟩ : MethodName)) hown (mvT hZ (hw _ (List.mem_of_getElem? (i := 0) rfl))) (mvT hZ (hw _ (List.mem_of_getElem? (i := 1) rfl))) (mvT hZ (hw _ (List.mem_of_getElem? (i := 2) rfl))) (mvT hZ (hw _ (List.mem_of_getElem? (i := 3) rfl))) (by decide) (backOf (W := 0) (rm1 l Z a0 hw [] p6 h0 n0 Z0 vr h_vr) hZ (hw _ (List.mem_of_getElem? (i := 3) rfl)) (hw _ (List.mem_of_getElem? (i := 2) rfl)) (by decide) (by decide)) (g := (mkF m 26 #[.val (.int p1), .val (.int p2), .val (.int p3), .val (.int p4), .val (.int p5), .val (.int p6), .val (.int vs), .val (.int ve), .val (.int vo), .val (.int vc), .unset, .unset, .unset, .unset, .unset, .unset, .unset, .unset, .unset, .unset, .unset] [(.int p6)])) rfl (by rw [hml]; rfl) (argsL := [(.int p6)]) (rest := []) (lenOf pdm_3 rfl) rfl (by show 2 * 0 + _ ≤ _; exact Nat.le_of_eq rfl) (hb hby at_26) (fun _ _ => ⟨rfl, e4, (by decide : 0 + 0 ≤ _), (by decide : 0 + 0 ≤ _)⟩)
  dsimp only [Pt.U, Pt.locs, Pt.cells, Pt.slots] at X5 l5 y5 z5 st5 hQ5
  subst l5 y5 z5
  obtain ⟨rfl, N5q, e5⟩ := hQ5
  have N5 := Fr.app N4 N5q
  obtain ⟨T6, h6, X6, e6, E6, A6, D6, -, st6⟩ := newO X5 hx hZ hown (hw _ (List.mem_of_getElem? (i := 4) rfl)) (hw _ (List.mem_of_getElem? (i := 5) rfl)) (hw _ (List.mem_of_getElem? (i := 6) rfl)) e5 (g := (mkF m 111 #[.val (.int p1), .val (.int p2), .val (.int p3), .val (.int p4), .val (.int p5), .val (.int p6), .val (.int vs), .val (.int ve), .val (.int vo), .val (.int vc), .val (.int vr), .val (.int kk), .val (.int md), .val (.int xs), .val (.int xe), .val (.int xo), .val (.int xc), .unset, .unset, .unset, .unset] [])) rfl (hb hby at_111) (by decide) (by decide)
  obtain ⟨b6, g6⟩ : ∃ z, z = h0.size := ⟨_, rfl⟩
  rw [← g6] at A6 D6 st6
  have gb6 : n0 ≤ b6 := Nat.le_trans Z0 (Nat.le_of_eq g6.symm)
  have F_segmentPosition_b6 : Fld Z h6 b6 "com/example/segmentwise/segmentwise/model/Location" "segmentPosition" "I" (.int (0 : Int32)) := D6 (Or.inr (hw _ (List.mem_of_getElem? (i := 25) rfl))) (ty := .int) (by decide)
  have F_elementPosition_b6 : Fld Z h6 b6 "com/example/segmentwise/segmentwise/model/Location" "elementPosition" "I" (.int (0 : Int32)) := D6 (Or.inr (hw _ (List.mem_of_getElem? (i := 28) rfl))) (ty := .int) (by decide)
  have F_elementOccurrence_b6 : Fld Z h6 b6 "com/example/segmentwise/segmentwise/model/Location" "elementOccurrence" "I" (.int (0 : Int32)) := D6 (Or.inr (hw _ (List.mem_of_getElem? (i := 31) rfl))) (ty := .int) (by decide)
  have F_componentPosition_b6 : Fld Z h6 b6 "com/example/segmentwise/segmentwise/model/Location" "componentPosition" "I" (.int (0 : Int32)) := D6 (Or.inr (hw _ (List.mem_of_getElem? (i := 34) rfl))) (ty := .int) (by decide)
  obtain ⟨_, _, ⟨T7, L7, k7, n7⟩, -, X7, hs7, hge7, ⟨Lc7, hQ7, l7, y7, z7⟩, st7⟩ := X6.specialBackS hx (y := (⟨"com/example/segmentwise/segmentwise/model/Location", "<init>", "(IIII)V"⟩ : MethodName)) rfl hown (mvT hZ (hw _ (List.mem_of_getElem? (i := 7) rfl))) (mvT hZ (hw _ (List.mem_of_getElem? (i := 8) rfl))) (mvT hZ (hw _ (List.mem_of_getElem? (i := 9) rfl))) (by decide) (backOfS (W := 1) (rm2 l Z a0 hw [] b6 vs ve vo vc _ _ _ _ h6 n0 (Nat.le_trans Z0 E6.1) A6 F_segmentPosition_b6 F_elementPosition_b6 F_elementOccurrence_b6 F_componentPosition_b6 gb6 hp_vs hp_ve hp_vo hp_vc) hZ (hw _ (List.mem_of_getElem? (i := 9) rfl)) (hw _ (List.mem_of_getElem? (i := 6) rfl)) (by decide) (by decide)) (g := (mkF m 123 #[.val (.int p1), .val (.int p2), .val (.int p3), .val (.int p4), .val (.int p5), .val (.int p6), .val (.int vs), .val (.int ve), .val (.int vo), .val (.int vc), .val (.int vr), .val (.int kk), .val (.int md), .val (.int xs), .val (.int xe), .val (.int xo), .val (.int xc), .unset, .unset, .unset, .unset] [(.int vc), (.int vo), (.int ve), (.int vs), (.ref b6), (.ref b6)])) rfl (by rw [hml]; rfl) (Steps.refl _) (a := b6) (argsL := [(.int vs), (.int ve), (.int vo), (.int vc)]) (rest := [(.ref b6)]) (lenOf pdm_4 rfl) rfl (by show 2 * 0 + _ ≤ _; exact Nat.le_of_eq rfl) (hb hby at_123) (fun _ _ => ⟨rfl, e6, (by decide : 1 + 8 ≤ _), (by decide : 4 + 288 ≤ _)⟩)
  dsimp only [Pt.U, Pt.locs, Pt.cells, Pt.slots] at X7 hs7 hge7 l7 y7 z7 st7 hQ7
  subst l7 y7 z7
  obtain ⟨rfl, N7q, K7, A7c, F7a, F7b, F7c, F7d⟩ := hQ7
  obtain ⟨X7w, hS7, hZ7, hown7⟩ := rebS (s := s) (vm0 := s.vm) hS0 (by rw [e6]; exact (Nat.le_trans (Nat.zero_le _) E6.1)) X7 hs7 hge7 hZ hown
  have Ec7 := own_extK E6 g6 K7
  have N7 := Fr.app N5 N7q
  obtain ⟨T8, h8, X8, e8, E8, A8, D8, -, st8⟩ := newO X7w hx hZ7 hown7 (hw _ (List.mem_of_getElem? (i := 4) rfl)) (hw _ (List.mem_of_getElem? (i := 5) rfl)) (hw _ (List.mem_of_getElem? (i := 6) rfl)) rfl (g := (mkF m 128 #[.val (.int p1), .val (.int p2), .val (.int p3), .val (.int p4), .val (.int p5), .val (.int p6), .val (.int vs), .val (.int ve), .val (.int vo), .val (.int vc), .val (.int vr), .val (.int kk), .val (.int md), .val (.int xs), .val (.int xe), .val (.int xo), .val (.int xc), .val (.ref b6), .unset, .unset, .unset] [])) rfl (hb hby at_128) (by decide) (by decide)
  obtain ⟨b8, g8⟩ : ∃ z, z = T7.heap.size := ⟨_, rfl⟩
  rw [← g8] at A8 D8 st8
  have gb8 : n0 ≤ b8 := Nat.le_trans (Nat.le_trans Z0 Ec7.1) (Nat.le_of_eq g8.symm)
  have F_segmentPosition_b8 : Fld Z h8 b8 "com/example/segmentwise/segmentwise/model/Location" "segmentPosition" "I" (.int (0 : Int32)) := D8 (Or.inr (hw _ (List.mem_of_getElem? (i := 25) rfl))) (ty := .int) (by decide)
  have F_elementPosition_b8 : Fld Z h8 b8 "com/example/segmentwise/segmentwise/model/Location" "elementPosition" "I" (.int (0 : Int32)) := D8 (Or.inr (hw _ (List.mem_of_getElem? (i := 28) rfl))) (ty := .int) (by decide)
  have F_elementOccurrence_b8 : Fld Z h8 b8 "com/example/segmentwise/segmentwise/model/Location" "elementOccurrence" "I" (.int (0 : Int32)) := D8 (Or.inr (hw _ (List.mem_of_getElem? (i := 31) rfl))) (ty := .int) (by decide)
  have F_componentPosition_b8 : Fld Z h8 b8 "com/example/segmentwise/segmentwise/model/Location" "componentPosition" "I" (.int (0 : Int32)) := D8 (Or.inr (hw _ (List.mem_of_getElem? (i := 34) rfl))) (ty := .int) (by decide)
  have hne12 : ¬ b6 = b8 := Nat.ne_of_lt (Nat.lt_of_lt_of_le A7c.lt (Nat.le_of_eq g8.symm))
  obtain ⟨_, _, ⟨T9, L9, k9, n9⟩, -, X9, hs9, hge9, ⟨Lc9, hQ9, l9, y9, z9⟩, st9⟩ := X8.specialBackS hx (y := (⟨"com/example/segmentwise/segmentwise/model/Location", "<init>", "(IIII)V"⟩ : MethodName)) rfl hown7 (mvT hZ7 (hw _ (List.mem_of_getElem? (i := 7) rfl))) (mvT hZ7 (hw _ (List.mem_of_getElem? (i := 8) rfl))) (mvT hZ7 (hw _ (List.mem_of_getElem? (i := 9) rfl))) (by decide) (backOfS (W := 1) (rm2 l Z a0 hw [] b8 xs xe xo xc _ _ _ _ h8 n0 (Nat.le_trans (Nat.le_trans Z0 Ec7.1) E8.1) A8 F_segmentPosition_b8 F_elementPosition_b8 F_elementOccurrence_b8 F_componentPosition_b8 gb8 hp_xs hp_xe hp_xo hp_xc) hZ7 (hw _ (List.mem_of_getElem? (i := 9) rfl)) (hw _ (List.mem_of_getElem? (i := 6) rfl)) (by decide) (by decide)) (g := (mkF m 140 #[.val (.int p1), .val (.int p2), .val (.int p3), .val (.int p4), .val (.int p5), .val (.int p6), .val (.int vs), .val (.int ve), .val (.int vo), .val (.int vc), .val (.int vr), .val (.int kk), .val (.int md), .val (.int xs), .val (.int xe), .val (.int xo), .val (.int xc), .val (.ref b6), .unset, .unset, .unset] [(.int xc), (.int xo), (.int xe), (.int xs), (.ref b8), (.ref b8)])) rfl (by rw [hml]; rfl) (Steps.refl _) (a := b8) (argsL := [(.int xs), (.int xe), (.int xo), (.int xc)]) (rest := [(.ref b8)]) (lenOf pdm_4 rfl) rfl (by show 2 * 0 + _ ≤ _; exact Nat.le_of_eq rfl) (hb hby at_140) (fun _ _ => ⟨rfl, e8, (by decide : 10 + 8 ≤ _), (by decide : 296 + 288 ≤ _)⟩)
  dsimp only [Pt.U, Pt.locs, Pt.cells, Pt.slots] at X9 hs9 hge9 l9 y9 z9 st9 hQ9
  subst l9 y9 z9
  obtain ⟨rfl, N9q, K9, A9c, F9a, F9b, F9c, F9d⟩ := hQ9
  obtain ⟨X9w, hS9, hZ9, hown9⟩ := rebS (s := s) (vm0 := T7.vm) hS7 (by rw [e8]; exact (Nat.le_trans (Nat.le_refl _) E8.1)) X9 hs9 hge9 hZ7 hown7
  have Ec9 := own_extK E8 g8 K9
  have N9 := Fr.app N7 N9q
  obtain ⟨_, _, ⟨T10, L10, k10, n10⟩, -, X10, ⟨Lc10, hQ10, l10, y10, z10⟩, st10⟩ := Jvm.LawKit.callS X9w hx (y := (⟨"java/lang/Integer", "valueOf", "(I)Ljava/lang/Integer;"⟩ : MethodName)) hown9 (mvT hZ9 (hw _ (List.mem_of_getElem? (i := 35) rfl))) (mvT hZ9 (hw _ (List.mem_of_getElem? (i := 36) rfl))) (mvT hZ9 (hw _ (List.mem_of_getElem? (i := 37) rfl))) (mvT hZ9 (hw _ (List.mem_of_getElem? (i := 38) rfl))) (by decide) (backOf (W := 0) (rm5 l Z a0 hw [] p1 w_c cl val T9.heap n0 (Nat.le_trans (Nat.le_trans Z0 Ec7.1) Ec9.1) ((S_high.ext Ec7).ext Ec9) ((S_cache.ext Ec7).ext Ec9) Bx (own_ext_trans EZ (own_ext_trans Ec7 Ec9))) hZ9 (hw _ (List.mem_of_getElem? (i := 38) rfl)) (hw _ (List.mem_of_getElem? (i := 37) rfl)) (by decide) (by decide)) (g := (mkF m 146 #[.val (.int p1), .val (.int p2), .val (.int p3), .val (.int p4), .val (.int p5), .val (.int p6), .val (.int vs), .val (.int ve), .val (.int vo), .val (.int vc), .val (.int vr), .val (.int kk), .val (.int md), .val (.int xs), .val (.int xe), .val (.int xo), .val (.int xc), .val (.ref b6), .val (.ref b8), .unset, .unset] [(.int p1)])) rfl (by rw [hml]; rfl) (argsL := [(.int p1)]) (rest := []) (lenOf pdm_5 rfl) rfl (by show 2 * 0 + _ ≤ _; exact Nat.le_of_eq rfl) (hb hby at_146) (fun _ _ => ⟨rfl, rfl, (by decide : 18 + 1 ≤ _), (by decide : 584 + 1 ≤ _)⟩)
  dsimp only [Pt.U, Pt.locs, Pt.cells, Pt.slots] at X10 l10 y10 z10 st10 hQ10
  subst l10 y10 z10
  obtain ⟨b10, rfl, N10q, Ex10, A10⟩ := hQ10
  have N10 := Fr.app N9 N10q
  obtain ⟨cq11, kq11, q11a, q11b, q11c⟩ := isOf hZ9 rfl ((A7c.ext Ec9).ext Ex10)
  obtain ⟨_, _, ⟨T11, L11, k11, n11⟩, -, X11, ⟨Lc11, hQ11, l11, y11, z11⟩, st11⟩ := X10.virtualBack hx (y := (⟨"com/example/segmentwise/segmentwise/model/Location", "equals", "(Ljava/lang/Object;)Z"⟩ : MethodName)) (z := (⟨"com/example/segmentwise/segmentwise/model/Location", "equals", "(Ljava/lang/Object;)Z"⟩ : MethodName)) hown9 (mvT hZ9 (hw _ (List.mem_of_getElem? (i := 42) rfl))) (mvT hZ9 (hw _ (List.mem_of_getElem? (i := 43) rfl))) (notFace_of_selects (args := #[]) (mvT hZ9 (hw _ (List.mem_of_getElem? (i := 45) rfl)))) (mvT hZ9 (hw _ (List.mem_of_getElem? (i := 45) rfl))) (mvT hZ9 (hw _ (List.mem_of_getElem? (i := 44) rfl))) (by decide) (backOf (W := 0) (rm6s l Z a0 hw [] b6 b6 T10.heap n0 (Nat.le_trans (Nat.le_trans (Nat.le_trans Z0 Ec7.1) Ec9.1) Ex10.1) rfl (1 : Int32) rfl) hZ9 (hw _ (List.mem_of_getElem? (i := 46) rfl)) (hw _ (List.mem_of_getElem? (i := 6) rfl)) (by decide) (by decide)) q11a q11c (g := (mkF m 161 #[.val (.int p1), .val (.int p2), .val (.int p3), .val (.int p4), .val (.int p5), .val (.int p6), .val (.int vs), .val (.int ve), .val (.int vo), .val (.int vc), .val (.int vr), .val (.int kk), .val (.int md), .val (.int xs), .val (.int xe), .val (.int xo), .val (.int xc), .val (.ref b6), .val (.ref b8), .val (.ref b10), .unset] [(.ref b6), (.ref b6)])) rfl (by rw [hml]; rfl) (Steps.refl _) (argsL := [(.ref b6)]) (rest := []) (lenOf pdm_6 rfl) rfl (by show 2 * 0 + _ ≤ _; exact Nat.le_of_eq rfl) (hb hby at_161) (fun _ _ => ⟨rfl, rfl, (by decide : 19 + 0 ≤ _), (by decide : 585 + 0 ≤ _)⟩)
  dsimp only [Pt.U, Pt.locs, Pt.cells, Pt.slots] at X11 l11 y11 z11 st11 hQ11
  subst l11 y11 z11
  obtain ⟨rfl, N11q, e11⟩ := hQ11
  have N11 := Fr.app N10 N11q
  obtain ⟨fs, hr, hrun, hended, hEW⟩ := X11.leaveW hS9 (by rw [e11]; exact (Nat.le_trans (Nat.le_refl _) Ex10.1)) (v := some (.int (1 : Int32))) (fun h => by rw [Bd.returns] at h; cases h)
  refine ⟨_, _, pre0 _ ?_, hrun, hended, _, _, rfl, ?_, hEW.1, hEW.2.1, hEW.2.2.1, hEW.2.2.2.mono (by decide) (by decide)⟩
  · show Steps p.tables e below (s₁.setTop (mkF m 0 #[.val (.int p1), .val (.int p2), .val (.int p3), .val (.int p4), .val (.int p5), .val (.int p6), .unset, .unset, .unset, .unset, .unset, .unset, .unset, .unset, .unset, .unset, .unset, .unset, .unset, .unset, .unset] [])) _
    refine XS.iloadN X0.here hx rfl (hb hby at_0) rfl ?_
    show Steps p.tables e below (s₁.setTop (mkF m 1 #[.val (.int p1), .val (.int p2), .val (.int p3), .val (.int p4), .val (.int p5), .val (.int p6), .unset, .unset, .unset, .unset, .unset, .unset, .unset, .unset, .unset, .unset, .unset, .unset, .unset, .unset, .unset] [(.int p1)])) _
    refine st1 _ ?_
    show Steps p.tables e below (T1.setTop (mkF m 4 #[.val (.int p1), .val (.int p2), .val (.int p3), .val (.int p4), .val (.int p5), .val (.int p6), .unset, .unset, .unset, .unset, .unset, .unset, .unset, .unset, .unset, .unset, .unset, .unset, .unset, .unset, .unset] [(.int vs)])) _
    refine XS.istore X1.here hx rfl (hb hby at_4) rfl (l' := #[.val (.int p1), .val (.int p2), .val (.int p3), .val (.int p4), .val (.int p5), .val (.int p6), .val (.int vs), .unset, .unset, .unset, .unset, .unset, .unset, .unset, .unset, .unset, .unset, .unset, .unset, .unset, .unset]) rfl ?_
    show Steps p.tables e below (T1.setTop (mkF m 6 #[.val (.int p1), .val (.int p2), .val (.int p3), .val (.int p4), .val (.int p5), .val (.int p6), .val (.int vs), .unset, .unset, .unset, .unset, .unset, .unset, .unset, .unset, .unset, .unset, .unset, .unset, .unset, .unset] [])) _
    refine XS.iloadN X1.here hx rfl (hb hby at_6) rfl ?_
    show Steps p.tables e below (T1.setTop (mkF m 7 #[.val (.int p1), .val (.int p2), .val (.int p3), .val (.int p4), .val (.int p5), .val (.int p6), .val (.int vs), .unset, .unset, .unset, .unset, .unset, .unset, .unset, .unset, .unset, .unset, .unset, .unset, .unset, .unset] [(.int p2)])) _
    refine st2 _ ?_
    show Steps p.tables e below (T2.setTop (mkF m 10 #[.val (.int p1), .val (.int p2), .val (.int p3), .val (.int p4), .val (.int p5), .val (.int p6), .val (.int vs), .unset, .unset, .unset, .unset, .unset, .unset, .unset, .unset, .unset, .unset, .unset, .unset, .unset, .unset] [(.int ve)])) _
    refine XS.istore X2.here hx rfl (hb hby at_10) rfl (l' := #[.val (.int p1), .val (.int p2), .val (.int p3), .val (.int p4), .val (.int p5), .val (.int p6), .val (.int vs), .val (.int ve), .unset, .unset, .unset, .unset, .unset, .unset, .unset, .unset, .unset, .unset, .unset, .unset, .unset]) rfl ?_
    show Steps p.tables e below (T2.setTop (mkF m 12 #[.val (.int p1), .val (.int p2), .val (.int p3), .val (.int p4), .val (.int p5), .val (.int p6), .val (.int vs), .val (.int ve), .unset, .unset, .unset, .unset, .unset, .unset, .unset, .unset, .unset, .unset, .unset, .unset, .unset] [])) _
    refine XS.iloadN X2.here hx rfl (hb hby at_12) rfl ?_
    show Steps p.tables e below (T2.setTop (mkF m 13 #[.val (.int p1), .val (.int p2), .val (.int p3), .val (.int p4), .val (.int p5), .val (.int p6), .val (.int vs), .val (.int ve), .unset, .unset, .unset, .unset, .unset, .unset, .unset, .unset, .unset, .unset, .unset, .unset, .unset] [(.int p3)])) _
    refine st3 _ ?_
    show Steps p.tables e below (T3.setTop (mkF m 16 #[.val (.int p1), .val (.int p2), .val (.int p3), .val (.int p4), .val (.int p5), .val (.int p6), .val (.int vs), .val (.int ve), .unset, .unset, .unset, .unset, .unset, .unset, .unset, .unset, .unset, .unset, .unset, .unset, .unset] [(.int vo)])) _
    refine XS.istore X3.here hx rfl (hb hby at_16) rfl (l' := #[.val (.int p1), .val (.int p2), .val (.int p3), .val (.int p4), .val (.int p5), .val (.int p6), .val (.int vs), .val (.int ve), .val (.int vo), .unset, .unset, .unset, .unset, .unset, .unset, .unset, .unset, .unset, .unset, .unset, .unset]) rfl ?_
    show Steps p.tables e below (T3.setTop (mkF m 18 #[.val (.int p1), .val (.int p2), .val (.int p3), .val (.int p4), .val (.int p5), .val (.int p6), .val (.int vs), .val (.int ve), .val (.int vo), .unset, .unset, .unset, .unset, .unset, .unset, .unset, .unset, .unset, .unset, .unset, .unset] [])) _
    refine XS.iloadN X3.here hx rfl (hb hby at_18) rfl ?_
    show Steps p.tables e below (T3.setTop (mkF m 19 #[.val (.int p1), .val (.int p2), .val (.int p3), .val (.int p4), .val (.int p5), .val (.int p6), .val (.int vs), .val (.int ve), .val (.int vo), .unset, .unset, .unset, .unset, .unset, .unset, .unset, .unset, .unset, .unset, .unset, .unset] [(.int p4)])) _
    refine st4 _ ?_
    show Steps p.tables e below (T4.setTop (mkF m 22 #[.val (.int p1), .val (.int p2), .val (.int p3), .val (.int p4), .val (.int p5), .val (.int p6), .val (.int vs), .val (.int ve), .val (.int vo), .unset, .unset, .unset, .unset, .unset, .unset, .unset, .unset, .unset, .unset, .unset, .unset] [(.int vc)])) _
    refine XS.istore X4.here hx rfl (hb hby at_22) rfl (l' := #[.val (.int p1), .val (.int p2), .val (.int p3), .val (.int p4), .val (.int p5), .val (.int p6), .val (.int vs), .val (.int ve), .val (.int vo), .val (.int vc), .unset, .unset, .unset, .unset, .unset, .unset, .unset, .unset, .unset, .unset, .unset]) rfl ?_
    show Steps p.tables e below (T4.setTop (mkF m 24 #[.val (.int p1), .val (.int p2), .val (.int p3), .val (.int p4), .val (.int p5), .val (.int p6), .val (.int vs), .val (.int ve), .val (.int vo), .val (.int vc), .unset, .unset, .unset, .unset, .unset, .unset, .unset, .unset, .unset, .unset, .unset] [])) _
    refine XS.iload X4.here hx rfl (hb hby at_24) rfl ?_
    show Steps p.tables e below (T4.setTop (mkF m 26 #[.val (.int p1), .val (.int p2), .val (.int p3), .val (.int p4), .val (.int p5), .val (.int p6), .val (.int vs), .val (.int ve), .val (.int vo), .val (.int vc), .unset, .unset, .unset, .unset, .unset, .unset, .unset, .unset, .unset, .unset, .unset] [(.int p6)])) _
    refine st5 _ ?_
    show Steps p.tables e below (T5.setTop (mkF m 29 #[.val (.int p1), .val (.int p2), .val (.int p3), .val (.int p4), .val (.int p5), .val (.int p6), .val (.int vs), .val (.int ve), .val (.int vo), .val (.int vc), .unset, .unset, .unset, .unset, .unset, .unset, .unset, .unset, .unset, .unset, .unset] [(.int vr)])) _
    refine XS.istore X5.here hx rfl (hb hby at_29) rfl (l' := #[.val (.int p1), .val (.int p2), .val (.int p3), .val (.int p4), .val (.int p5), .val (.int p6), .val (.int vs), .val (.int ve), .val (.int vo), .val (.int vc), .val (.int vr), .unset, .unset, .unset, .unset, .unset, .unset, .unset, .unset, .unset, .unset]) rfl ?_
    show Steps p.tables e below (T5.setTop (mkF m 31 #[.val (.int p1), .val (.int p2), .val (.int p3), .val (.int p4), .val (.int p5), .val (.int p6), .val (.int vs), .val (.int ve), .val (.int vo), .val (.int vc), .val (.int vr), .unset, .unset, .unset, .unset, .unset, .unset, .unset, .unset, .unset, .unset] [])) _
    refine XS.iload X5.here hx rfl (hb hby at_31) rfl ?_
    show Steps p.tables e below (T5.setTop (mkF m 33 #[.val (.int p1), .val (.int p2), .val (.int p3), .val (.int p4), .val (.int p5), .val (.int p6), .val (.int vs), .val (.int ve), .val (.int vo), .val (.int vc), .val (.int vr), .unset, .unset, .unset, .unset, .unset, .unset, .unset, .unset, .unset, .unset] [(.int p5)])) _
    refine XS.bipush X5.here hx rfl (hb hby at_33) ?_
    show Steps p.tables e below (T5.setTop (mkF m 35 #[.val (.int p1), .val (.int p2), .val (.int p3), .val (.int p4), .val (.int p5), .val (.int p6), .val (.int vs), .val (.int ve), .val (.int vo), .val (.int vc), .val (.int vr), .unset, .unset, .unset, .unset, .unset, .unset, .unset, .unset, .unset, .unset] [(.int (15 : Int32)), (.int p5)])) _
    refine XS.iand X5.here hx rfl (hb hby at_35) rfl ?_
    show Steps p.tables e below (T5.setTop (mkF m 36 #[.val (.int p1), .val (.int p2), .val (.int p3), .val (.int p4), .val (.int p5), .val (.int p6), .val (.int vs), .val (.int ve), .val (.int vo), .val (.int vc), .val (.int vr), .unset, .unset, .unset, .unset, .unset, .unset, .unset, .unset, .unset, .unset] [(.int (p5 &&& (15 : Int32)))])) _
    rw [hkk]
    show Steps p.tables e below (T5.setTop (mkF m 36 #[.val (.int p1), .val (.int p2), .val (.int p3), .val (.int p4), .val (.int p5), .val (.int p6), .val (.int vs), .val (.int ve), .val (.int vo), .val (.int vc), .val (.int vr), .unset, .unset, .unset, .unset, .unset, .unset, .unset, .unset, .unset, .unset] [(.int kk)])) _
    refine XS.istore X5.here hx rfl (hb hby at_36) rfl (l' := #[.val (.int p1), .val (.int p2), .val (.int p3), .val (.int p4), .val (.int p5), .val (.int p6), .val (.int vs), .val (.int ve), .val (.int vo), .val (.int vc), .val (.int vr), .val (.int kk), .unset, .unset, .unset, .unset, .unset, .unset, .unset, .unset, .unset]) rfl ?_
    show Steps p.tables e below (T5.setTop (mkF m 38 #[.val (.int p1), .val (.int p2), .val (.int p3), .val (.int p4), .val (.int p5), .val (.int p6), .val (.int vs), .val (.int ve), .val (.int vo), .val (.int vc), .val (.int vr), .val (.int kk), .unset, .unset, .unset, .unset, .unset, .unset, .unset, .unset, .unset] [])) _
    refine XS.iload X5.here hx rfl (hb hby at_38) rfl ?_
    show Steps p.tables e below (T5.setTop (mkF m 40 #[.val (.int p1), .val (.int p2), .val (.int p3), .val (.int p4), .val (.int p5), .val (.int p6), .val (.int vs), .val (.int ve), .val (.int vo), .val (.int vc), .val (.int vr), .val (.int kk), .unset, .unset, .unset, .unset, .unset, .unset, .unset, .unset, .unset] [(.int p5)])) _
    refine XS.iconst X5.here hx rfl (hb hby at_40) ?_
    show Steps p.tables e below (T5.setTop (mkF m 41 #[.val (.int p1), .val (.int p2), .val (.int p3), .val (.int p4), .val (.int p5), .val (.int p6), .val (.int vs), .val (.int ve), .val (.int vo), .val (.int vc), .val (.int vr), .val (.int kk), .unset, .unset, .unset, .unset, .unset, .unset, .unset, .unset, .unset] [(.int (4 : Int32)), (.int p5)])) _
    refine XS.iushr X5.here hx rfl (hb hby at_41) rfl ?_
    show Steps p.tables e below (T5.setTop (mkF m 42 #[.val (.int p1), .val (.int p2), .val (.int p3), .val (.int p4), .val (.int p5), .val (.int p6), .val (.int vs), .val (.int ve), .val (.int vo), .val (.int vc), .val (.int vr), .val (.int kk), .unset, .unset, .unset, .unset, .unset, .unset, .unset, .unset, .unset] [(.int ((p5.toUInt32 >>> ((4 : Int32) &&& 31).toUInt32).toInt32))])) _
    refine XS.iconst X5.here hx rfl (hb hby at_42) ?_
    show Steps p.tables e below (T5.setTop (mkF m 43 #[.val (.int p1), .val (.int p2), .val (.int p3), .val (.int p4), .val (.int p5), .val (.int p6), .val (.int vs), .val (.int ve), .val (.int vo), .val (.int vc), .val (.int vr), .val (.int kk), .unset, .unset, .unset, .unset, .unset, .unset, .unset, .unset, .unset] [(.int (3 : Int32)), (.int ((p5.toUInt32 >>> ((4 : Int32) &&& 31).toUInt32).toInt32))])) _
    refine XS.iand X5.here hx rfl (hb hby at_43) rfl ?_
    show Steps p.tables e below (T5.setTop (mkF m 44 #[.val (.int p1), .val (.int p2), .val (.int p3), .val (.int p4), .val (.int p5), .val (.int p6), .val (.int vs), .val (.int ve), .val (.int vo), .val (.int vc), .val (.int vr), .val (.int kk), .unset, .unset, .unset, .unset, .unset, .unset, .unset, .unset, .unset] [(.int (((p5.toUInt32 >>> ((4 : Int32) &&& 31).toUInt32).toInt32) &&& (3 : Int32)))])) _
    rw [hmd]
    show Steps p.tables e below (T5.setTop (mkF m 44 #[.val (.int p1), .val (.int p2), .val (.int p3), .val (.int p4), .val (.int p5), .val (.int p6), .val (.int vs), .val (.int ve), .val (.int vo), .val (.int vc), .val (.int vr), .val (.int kk), .unset, .unset, .unset, .unset, .unset, .unset, .unset, .unset, .unset] [(.int md)])) _
    refine XS.istore X5.here hx rfl (hb hby at_44) rfl (l' := #[.val (.int p1), .val (.int p2), .val (.int p3), .val (.int p4), .val (.int p5), .val (.int p6), .val (.int vs), .val (.int ve), .val (.int vo), .val (.int vc), .val (.int vr), .val (.int kk), .val (.int md), .unset, .unset, .unset, .unset, .unset, .unset, .unset, .unset]) rfl ?_
    show Steps p.tables e below (T5.setTop (mkF m 46 #[.val (.int p1), .val (.int p2), .val (.int p3), .val (.int p4), .val (.int p5), .val (.int p6), .val (.int vs), .val (.int ve), .val (.int vo), .val (.int vc), .val (.int vr), .val (.int kk), .val (.int md), .unset, .unset, .unset, .unset, .unset, .unset, .unset, .unset] [])) _
    refine own_j46 p1 p2 p3 p4 p5 p6 vs ve vo vc vr kk md xs h_xs X5 hx hby _ ?_
    show Steps p.tables e below (T5.setTop (mkF m 62 #[.val (.int p1), .val (.int p2), .val (.int p3), .val (.int p4), .val (.int p5), .val (.int p6), .val (.int vs), .val (.int ve), .val (.int vo), .val (.int vc), .val (.int vr), .val (.int kk), .val (.int md), .val (.int xs), .unset, .unset, .unset, .unset, .unset, .unset, .unset] [])) _
    refine own_j62 p1 p2 p3 p4 p5 p6 vs ve vo vc vr kk md xs xe h_xe X5 hx hby _ ?_
    show Steps p.tables e below (T5.setTop (mkF m 78 #[.val (.int p1), .val (.int p2), .val (.int p3), .val (.int p4), .val (.int p5), .val (.int p6), .val (.int vs), .val (.int ve), .val (.int vo), .val (.int vc), .val (.int vr), .val (.int kk), .val (.int md), .val (.int xs), .val (.int xe), .unset, .unset, .unset, .unset, .unset, .unset] [])) _
    refine own_j78 p1 p2 p3 p4 p5 p6 vs ve vo vc vr kk md xs xe xo h_xo X5 hx hby _ ?_
    show Steps p.tables e below (T5.setTop (mkF m 94 #[.val (.int p1), .val (.int p2), .val (.int p3), .val (.int p4), .val (.int p5), .val (.int p6), .val (.int vs), .val (.int ve), .val (.int vo), .val (.int vc), .val (.int vr), .val (.int kk), .val (.int md), .val (.int xs), .val (.int xe), .val (.int xo), .unset, .unset, .unset, .unset, .unset] [])) _
    refine own_j94 p1 p2 p3 p4 p5 p6 vs ve vo vc vr kk md xs xe xo xc h_xc X5 hx hby _ ?_
    show Steps p.tables e below (T5.setTop (mkF m 111 #[.val (.int p1), .val (.int p2), .val (.int p3), .val (.int p4), .val (.int p5), .val (.int p6), .val (.int vs), .val (.int ve), .val (.int vo), .val (.int vc), .val (.int vr), .val (.int kk), .val (.int md), .val (.int xs), .val (.int xe), .val (.int xo), .val (.int xc), .unset, .unset, .unset, .unset] [])) _
    refine st6 _ ?_
    show Steps p.tables e below (T6.setTop (mkF m 114 #[.val (.int p1), .val (.int p2), .val (.int p3), .val (.int p4), .val (.int p5), .val (.int p6), .val (.int vs), .val (.int ve), .val (.int vo), .val (.int vc), .val (.int vr), .val (.int kk), .val (.int md), .val (.int xs), .val (.int xe), .val (.int xo), .val (.int xc), .unset, .unset, .unset, .unset] [(.ref b6)])) _
    refine XS.dup X6.here hx rfl (hb hby at_114) rfl rfl ?_
    show Steps p.tables e below (T6.setTop (mkF m 115 #[.val (.int p1), .val (.int p2), .val (.int p3), .val (.int p4), .val (.int p5), .val (.int p6), .val (.int vs), .val (.int ve), .val (.int vo), .val (.int vc), .val (.int vr), .val (.int kk), .val (.int md), .val (.int xs), .val (.int xe), .val (.int xo), .val (.int xc), .unset, .unset, .unset, .unset] [(.ref b6), (.ref b6)])) _
    refine XS.iload X6.here hx rfl (hb hby at_115) rfl ?_
    show Steps p.tables e below (T6.setTop (mkF m 117 #[.val (.int p1), .val (.int p2), .val (.int p3), .val (.int p4), .val (.int p5), .val (.int p6), .val (.int vs), .val (.int ve), .val (.int vo), .val (.int vc), .val (.int vr), .val (.int kk), .val (.int md), .val (.int xs), .val (.int xe), .val (.int xo), .val (.int xc), .unset, .unset, .unset, .unset] [(.int vs), (.ref b6), (.ref b6)])) _
    refine XS.iload X6.here hx rfl (hb hby at_117) rfl ?_
    show Steps p.tables e below (T6.setTop (mkF m 119 #[.val (.int p1), .val (.int p2), .val (.int p3), .val (.int p4), .val (.int p5), .val (.int p6), .val (.int vs), .val (.int ve), .val (.int vo), .val (.int vc), .val (.int vr), .val (.int kk), .val (.int md), .val (.int xs), .val (.int xe), .val (.int xo), .val (.int xc), .unset, .unset, .unset, .unset] [(.int ve), (.int vs), (.ref b6), (.ref b6)])) _
    refine XS.iload X6.here hx rfl (hb hby at_119) rfl ?_
    show Steps p.tables e below (T6.setTop (mkF m 121 #[.val (.int p1), .val (.int p2), .val (.int p3), .val (.int p4), .val (.int p5), .val (.int p6), .val (.int vs), .val (.int ve), .val (.int vo), .val (.int vc), .val (.int vr), .val (.int kk), .val (.int md), .val (.int xs), .val (.int xe), .val (.int xo), .val (.int xc), .unset, .unset, .unset, .unset] [(.int vo), (.int ve), (.int vs), (.ref b6), (.ref b6)])) _
    refine XS.iload X6.here hx rfl (hb hby at_121) rfl ?_
    show Steps p.tables e below (T6.setTop (mkF m 123 #[.val (.int p1), .val (.int p2), .val (.int p3), .val (.int p4), .val (.int p5), .val (.int p6), .val (.int vs), .val (.int ve), .val (.int vo), .val (.int vc), .val (.int vr), .val (.int kk), .val (.int md), .val (.int xs), .val (.int xe), .val (.int xo), .val (.int xc), .unset, .unset, .unset, .unset] [(.int vc), (.int vo), (.int ve), (.int vs), (.ref b6), (.ref b6)])) _
    refine st7.trans ?_
    show Steps p.tables e below (T7.setTop (mkF m 126 #[.val (.int p1), .val (.int p2), .val (.int p3), .val (.int p4), .val (.int p5), .val (.int p6), .val (.int vs), .val (.int ve), .val (.int vo), .val (.int vc), .val (.int vr), .val (.int kk), .val (.int md), .val (.int xs), .val (.int xe), .val (.int xo), .val (.int xc), .unset, .unset, .unset, .unset] [(.ref b6)])) _
    refine XS.astore X7w.here hx rfl (hb hby at_126) rfl rfl (l' := #[.val (.int p1), .val (.int p2), .val (.int p3), .val (.int p4), .val (.int p5), .val (.int p6), .val (.int vs), .val (.int ve), .val (.int vo), .val (.int vc), .val (.int vr), .val (.int kk), .val (.int md), .val (.int xs), .val (.int xe), .val (.int xo), .val (.int xc), .val (.ref b6), .unset, .unset, .unset]) rfl ?_
    show Steps p.tables e below (T7.setTop (mkF m 128 #[.val (.int p1), .val (.int p2), .val (.int p3), .val (.int p4), .val (.int p5), .val (.int p6), .val (.int vs), .val (.int ve), .val (.int vo), .val (.int vc), .val (.int vr), .val (.int kk), .val (.int md), .val (.int xs), .val (.int xe), .val (.int xo), .val (.int xc), .val (.ref b6), .unset, .unset, .unset] [])) _
    refine st8 _ ?_
    show Steps p.tables e below (T8.setTop (mkF m 131 #[.val (.int p1), .val (.int p2), .val (.int p3), .val (.int p4), .val (.int p5), .val (.int p6), .val (.int vs), .val (.int ve), .val (.int vo), .val (.int vc), .val (.int vr), .val (.int kk), .val (.int md), .val (.int xs), .val (.int xe), .val (.int xo), .val (.int xc), .val (.ref b6), .unset, .unset, .unset] [(.ref b8)])) _
    refine XS.dup X8.here hx rfl (hb hby at_131) rfl rfl ?_
    show Steps p.tables e below (T8.setTop (mkF m 132 #[.val (.int p1), .val (.int p2), .val (.int p3), .val (.int p4), .val (.int p5), .val (.int p6), .val (.int vs), .val (.int ve), .val (.int vo), .val (.int vc), .val (.int vr), .val (.int kk), .val (.int md), .val (.int xs), .val (.int xe), .val (.int xo), .val (.int xc), .val (.ref b6), .unset, .unset, .unset] [(.ref b8), (.ref b8)])) _
    refine XS.iload X8.here hx rfl (hb hby at_132) rfl ?_
    show Steps p.tables e below (T8.setTop (mkF m 134 #[.val (.int p1), .val (.int p2), .val (.int p3), .val (.int p4), .val (.int p5), .val (.int p6), .val (.int vs), .val (.int ve), .val (.int vo), .val (.int vc), .val (.int vr), .val (.int kk), .val (.int md), .val (.int xs), .val (.int xe), .val (.int xo), .val (.int xc), .val (.ref b6), .unset, .unset, .unset] [(.int xs), (.ref b8), (.ref b8)])) _
    refine XS.iload X8.here hx rfl (hb hby at_134) rfl ?_
    show Steps p.tables e below (T8.setTop (mkF m 136 #[.val (.int p1), .val (.int p2), .val (.int p3), .val (.int p4), .val (.int p5), .val (.int p6), .val (.int vs), .val (.int ve), .val (.int vo), .val (.int vc), .val (.int vr), .val (.int kk), .val (.int md), .val (.int xs), .val (.int xe), .val (.int xo), .val (.int xc), .val (.ref b6), .unset, .unset, .unset] [(.int xe), (.int xs), (.ref b8), (.ref b8)])) _
    refine XS.iload X8.here hx rfl (hb hby at_136) rfl ?_
    show Steps p.tables e below (T8.setTop (mkF m 138 #[.val (.int p1), .val (.int p2), .val (.int p3), .val (.int p4), .val (.int p5), .val (.int p6), .val (.int vs), .val (.int ve), .val (.int vo), .val (.int vc), .val (.int vr), .val (.int kk), .val (.int md), .val (.int xs), .val (.int xe), .val (.int xo), .val (.int xc), .val (.ref b6), .unset, .unset, .unset] [(.int xo), (.int xe), (.int xs), (.ref b8), (.ref b8)])) _
    refine XS.iload X8.here hx rfl (hb hby at_138) rfl ?_
    show Steps p.tables e below (T8.setTop (mkF m 140 #[.val (.int p1), .val (.int p2), .val (.int p3), .val (.int p4), .val (.int p5), .val (.int p6), .val (.int vs), .val (.int ve), .val (.int vo), .val (.int vc), .val (.int vr), .val (.int kk), .val (.int md), .val (.int xs), .val (.int xe), .val (.int xo), .val (.int xc), .val (.ref b6), .unset, .unset, .unset] [(.int xc), (.int xo), (.int xe), (.int xs), (.ref b8), (.ref b8)])) _
    refine st9.trans ?_
    show Steps p.tables e below (T9.setTop (mkF m 143 #[.val (.int p1), .val (.int p2), .val (.int p3), .val (.int p4), .val (.int p5), .val (.int p6), .val (.int vs), .val (.int ve), .val (.int vo), .val (.int vc), .val (.int vr), .val (.int kk), .val (.int md), .val (.int xs), .val (.int xe), .val (.int xo), .val (.int xc), .val (.ref b6), .unset, .unset, .unset] [(.ref b8)])) _
    refine XS.astore X9w.here hx rfl (hb hby at_143) rfl rfl (l' := #[.val (.int p1), .val (.int p2), .val (.int p3), .val (.int p4), .val (.int p5), .val (.int p6), .val (.int vs), .val (.int ve), .val (.int vo), .val (.int vc), .val (.int vr), .val (.int kk), .val (.int md), .val (.int xs), .val (.int xe), .val (.int xo), .val (.int xc), .val (.ref b6), .val (.ref b8), .unset, .unset]) rfl ?_
    show Steps p.tables e below (T9.setTop (mkF m 145 #[.val (.int p1), .val (.int p2), .val (.int p3), .val (.int p4), .val (.int p5), .val (.int p6), .val (.int vs), .val (.int ve), .val (.int vo), .val (.int vc), .val (.int vr), .val (.int kk), .val (.int md), .val (.int xs), .val (.int xe), .val (.int xo), .val (.int xc), .val (.ref b6), .val (.ref b8), .unset, .unset] [])) _
    refine XS.iloadN X9w.here hx rfl (hb hby at_145) rfl ?_
    show Steps p.tables e below (T9.setTop (mkF m 146 #[.val (.int p1), .val (.int p2), .val (.int p3), .val (.int p4), .val (.int p5), .val (.int p6), .val (.int vs), .val (.int ve), .val (.int vo), .val (.int vc), .val (.int vr), .val (.int kk), .val (.int md), .val (.int xs), .val (.int xe), .val (.int xo), .val (.int xc), .val (.ref b6), .val (.ref b8), .unset, .unset] [(.int p1)])) _
    refine st10 _ ?_
    show Steps p.tables e below (T10.setTop (mkF m 149 #[.val (.int p1), .val (.int p2), .val (.int p3), .val (.int p4), .val (.int p5), .val (.int p6), .val (.int vs), .val (.int ve), .val (.int vo), .val (.int vc), .val (.int vr), .val (.int kk), .val (.int md), .val (.int xs), .val (.int xe), .val (.int xo), .val (.int xc), .val (.ref b6), .val (.ref b8), .unset, .unset] [(.ref b10)])) _
    refine XS.astore X10.here hx rfl (hb hby at_149) rfl rfl (l' := #[.val (.int p1), .val (.int p2), .val (.int p3), .val (.int p4), .val (.int p5), .val (.int p6), .val (.int vs), .val (.int ve), .val (.int vo), .val (.int vc), .val (.int vr), .val (.int kk), .val (.int md), .val (.int xs), .val (.int xe), .val (.int xo), .val (.int xc), .val (.ref b6), .val (.ref b8), .val (.ref b10), .unset]) rfl ?_
    show Steps p.tables e below (T10.setTop (mkF m 151 #[.val (.int p1), .val (.int p2), .val (.int p3), .val (.int p4), .val (.int p5), .val (.int p6), .val (.int vs), .val (.int ve), .val (.int vo), .val (.int vc), .val (.int vr), .val (.int kk), .val (.int md), .val (.int xs), .val (.int xe), .val (.int xo), .val (.int xc), .val (.ref b6), .val (.ref b8), .val (.ref b10), .unset] [])) _
    refine XS.iload X10.here hx rfl (hb hby at_151) rfl ?_
    show Steps p.tables e below (T10.setTop (mkF m 153 #[.val (.int p1), .val (.int p2), .val (.int p3), .val (.int p4), .val (.int p5), .val (.int p6), .val (.int vs), .val (.int ve), .val (.int vo), .val (.int vc), .val (.int vr), .val (.int kk), .val (.int md), .val (.int xs), .val (.int xe), .val (.int xo), .val (.int xc), .val (.ref b6), .val (.ref b8), .val (.ref b10), .unset] [(.int md)])) _
    refine XS.iconst X10.here hx rfl (hb hby at_153) ?_
    show Steps p.tables e below (T10.setTop (mkF m 154 #[.val (.int p1), .val (.int p2), .val (.int p3), .val (.int p4), .val (.int p5), .val (.int p6), .val (.int vs), .val (.int ve), .val (.int vo), .val (.int vc), .val (.int vr), .val (.int kk), .val (.int md), .val (.int xs), .val (.int xe), .val (.int xo), .val (.int xc), .val (.ref b6), .val (.ref b8), .val (.ref b10), .unset] [(.int (1 : Int32)), (.int md)])) _
    refine XS.icmpNo X10.here hx rfl (hb hby at_154) rfl (teq (hm1)).2 ?_
    show Steps p.tables e below (T10.setTop (mkF m 157 #[.val (.int p1), .val (.int p2), .val (.int p3), .val (.int p4), .val (.int p5), .val (.int p6), .val (.int vs), .val (.int ve), .val (.int vo), .val (.int vc), .val (.int vr), .val (.int kk), .val (.int md), .val (.int xs), .val (.int xe), .val (.int xo), .val (.int xc), .val (.ref b6), .val (.ref b8), .val (.ref b10), .unset] [])) _
    refine XS.aload X10.here hx rfl (hb hby at_157) rfl rfl ?_
    show Steps p.tables e below (T10.setTop (mkF m 159 #[.val (.int p1), .val (.int p2), .val (.int p3), .val (.int p4), .val (.int p5), .val (.int p6), .val (.int vs), .val (.int ve), .val (.int vo), .val (.int vc), .val (.int vr), .val (.int kk), .val (.int md), .val (.int xs), .val (.int xe), .val (.int xo), .val (.int xc), .val (.ref b6), .val (.ref b8), .val (.ref b10), .unset] [(.ref b6)])) _
    refine XS.aload X10.here hx rfl (hb hby at_159) rfl rfl ?_
    show Steps p.tables e below (T10.setTop (mkF m 161 #[.val (.int p1), .val (.int p2), .val (.int p3), .val (.int p4), .val (.int p5), .val (.int p6), .val (.int vs), .val (.int ve), .val (.int vo), .val (.int vc), .val (.int vr), .val (.int kk), .val (.int md), .val (.int xs), .val (.int xe), .val (.int xo), .val (.int xc), .val (.ref b6), .val (.ref b8), .val (.ref b10), .unset] [(.ref b6), (.ref b6)])) _
    refine st11.trans ?_
    show Steps p.tables e below (T11.setTop (mkF m 164 #[.val (.int p1), .val (.int p2), .val (.int p3), .val (.int p4), .val (.int p5), .val (.int p6), .val (.int vs), .val (.int ve), .val (.int vo), .val (.int vc), .val (.int vr), .val (.int kk), .val (.int md), .val (.int xs), .val (.int xe), .val (.int xo), .val (.int xc), .val (.ref b6), .val (.ref b8), .val (.ref b10), .unset] [(.int (1 : Int32))])) _
    exact retN X11 hx (t := .boolean) Bd.returns (by simp) (hb hby at_164) hr
  · show QL (.int (1 : Int32)) n0 _ T11.heap _
    exact ⟨rfl, N11, trivial⟩
theorem ef_rm0_1 (m : MethodId) (p1 : Int32) (p2 : Int32) (p3 : Int32) (p4 : Int32) (p5 : Int32) (p6 : Int32) : entryFrame m #[(.int p1), (.int p2), (.int p3), (.int p4), (.int p5), (.int p6)] maxLocals = mkF m 0 #[.val (.int p1), .val (.int p2), .val (.int p3), .val (.int p4), .val (.int p5), .val (.int p6), .unset, .unset, .unset, .unset, .unset, .unset, .unset, .unset, .unset, .unset, .unset, .unset, .unset, .unset, .unset] [] := by first | (simp [entryFrame, mkF, argsToLocals, Value.category, maxLocals]; done) | rfl
set_option maxRecDepth 65536 in
set_option maxHeartbeats 40000000 in
theorem rm0_1 (l : Launch) (Z : State) (a0 : Array Value) (hw : ∀ d ∈ tables_1, d.before a0 Z = true) (ws : List Jvm.Cond) (p1 : Int32) (p2 : Int32) (p3 : Int32) (p4 : Int32) (p5 : Int32) (p6 : Int32) (vs : Int32) (ve : Int32) (vo : Int32) (vc : Int32) (vr : Int32) (kk : Int32) (md : Int32) (xs : Int32) (xe : Int32) (xo : Int32) (xc : Int32) (z : Int32) (w_c : Addr) (cl : Cell) (val : Int32 → Value) (h0 : Heap) (n0 : Nat) (Z0 : n0 ≤ h0.size) (h_vs : vs = (if p1 < (1 : Int32) then (-1 : Int32) else p1)) (h_ve : ve = (if p2 < (1 : Int32) then (-1 : Int32) else p2)) (h_vo : vo = (if p3 < (1 : Int32) then (-1 : Int32) else p3)) (h_vc : vc = (if p4 < (1 : Int32) then (-1 : Int32) else p4)) (h_vr : vr = (if p6 < (1 : Int32) then (-1 : Int32) else p6)) (hkk : (p5 &&& (15 : Int32)) = kk) (hmd : (((p5.toUInt32 >>> ((4 : Int32) &&& 31).toUInt32).toInt32) &&& (3 : Int32)) = md) (h_xs : xs = (if (kk &&& (1 : Int32)) = (0 : Int32) then vs else vr)) (h_xe : xe = (if (kk &&& (2 : Int32)) = (0 : Int32) then ve else vr)) (h_xo : xo = (if (kk &&& (4 : Int32)) = (0 : Int32) then vo else vr)) (h_xc : xc = (if (kk &&& (8 : Int32)) = (0 : Int32) then vc else vr)) (hp_vs : vs < (1 : Int32) → vs = (-1 : Int32)) (hp_ve : ve < (1 : Int32) → ve = (-1 : Int32)) (hp_vo : vo < (1 : Int32) → vo = (-1 : Int32)) (hp_vc : vc < (1 : Int32) → vc = (-1 : Int32)) (hp_xs : xs < (1 : Int32) → xs = (-1 : Int32)) (hp_xe : xe < (1 : Int32) → xe = (-1 : Int32)) (hp_xo : xo < (1 : Int32) → xo = (-1 : Int32)) (hp_xc : xc < (1 : Int32) → xc = (-1 : Int32)) (hz1 : z = (if vs = xs then (if ve = xe then (if vo = xo then (if vc = xc then (1 : Int32) else (0 : Int32)) else (0 : Int32)) else (0 : Int32)) else (0 : Int32))) (hz2 : z = (if xs = vs then (if xe = ve then (if xo = vo then (if xc = vc then (1 : Int32) else (0 : Int32)) else (0 : Int32)) else (0 : Int32)) else (0 : Int32))) (S_high : Sta Z h0 "java/lang/Integer$IntegerCache" "high" "I" (.int (127 : Int32))) (S_cache : Sta Z h0 "java/lang/Integer$IntegerCache" "cache" "[Ljava/lang/Integer;" (.ref w_c)) (Bx : Bxs Z w_c cl "java/lang/Integer" "I" (256 : Int32) val) (EZ : Ext Z.heap h0) (hm1 : ¬ md = (1 : Int32)) (hm2 : md = (2 : Int32)) :
    MetFree l x (head1 (Jvm.Cond.code x code maxLocals ret :: ws) room_1) (fun a U => a = #[(.int p1), (.int p2), (.int p3), (.int p4), (.int p5), (.int p6)] ∧ Z.Warmed39 U.vm ∧ U.heap = h0) (fun _ _ _ _ _ => True) (fun _ U o U' => ∃ v L, o = .returned v ∧ QL (.int (1 : Int32)) n0 v U'.heap L ∧ ReturnedEndW U o U' L room_1.cells room_1.slots) := by
  refine MetFree.of_bodySF (plainFor_of_name pnm_0) hisR ?_
  intro p e s m args below meth c s₁ Bd hml0 hP hK
  obtain ⟨rfl, hZ, hh⟩ := hP
  have hx := Bd.exec
  have hby := Bd.bytes
  have hml : c.maxLocals = 21 := hml0
  have hown : s.vm.findClass "com/example/segmentwise/segmentwise/model/LocationEqualsPinLaw" = some m.cls := findClass_of_methodNamed Bd.named
  have hnm := (name_of_methodNamed Bd.named Bd.method).1
  have X0 : Stand p l e room_1 s m #[(.int p1), (.int p2), (.int p3), (.int p4), (.int p5), (.int p6)] below meth c s₁ [] 0 0 := Stand.of_body Bd
  have e0 : s₁.heap = h0 := by rw [← hh, Bd.state]; rfl
  have N0 := Fr.nil n0
  have pre0 : ∀ t, Steps p.tables e below (s₁.setTop (mkF m 0 #[.val (.int p1), .val (.int p2), .val (.int p3), .val (.int p4), .val (.int p5), .val (.int p6), .unset, .unset, .unset, .unset, .unset, .unset, .unset, .unset, .unset, .unset, .unset, .unset, .unset, .unset, .unset] [])) t → Steps p.tables e below (s₁.setTop (entryFrame m #[(.int p1), (.int p2), (.int p3), (.int p4), (.int p5), (.int p6)] maxLocals)) t := fun t k => castTop (ef_rm0_1 m p1 p2 p3 p4 p5 p6) k
  have hS0 : s.Since s.vm 0 := (State.WarmedH.refl s).since 0
  obtain ⟨_, _, ⟨T1, L1, k1, n1⟩, -, X1, ⟨Lc1, hQ1, l1, y1, z1⟩, st1⟩ := Jvm.LawKit.callS X0 hx (y := (⟨"com/example/segmentwise/segmentwise/model/LocationEqualsPinLaw", "pos", "(I)I"⟩ : MethodName)) hown (mvT hZ (hw _ (List.mem_of_getElem? (i := 0) rfl))) (mvT hZ (hw _ (List.mem_of_getElem? (i := 1) rfl))) (mvT hZ (hw _ (List.mem_of_getElem? (i := 2) rfl))) (mvT hZ (hw _ (List.mem_of_getElem? (i := 3) rfl))) (by decide) (backOf (W := 0) (rm1 l Z a0 hw [] p1 h0 n0 Z0 vs h_vs) hZ (hw _ (List.mem_of_getElem? (i := 3) rfl)) (hw _ (List.mem_of_getElem? (i := 2) rfl)) (by decide) (by decide)) (g := (mkF m 1 #[.val (.int p1), .val (.int p2), .val (.int p3), .val (.int p4), .val (.int p5), .val (.int p6), .unset, .unset, .unset, .unset, .unset, .unset, .unset, .unset, .unset, .unset, .unset, .unset, .unset, .unset, .unset] [(.int p1)])) rfl (by rw [hml]; rfl) (argsL := [(.int p1)]) (rest := []) (lenOf pdm_3 rfl) rfl (by show 2 * 0 + _ ≤ _; exact Nat.le_of_eq rfl) (hb hby at_1) (fun _ _ => ⟨rfl, e0, (by decide : 0 + 0 ≤ _), (by decide : 0 + 0 ≤ _)⟩)
  dsimp only [Pt.U, Pt.locs, Pt.cells, Pt.slots] at X1 l1 y1 z1 st1 hQ1
  subst l1 y1 z1
  obtain ⟨rfl, N1q, e1⟩ := hQ1
  have N1 := Fr.app N0 N1q
  obtain ⟨_, _, ⟨T2, L2, k2, n2⟩, -, X2, ⟨Lc2, hQ2, l2, y2, z2⟩, st2⟩ := Jvm.LawKit.callS X1 hx (y := (⟨"com/example/segmentwise/segmentwise/model/LocationEqualsPinLaw", "pos", "(I)I"⟩ : MethodName)) hown (mvT hZ (hw _ (List.mem_of_getElem? (i := 0) rfl))) (mvT hZ (hw _ (List.mem_of_getElem? (i := 1) rfl))) (mvT hZ (hw _ (List.mem_of_getElem? (i := 2) rfl))) (mvT hZ (hw _ (List.mem_of_getElem? (i := 3) rfl))) (by decide) (backOf (W := 0) (rm1 l Z a0 hw [] p2 h0 n0 Z0 ve h_ve) hZ (hw _ (List.mem_of_getElem? (i := 3) rfl)) (hw _ (List.mem_of_getElem? (i := 2) rfl)) (by decide) (by decide)) (g := (mkF m 7 #[.val (.int p1), .val (.int p2), .val (.int p3), .val (.int p4), .val (.int p5), .val (.int p6), .val (.int vs), .unset, .unset, .unset, .unset, .unset, .unset, .unset, .unset, .unset, .unset, .unset, .unset, .unset, .unset] [(.int p2)])) rfl (by rw [hml]; rfl) (argsL := [(.int p2)]) (rest := []) (lenOf pdm_3 rfl) rfl (by show 2 * 0 + _ ≤ _; exact Nat.le_of_eq rfl) (hb hby at_7) (fun _ _ => ⟨rfl, e1, (by decide : 0 + 0 ≤ _), (by decide : 0 + 0 ≤ _)⟩)
  dsimp only [Pt.U, Pt.locs, Pt.cells, Pt.slots] at X2 l2 y2 z2 st2 hQ2
  subst l2 y2 z2
  obtain ⟨rfl, N2q, e2⟩ := hQ2
  have N2 := Fr.app N1 N2q
  obtain ⟨_, _, ⟨T3, L3, k3, n3⟩, -, X3, ⟨Lc3, hQ3, l3, y3, z3⟩, st3⟩ := Jvm.LawKit.callS X2 hx (y := (⟨"com/example/segmentwise/segmentwise/model/LocationEqualsPinLaw", "pos", "(I)I"⟩ : MethodName)) hown (mvT hZ (hw _ (List.mem_of_getElem? (i := 0) rfl))) (mvT hZ (hw _ (List.mem_of_getElem? (i := 1) rfl))) (mvT hZ (hw _ (List.mem_of_getElem? (i := 2) rfl))) (mvT hZ (hw _ (List.mem_of_getElem? (i := 3) rfl))) (by decide) (backOf (W := 0) (rm1 l Z a0 hw [] p3 h0 n0 Z0 vo h_vo) hZ (hw _ (List.mem_of_getElem? (i := 3) rfl)) (hw _ (List.mem_of_getElem? (i := 2) rfl)) (by decide) (by decide)) (g := (mkF m 13 #[.val (.int p1), .val (.int p2), .val (.int p3), .val (.int p4), .val (.int p5), .val (.int p6), .val (.int vs), .val (.int ve), .unset, .unset, .unset, .unset, .unset, .unset, .unset, .unset, .unset, .unset, .unset, .unset, .unset] [(.int p3)])) rfl (by rw [hml]; rfl) (argsL := [(.int p3)]) (rest := []) (lenOf pdm_3 rfl) rfl (by show 2 * 0 + _ ≤ _; exact Nat.le_of_eq rfl) (hb hby at_13) (fun _ _ => ⟨rfl, e2, (by decide : 0 + 0 ≤ _), (by decide : 0 + 0 ≤ _)⟩)
  dsimp only [Pt.U, Pt.locs, Pt.cells, Pt.slots] at X3 l3 y3 z3 st3 hQ3
  subst l3 y3 z3
  obtain ⟨rfl, N3q, e3⟩ := hQ3
  have N3 := Fr.app N2 N3q
  obtain ⟨_, _, ⟨T4, L4, k4, n4⟩, -, X4, ⟨Lc4, hQ4, l4, y4, z4⟩, st4⟩ := Jvm.LawKit.callS X3 hx (y := (⟨"com/example/segmentwise/segmentwise/model/LocationEqualsPinLaw", "pos", "(I)I"⟩ : MethodName)) hown (mvT hZ (hw _ (List.mem_of_getElem? (i := 0) rfl))) (mvT hZ (hw _ (List.mem_of_getElem? (i := 1) rfl))) (mvT hZ (hw _ (List.mem_of_getElem? (i := 2) rfl))) (mvT hZ (hw _ (List.mem_of_getElem? (i := 3) rfl))) (by decide) (backOf (W := 0) (rm1 l Z a0 hw [] p4 h0 n0 Z0 vc h_vc) hZ (hw _ (List.mem_of_getElem? (i := 3) rfl)) (hw _ (List.mem_of_getElem? (i := 2) rfl)) (by decide) (by decide)) (g := (mkF m 19 #[.val (.int p1), .val (.int p2), .val (.int p3), .val (.int p4), .val (.int p5), .val (.int p6), .val (.int vs), .val (.int ve), .val (.int vo), .unset, .unset, .unset, .unset, .unset, .unset, .unset, .unset, .unset, .unset, .unset, .unset] [(.int p4)])) rfl (by rw [hml]; rfl) (argsL := [(.int p4)]) (rest := []) (lenOf pdm_3 rfl) rfl (by show 2 * 0 + _ ≤ _; exact Nat.le_of_eq rfl) (hb hby at_19) (fun _ _ => ⟨rfl, e3, (by decide : 0 + 0 ≤ _), (by decide : 0 + 0 ≤ _)⟩)
  dsimp only [Pt.U, Pt.locs, Pt.cells, Pt.slots] at X4 l4 y4 z4 st4 hQ4
  subst l4 y4 z4
  obtain ⟨rfl, N4q, e4⟩ := hQ4
  have N4 := Fr.app N3 N4q
  obtain ⟨_, _, ⟨T5, L5, k5, n5⟩, -, X5, ⟨Lc5, hQ5, l5, y5, z5⟩, st5⟩ := Jvm.LawKit.callS X4 hx (y := (⟨"com/example/segmentwise/segmentwise/model/LocationEqualsPinLaw", "pos", "(I)I"⟩ : MethodName)) hown (mvT hZ (hw _ (List.mem_of_getElem? (i := 0) rfl))) (mvT hZ (hw _ (List.mem_of_getElem? (i := 1) rfl))) (mvT hZ (hw _ (List.mem_of_getElem? (i := 2) rfl))) (mvT hZ (hw _ (List.mem_of_getElem? (i := 3) rfl))) (by decide) (backOf (W := 0) (rm1 l Z a0 hw [] p6 h0 n0 Z0 vr h_vr) hZ (hw _ (List.mem_of_getElem? (i := 3) rfl)) (hw _ (List.mem_of_getElem? (i := 2) rfl)) (by decide) (by decide)) (g := (mkF m 26 #[.val (.int p1), .val (.int p2), .val (.int p3), .val (.int p4), .val (.int p5), .val (.int p6), .val (.int vs), .val (.int ve), .val (.int vo), .val (.int vc), .unset, .unset, .unset, .unset, .unset, .unset, .unset, .unset, .unset, .unset, .unset] [(.int p6)])) rfl (by rw [hml]; rfl) (argsL := [(.int p6)]) (rest := []) (lenOf pdm_3 rfl) rfl (by show 2 * 0 + _ ≤ _; exact Nat.le_of_eq rfl) (hb hby at_26) (fun _ _ => ⟨rfl, e4, (by decide : 0 + 0 ≤ _), (by decide : 0 + 0 ≤ _)⟩)
  dsimp only [Pt.U, Pt.locs, Pt.cells, Pt.slots] at X5 l5 y5 z5 st5 hQ5
  subst l5 y5 z5
  obtain ⟨rfl, N5q, e5⟩ := hQ5
  have N5 := Fr.app N4 N5q
  obtain ⟨T6, h6, X6, e6, E6, A6, D6, -, st6⟩ := newO X5 hx hZ hown (hw _ (List.mem_of_getElem? (i := 4) rfl)) (hw _ (List.mem_of_getElem? (i := 5) rfl)) (hw _ (List.mem_of_getElem? (i := 6) rfl)) e5 (g := (mkF m 111 #[.val (.int p1), .val (.int p2), .val (.int p3), .val (.int p4), .val (.int p5), .val (.int p6), .val (.int vs), .val (.int ve), .val (.int vo), .val (.int vc), .val (.int vr), .val (.int kk), .val (.int md), .val (.int xs), .val (.int xe), .val (.int xo), .val (.int xc), .unset, .unset, .unset, .unset] [])) rfl (hb hby at_111) (by decide) (by decide)
  obtain ⟨b6, g6⟩ : ∃ z, z = h0.size := ⟨_, rfl⟩
  rw [← g6] at A6 D6 st6
  have gb6 : n0 ≤ b6 := Nat.le_trans Z0 (Nat.le_of_eq g6.symm)
  have F_segmentPosition_b6 : Fld Z h6 b6 "com/example/segmentwise/segmentwise/model/Location" "segmentPosition" "I" (.int (0 : Int32)) := D6 (Or.inr (hw _ (List.mem_of_getElem? (i := 25) rfl))) (ty := .int) (by decide)
  have F_elementPosition_b6 : Fld Z h6 b6 "com/example/segmentwise/segmentwise/model/Location" "elementPosition" "I" (.int (0 : Int32)) := D6 (Or.inr (hw _ (List.mem_of_getElem? (i := 28) rfl))) (ty := .int) (by decide)
  have F_elementOccurrence_b6 : Fld Z h6 b6 "com/example/segmentwise/segmentwise/model/Location" "elementOccurrence" "I" (.int (0 : Int32)) := D6 (Or.inr (hw _ (List.mem_of_getElem? (i := 31) rfl))) (ty := .int) (by decide)
  have F_componentPosition_b6 : Fld Z h6 b6 "com/example/segmentwise/segmentwise/model/Location" "componentPosition" "I" (.int (0 : Int32)) := D6 (Or.inr (hw _ (List.mem_of_getElem? (i := 34) rfl))) (ty := .int) (by decide)
  obtain ⟨_, _, ⟨T7, L7, k7, n7⟩, -, X7, hs7, hge7, ⟨Lc7, hQ7, l7, y7, z7⟩, st7⟩ := X6.specialBackS hx (y := (⟨"com/example/segmentwise/segmentwise/model/Location", "<init>", "(IIII)V"⟩ : MethodName)) rfl hown (mvT hZ (hw _ (List.mem_of_getElem? (i := 7) rfl))) (mvT hZ (hw _ (List.mem_of_getElem? (i := 8) rfl))) (mvT hZ (hw _ (List.mem_of_getElem? (i := 9) rfl))) (by decide) (backOfS (W := 1) (rm2 l Z a0 hw [] b6 vs ve vo vc _ _ _ _ h6 n0 (Nat.le_trans Z0 E6.1) A6 F_segmentPosition_b6 F_elementPosition_b6 F_elementOccurrence_b6 F_componentPosition_b6 gb6 hp_vs hp_ve hp_vo hp_vc) hZ (hw _ (List.mem_of_getElem? (i := 9) rfl)) (hw _ (List.mem_of_getElem? (i := 6) rfl)) (by decide) (by decide)) (g := (mkF m 123 #[.val (.int p1), .val (.int p2), .val (.int p3), .val (.int p4), .val (.int p5), .val (.int p6), .val (.int vs), .val (.int ve), .val (.int vo), .val (.int vc), .val (.int vr), .val (.int kk), .val (.int md), .val (.int xs), .val (.int xe), .val (.int xo), .val (.int xc), .unset, .unset, .unset, .unset] [(.int vc), (.int vo), (.int ve), (.int vs), (.ref b6), (.ref b6)])) rfl (by rw [hml]; rfl) (Steps.refl _) (a := b6) (argsL := [(.int vs), (.int ve), (.int vo), (.int vc)]) (rest := [(.ref b6)]) (lenOf pdm_4 rfl) rfl (by show 2 * 0 + _ ≤ _; exact Nat.le_of_eq rfl) (hb hby at_123) (fun _ _ => ⟨rfl, e6, (by decide : 1 + 8 ≤ _), (by decide : 4 + 288 ≤ _)⟩)
  dsimp only [Pt.U, Pt.locs, Pt.cells, Pt.slots] at X7 hs7 hge7 l7 y7 z7 st7 hQ7
  subst l7 y7 z7
  obtain ⟨rfl, N7q, K7, A7c, F7a, F7b, F7c, F7d⟩ := hQ7
  obtain ⟨X7w, hS7, hZ7, hown7⟩ := rebS (s := s) (vm0 := s.vm) hS0 (by rw [e6]; exact (Nat.le_trans (Nat.zero_le _) E6.1)) X7 hs7 hge7 hZ hown
  have Ec7 := own_extK E6 g6 K7
  have N7 := Fr.app N5 N7q
  obtain ⟨T8, h8, X8, e8, E8, A8, D8, -, st8⟩ := newO X7w hx hZ7 hown7 (hw _ (List.mem_of_getElem? (i := 4) rfl)) (hw _ (List.mem_of_getElem? (i := 5) rfl)) (hw _ (List.mem_of_getElem? (i := 6) rfl)) rfl (g := (mkF m 128 #[.val (.int p1), .val (.int p2), .val (.int p3), .val (.int p4), .val (.int p5), .val (.int p6), .val (.int vs), .val (.int ve), .val (.int vo), .val (.int vc), .val (.int vr), .val (.int kk), .val (.int md), .val (.int xs), .val (.int xe), .val (.int xo), .val (.int xc), .val (.ref b6), .unset, .unset, .unset] [])) rfl (hb hby at_128) (by decide) (by decide)
  obtain ⟨b8, g8⟩ : ∃ z, z = T7.heap.size := ⟨_, rfl⟩
  rw [← g8] at A8 D8 st8
  have gb8 : n0 ≤ b8 := Nat.le_trans (Nat.le_trans Z0 Ec7.1) (Nat.le_of_eq g8.symm)
  have F_segmentPosition_b8 : Fld Z h8 b8 "com/example/segmentwise/segmentwise/model/Location" "segmentPosition" "I" (.int (0 : Int32)) := D8 (Or.inr (hw _ (List.mem_of_getElem? (i := 25) rfl))) (ty := .int) (by decide)
  have F_elementPosition_b8 : Fld Z h8 b8 "com/example/segmentwise/segmentwise/model/Location" "elementPosition" "I" (.int (0 : Int32)) := D8 (Or.inr (hw _ (List.mem_of_getElem? (i := 28) rfl))) (ty := .int) (by decide)
  have F_elementOccurrence_b8 : Fld Z h8 b8 "com/example/segmentwise/segmentwise/model/Location" "elementOccurrence" "I" (.int (0 : Int32)) := D8 (Or.inr (hw _ (List.mem_of_getElem? (i := 31) rfl))) (ty := .int) (by decide)
  have F_componentPosition_b8 : Fld Z h8 b8 "com/example/segmentwise/segmentwise/model/Location" "componentPosition" "I" (.int (0 : Int32)) := D8 (Or.inr (hw _ (List.mem_of_getElem? (i := 34) rfl))) (ty := .int) (by decide)
  have hne12 : ¬ b6 = b8 := Nat.ne_of_lt (Nat.lt_of_lt_of_le A7c.lt (Nat.le_of_eq g8.symm))
  obtain ⟨_, _, ⟨T9, L9, k9, n9⟩, -, X9, hs9, hge9, ⟨Lc9, hQ9, l9, y9, z9⟩, st9⟩ := X8.specialBackS hx (y := (⟨"com/example/segmentwise/segmentwise/model/Location", "<init>", "(IIII)V"⟩ : MethodName)) rfl hown7 (mvT hZ7 (hw _ (List.mem_of_getElem? (i := 7) rfl))) (mvT hZ7 (hw _ (List.mem_of_getElem? (i := 8) rfl))) (mvT hZ7 (hw _ (List.mem_of_getElem? (i := 9) rfl))) (by decide) (backOfS (W := 1) (rm2 l Z a0 hw [] b8 xs xe xo xc _ _ _ _ h8 n0 (Nat.le_trans (Nat.le_trans Z0 Ec7.1) E8.1) A8 F_segmentPosition_b8 F_elementPosition_b8 F_elementOccurrence_b8 F_componentPosition_b8 gb8 hp_xs hp_xe hp_xo hp_xc) hZ7 (hw _ (List.mem_of_getElem? (i := 9) rfl)) (hw _ (List.mem_of_getElem? (i := 6) rfl)) (by decide) (by decide)) (g := (mkF m 140 #[.val (.int p1), .val (.int p2), .val (.int p3), .val (.int p4), .val (.int p5), .val (.int p6), .val (.int vs), .val (.int ve), .val (.int vo), .val (.int vc), .val (.int vr), .val (.int kk), .val (.int md), .val (.int xs), .val (.int xe), .val (.int xo), .val (.int xc), .val (.ref b6), .unset, .unset, .unset] [(.int xc), (.int xo), (.int xe), (.int xs), (.ref b8), (.ref b8)])) rfl (by rw [hml]; rfl) (Steps.refl _) (a := b8) (argsL := [(.int xs), (.int xe), (.int xo), (.int xc)]) (rest := [(.ref b8)]) (lenOf pdm_4 rfl) rfl (by show 2 * 0 + _ ≤ _; exact Nat.le_of_eq rfl) (hb hby at_140) (fun _ _ => ⟨rfl, e8, (by decide : 10 + 8 ≤ _), (by decide : 296 + 288 ≤ _)⟩)
  dsimp only [Pt.U, Pt.locs, Pt.cells, Pt.slots] at X9 hs9 hge9 l9 y9 z9 st9 hQ9
  subst l9 y9 z9
  obtain ⟨rfl, N9q, K9, A9c, F9a, F9b, F9c, F9d⟩ := hQ9
  obtain ⟨X9w, hS9, hZ9, hown9⟩ := rebS (s := s) (vm0 := T7.vm) hS7 (by rw [e8]; exact (Nat.le_trans (Nat.le_refl _) E8.1)) X9 hs9 hge9 hZ7 hown7
  have Ec9 := own_extK E8 g8 K9
  have N9 := Fr.app N7 N9q
  obtain ⟨_, _, ⟨T10, L10, k10, n10⟩, -, X10, ⟨Lc10, hQ10, l10, y10, z10⟩, st10⟩ := Jvm.LawKit.callS X9w hx (y := (⟨"java/lang/Integer", "valueOf", "(I)Ljava/lang/Integer;"⟩ : MethodName)) hown9 (mvT hZ9 (hw _ (List.mem_of_getElem? (i := 35) rfl))) (mvT hZ9 (hw _ (List.mem_of_getElem? (i := 36) rfl))) (mvT hZ9 (hw _ (List.mem_of_getElem? (i := 37) rfl))) (mvT hZ9 (hw _ (List.mem_of_getElem? (i := 38) rfl))) (by decide) (backOf (W := 0) (rm5 l Z a0 hw [] p1 w_c cl val T9.heap n0 (Nat.le_trans (Nat.le_trans Z0 Ec7.1) Ec9.1) ((S_high.ext Ec7).ext Ec9) ((S_cache.ext Ec7).ext Ec9) Bx (own_ext_trans EZ (own_ext_trans Ec7 Ec9))) hZ9 (hw _ (List.mem_of_getElem? (i := 38) rfl)) (hw _ (List.mem_of_getElem? (i := 37) rfl)) (by decide) (by decide)) (g := (mkF m 146 #[.val (.int p1), .val (.int p2), .val (.int p3), .val (.int p4), .val (.int p5), .val (.int p6), .val (.int vs), .val (.int ve), .val (.int vo), .val (.int vc), .val (.int vr), .val (.int kk), .val (.int md), .val (.int xs), .val (.int xe), .val (.int xo), .val (.int xc), .val (.ref b6), .val (.ref b8), .unset, .unset] [(.int p1)])) rfl (by rw [hml]; rfl) (argsL := [(.int p1)]) (rest := []) (lenOf pdm_5 rfl) rfl (by show 2 * 0 + _ ≤ _; exact Nat.le_of_eq rfl) (hb hby at_146) (fun _ _ => ⟨rfl, rfl, (by decide : 18 + 1 ≤ _), (by decide : 584 + 1 ≤ _)⟩)
  dsimp only [Pt.U, Pt.locs, Pt.cells, Pt.slots] at X10 l10 y10 z10 st10 hQ10
  subst l10 y10 z10
  obtain ⟨b10, rfl, N10q, Ex10, A10⟩ := hQ10
  have N10 := Fr.app N9 N10q
  obtain ⟨cq11, kq11, q11a, q11b, q11c⟩ := isOf hZ9 rfl ((A7c.ext Ec9).ext Ex10)
  obtain ⟨_, _, ⟨T11, L11, k11, n11⟩, -, X11, ⟨Lc11, hQ11, l11, y11, z11⟩, st11⟩ := X10.virtualBack hx (y := (⟨"com/example/segmentwise/segmentwise/model/Location", "equals", "(Ljava/lang/Object;)Z"⟩ : MethodName)) (z := (⟨"com/example/segmentwise/segmentwise/model/Location", "equals", "(Ljava/lang/Object;)Z"⟩ : MethodName)) hown9 (mvT hZ9 (hw _ (List.mem_of_getElem? (i := 42) rfl))) (mvT hZ9 (hw _ (List.mem_of_getElem? (i := 43) rfl))) (notFace_of_selects (args := #[]) (mvT hZ9 (hw _ (List.mem_of_getElem? (i := 45) rfl)))) (mvT hZ9 (hw _ (List.mem_of_getElem? (i := 45) rfl))) (mvT hZ9 (hw _ (List.mem_of_getElem? (i := 44) rfl))) (by decide) (backOf (W := 0) (rm6n l Z a0 hw [] b6 T10.heap n0 (Nat.le_trans (Nat.le_trans (Nat.le_trans Z0 Ec7.1) Ec9.1) Ex10.1) (0 : Int32) rfl) hZ9 (hw _ (List.mem_of_getElem? (i := 46) rfl)) (hw _ (List.mem_of_getElem? (i := 6) rfl)) (by decide) (by decide)) q11a q11c (g := (mkF m 174 #[.val (.int p1), .val (.int p2), .val (.int p3), .val (.int p4), .val (.int p5), .val (.int p6), .val (.int vs), .val (.int ve), .val (.int vo), .val (.int vc), .val (.int vr), .val (.int kk), .val (.int md), .val (.int xs), .val (.int xe), .val (.int xo), .val (.int xc), .val (.ref b6), .val (.ref b8), .val (.ref b10), .unset] [.null, (.ref b6)])) rfl (by rw [hml]; rfl) (Steps.refl _) (argsL := [.null]) (rest := []) (lenOf pdm_6 rfl) rfl (by show 2 * 0 + _ ≤ _; exact Nat.le_of_eq rfl) (hb hby at_174) (fun _ _ => ⟨rfl, rfl, (by decide : 19 + 0 ≤ _), (by decide : 585 + 0 ≤ _)⟩)
  dsimp only [Pt.U, Pt.locs, Pt.cells, Pt.slots] at X11 l11 y11 z11 st11 hQ11
  subst l11 y11 z11
  obtain ⟨rfl, N11q, e11⟩ := hQ11
  have N11 := Fr.app N10 N11q
  obtain ⟨fs, hr, hrun, hended, hEW⟩ := X11.leaveW hS9 (by rw [e11]; exact (Nat.le_trans (Nat.le_refl _) Ex10.1)) (v := some (.int (1 : Int32))) (fun h => by rw [Bd.returns] at h; cases h)
  refine ⟨_, _, pre0 _ ?_, hrun, hended, _, _, rfl, ?_, hEW.1, hEW.2.1, hEW.2.2.1, hEW.2.2.2.mono (by decide) (by decide)⟩
  · show Steps p.tables e below (s₁.setTop (mkF m 0 #[.val (.int p1), .val (.int p2), .val (.int p3), .val (.int p4), .val (.int p5), .val (.int p6), .unset, .unset, .unset, .unset, .unset, .unset, .unset, .unset, .unset, .unset, .unset, .unset, .unset, .unset, .unset] [])) _
    refine XS.iloadN X0.here hx rfl (hb hby at_0) rfl ?_
    show Steps p.tables e below (s₁.setTop (mkF m 1 #[.val (.int p1), .val (.int p2), .val (.int p3), .val (.int p4), .val (.int p5), .val (.int p6), .unset, .unset, .unset, .unset, .unset, .unset, .unset, .unset, .unset, .unset, .unset, .unset, .unset, .unset, .unset] [(.int p1)])) _
    refine st1 _ ?_
    show Steps p.tables e below (T1.setTop (mkF m 4 #[.val (.int p1), .val (.int p2), .val (.int p3), .val (.int p4), .val (.int p5), .val (.int p6), .unset, .unset, .unset, .unset, .unset, .unset, .unset, .unset, .unset, .unset, .unset, .unset, .unset, .unset, .unset] [(.int vs)])) _
    refine XS.istore X1.here hx rfl (hb hby at_4) rfl (l' := #[.val (.int p1), .val (.int p2), .val (.int p3), .val (.int p4), .val (.int p5), .val (.int p6), .val (.int vs), .unset, .unset, .unset, .unset, .unset, .unset, .unset, .unset, .unset, .unset, .unset, .unset, .unset, .unset]) rfl ?_
    show Steps p.tables e below (T1.setTop (mkF m 6 #[.val (.int p1), .val (.int p2), .val (.int p3), .val (.int p4), .val (.int p5), .val (.int p6), .val (.int vs), .unset, .unset, .unset, .unset, .unset, .unset, .unset, .unset, .unset, .unset, .unset, .unset, .unset, .unset] [])) _
    refine XS.iloadN X1.here hx rfl (hb hby at_6) rfl ?_
    show Steps p.tables e below (T1.setTop (mkF m 7 #[.val (.int p1), .val (.int p2), .val (.int p3), .val (.int p4), .val (.int p5), .val (.int p6), .val (.int vs), .unset, .unset, .unset, .unset, .unset, .unset, .unset, .unset, .unset, .unset, .unset, .unset, .unset, .unset] [(.int p2)])) _
    refine st2 _ ?_
    show Steps p.tables e below (T2.setTop (mkF m 10 #[.val (.int p1), .val (.int p2), .val (.int p3), .val (.int p4), .val (.int p5), .val (.int p6), .val (.int vs), .unset, .unset, .unset, .unset, .unset, .unset, .unset, .unset, .unset, .unset, .unset, .unset, .unset, .unset] [(.int ve)])) _
    refine XS.istore X2.here hx rfl (hb hby at_10) rfl (l' := #[.val (.int p1), .val (.int p2), .val (.int p3), .val (.int p4), .val (.int p5), .val (.int p6), .val (.int vs), .val (.int ve), .unset, .unset, .unset, .unset, .unset, .unset, .unset, .unset, .unset, .unset, .unset, .unset, .unset]) rfl ?_
    show Steps p.tables e below (T2.setTop (mkF m 12 #[.val (.int p1), .val (.int p2), .val (.int p3), .val (.int p4), .val (.int p5), .val (.int p6), .val (.int vs), .val (.int ve), .unset, .unset, .unset, .unset, .unset, .unset, .unset, .unset, .unset, .unset, .unset, .unset, .unset] [])) _
    refine XS.iloadN X2.here hx rfl (hb hby at_12) rfl ?_
    show Steps p.tables e below (T2.setTop (mkF m 13 #[.val (.int p1), .val (.int p2), .val (.int p3), .val (.int p4), .val (.int p5), .val (.int p6), .val (.int vs), .val (.int ve), .unset, .unset, .unset, .unset, .unset, .unset, .unset, .unset, .unset, .unset, .unset, .unset, .unset] [(.int p3)])) _
    refine st3 _ ?_
    show Steps p.tables e below (T3.setTop (mkF m 16 #[.val (.int p1), .val (.int p2), .val (.int p3), .val (.int p4), .val (.int p5), .val (.int p6), .val (.int vs), .val (.int ve), .unset, .unset, .unset, .unset, .unset, .unset, .unset, .unset, .unset, .unset, .unset, .unset, .unset] [(.int vo)])) _
    refine XS.istore X3.here hx rfl (hb hby at_16) rfl (l' := #[.val (.int p1), .val (.int p2), .val (.int p3), .val (.int p4), .val (.int p5), .val (.int p6), .val (.int vs), .val (.int ve), .val (.int vo), .unset, .unset, .unset, .unset, .unset, .unset, .unset, .unset, .unset, .unset, .unset, .unset]) rfl ?_
    show Steps p.tables e below (T3.setTop (mkF m 18 #[.val (.int p1), .val (.int p2), .val (.int p3), .val (.int p4), .val (.int p5), .val (.int p6), .val (.int vs), .val (.int ve), .val (.int vo), .unset, .unset, .unset, .unset, .unset, .unset, .unset, .unset, .unset, .unset, .unset, .unset] [])) _
    refine XS.iloadN X3.here hx rfl (hb hby at_18) rfl ?_
    show Steps p.tables e below (T3.setTop (mkF m 19 #[.val (.int p1), .val (.int p2), .val (.int p3), .val (.int p4), .val (.int p5), .val (.int p6), .val (.int vs), .val (.int ve), .val (.int vo), .unset, .unset, .unset, .unset, .unset, .unset, .unset, .unset, .unset, .unset, .unset, .unset] [(.int p4)])) _
    refine st4 _ ?_
    show Steps p.tables e below (T4.setTop (mkF m 22 #[.val (.int p1), .val (.int p2), .val (.int p3), .val (.int p4), .val (.int p5), .val (.int p6), .val (.int vs), .val (.int ve), .val (.int vo), .unset, .unset, .unset, .unset, .unset, .unset, .unset, .unset, .unset, .unset, .unset, .unset] [(.int vc)])) _
    refine XS.istore X4.here hx rfl (hb hby at_22) rfl (l' := #[.val (.int p1), .val (.int p2), .val (.int p3), .val (.int p4), .val (.int p5), .val (.int p6), .val (.int vs), .val (.int ve), .val (.int vo), .val (.int vc), .unset, .unset, .unset, .unset, .unset, .unset, .unset, .unset, .unset, .unset, .unset]) rfl ?_
    show Steps p.tables e below (T4.setTop (mkF m 24 #[.val (.int p1), .val (.int p2), .val (.int p3), .val (.int p4), .val (.int p5), .val (.int p6), .val (.int vs), .val (.int ve), .val (.int vo), .val (.int vc), .unset, .unset, .unset, .unset, .unset, .unset, .unset, .unset, .unset, .unset, .unset] [])) _
    refine XS.iload X4.here hx rfl (hb hby at_24) rfl ?_
    show Steps p.tables e below (T4.setTop (mkF m 26 #[.val (.int p1), .val (.int p2), .val (.int p3), .val (.int p4), .val (.int p5), .val (.int p6), .val (.int vs), .val (.int ve), .val (.int vo), .val (.int vc), .unset, .unset, .unset, .unset, .unset, .unset, .unset, .unset, .unset, .unset, .unset] [(.int p6)])) _
    refine st5 _ ?_
    show Steps p.tables e below (T5.setTop (mkF m 29 #[.val (.int p1), .val (.int p2), .val (.int p3), .val (.int p4), .val (.int p5), .val (.int p6), .val (.int vs), .val (.int ve), .val (.int vo), .val (.int vc), .unset, .unset, .unset, .unset, .unset, .unset, .unset, .unset, .unset, .unset, .unset] [(.int vr)])) _
    refine XS.istore X5.here hx rfl (hb hby at_29) rfl (l' := #[.val (.int p1), .val (.int p2), .val (.int p3), .val (.int p4), .val (.int p5), .val (.int p6), .val (.int vs), .val (.int ve), .val (.int vo), .val (.int vc), .val (.int vr), .unset, .unset, .unset, .unset, .unset, .unset, .unset, .unset, .unset, .unset]) rfl ?_
    show Steps p.tables e below (T5.setTop (mkF m 31 #[.val (.int p1), .val (.int p2), .val (.int p3), .val (.int p4), .val (.int p5), .val (.int p6), .val (.int vs), .val (.int ve), .val (.int vo), .val (.int vc), .val (.int vr), .unset, .unset, .unset, .unset, .unset, .unset, .unset, .unset, .unset, .unset] [])) _
    refine XS.iload X5.here hx rfl (hb hby at_31) rfl ?_
    show Steps p.tables e below (T5.setTop (mkF m 33 #[.val (.int p1), .val (.int p2), .val (.int p3), .val (.int p4), .val (.int p5), .val (.int p6), .val (.int vs), .val (.int ve), .val (.int vo), .val (.int vc), .val (.int vr), .unset, .unset, .unset, .unset, .unset, .unset, .unset, .unset, .unset, .unset] [(.int p5)])) _
    refine XS.bipush X5.here hx rfl (hb hby at_33) ?_
    show Steps p.tables e below (T5.setTop (mkF m 35 #[.val (.int p1), .val (.int p2), .val (.int p3), .val (.int p4), .val (.int p5), .val (.int p6), .val (.int vs), .val (.int ve), .val (.int vo), .val (.int vc), .val (.int vr), .unset, .unset, .unset, .unset, .unset, .unset, .unset, .unset, .unset, .unset] [(.int (15 : Int32)), (.int p5)])) _
    refine XS.iand X5.here hx rfl (hb hby at_35) rfl ?_
    show Steps p.tables e below (T5.setTop (mkF m 36 #[.val (.int p1), .val (.int p2), .val (.int p3), .val (.int p4), .val (.int p5), .val (.int p6), .val (.int vs), .val (.int ve), .val (.int vo), .val (.int vc), .val (.int vr), .unset, .unset, .unset, .unset, .unset, .unset, .unset, .unset, .unset, .unset] [(.int (p5 &&& (15 : Int32)))])) _
    rw [hkk]
    show Steps p.tables e below (T5.setTop (mkF m 36 #[.val (.int p1), .val (.int p2), .val (.int p3), .val (.int p4), .val (.int p5), .val (.int p6), .val (.int vs), .val (.int ve), .val (.int vo), .val (.int vc), .val (.int vr), .unset, .unset, .unset, .unset, .unset, .unset, .unset, .unset, .unset, .unset] [(.int kk)])) _
    refine XS.istore X5.here hx rfl (hb hby at_36) rfl (l' := #[.val (.int p1), .val (.int p2), .val (.int p3), .val (.int p4), .val (.int p5), .val (.int p6), .val (.int vs), .val (.int ve), .val (.int vo), .val (.int vc), .val (.int vr), .val (.int kk), .unset, .unset, .unset, .unset, .unset, .unset, .unset, .unset, .unset]) rfl ?_
    show Steps p.tables e below (T5.setTop (mkF m 38 #[.val (.int p1), .val (.int p2), .val (.int p3), .val (.int p4), .val (.int p5), .val (.int p6), .val (.int vs), .val (.int ve), .val (.int vo), .val (.int vc), .val (.int vr), .val (.int kk), .unset, .unset, .unset, .unset, .unset, .unset, .unset, .unset, .unset] [])) _
    refine XS.iload X5.here hx rfl (hb hby at_38) rfl ?_
    show Steps p.tables e below (T5.setTop (mkF m 40 #[.val (.int p1), .val (.int p2), .val (.int p3), .val (.int p4), .val (.int p5), .val (.int p6), .val (.int vs), .val (.int ve), .val (.int vo), .val (.int vc), .val (.int vr), .val (.int kk), .unset, .unset, .unset, .unset, .unset, .unset, .unset, .unset, .unset] [(.int p5)])) _
    refine XS.iconst X5.here hx rfl (hb hby at_40) ?_
    show Steps p.tables e below (T5.setTop (mkF m 41 #[.val (.int p1), .val (.int p2), .val (.int p3), .val (.int p4), .val (.int p5), .val (.int p6), .val (.int vs), .val (.int ve), .val (.int vo), .val (.int vc), .val (.int vr), .val (.int kk), .unset, .unset, .unset, .unset, .unset, .unset, .unset, .unset, .unset] [(.int (4 : Int32)), (.int p5)])) _
    refine XS.iushr X5.here hx rfl (hb hby at_41) rfl ?_
    show Steps p.tables e below (T5.setTop (mkF m 42 #[.val (.int p1), .val (.int p2), .val (.int p3), .val (.int p4), .val (.int p5), .val (.int p6), .val (.int vs), .val (.int ve), .val (.int vo), .val (.int vc), .val (.int vr), .val (.int kk), .unset, .unset, .unset, .unset, .unset, .unset, .unset, .unset, .unset] [(.int ((p5.toUInt32 >>> ((4 : Int32) &&& 31).toUInt32).toInt32))])) _
    refine XS.iconst X5.here hx rfl (hb hby at_42) ?_
    show Steps p.tables e below (T5.setTop (mkF m 43 #[.val (.int p1), .val (.int p2), .val (.int p3), .val (.int p4), .val (.int p5), .val (.int p6), .val (.int vs), .val (.int ve), .val (.int vo), .val (.int vc), .val (.int vr), .val (.int kk), .unset, .unset, .unset, .unset, .unset, .unset, .unset, .unset, .unset] [(.int (3 : Int32)), (.int ((p5.toUInt32 >>> ((4 : Int32) &&& 31).toUInt32).toInt32))])) _
    refine XS.iand X5.here hx rfl (hb hby at_43) rfl ?_
    show Steps p.tables e below (T5.setTop (mkF m 44 #[.val (.int p1), .val (.int p2), .val (.int p3), .val (.int p4), .val (.int p5), .val (.int p6), .val (.int vs), .val (.int ve), .val (.int vo), .val (.int vc), .val (.int vr), .val (.int kk), .unset, .unset, .unset, .unset, .unset, .unset, .unset, .unset, .unset] [(.int (((p5.toUInt32 >>> ((4 : Int32) &&& 31).toUInt32).toInt32) &&& (3 : Int32)))])) _
    rw [hmd]
    show Steps p.tables e below (T5.setTop (mkF m 44 #[.val (.int p1), .val (.int p2), .val (.int p3), .val (.int p4), .val (.int p5), .val (.int p6), .val (.int vs), .val (.int ve), .val (.int vo), .val (.int vc), .val (.int vr), .val (.int kk), .unset, .unset, .unset, .unset, .unset, .unset, .unset, .unset, .unset] [(.int md)])) _
    refine XS.istore X5.here hx rfl (hb hby at_44) rfl (l' := #[.val (.int p1), .val (.int p2), .val (.int p3), .val (.int p4), .val (.int p5), .val (.int p6), .val (.int vs), .val (.int ve), .val (.int vo), .val (.int vc), .val (.int vr), .val (.int kk), .val (.int md), .unset, .unset, .unset, .unset, .unset, .unset, .unset, .unset]) rfl ?_
    show Steps p.tables e below (T5.setTop (mkF m 46 #[.val (.int p1), .val (.int p2), .val (.int p3), .val (.int p4), .val (.int p5), .val (.int p6), .val (.int vs), .val (.int ve), .val (.int vo), .val (.int vc), .val (.int vr), .val (.int kk), .val (.int md), .unset, .unset, .unset, .unset, .unset, .unset, .unset, .unset] [])) _
    refine own_j46 p1 p2 p3 p4 p5 p6 vs ve vo vc vr kk md xs h_xs X5 hx hby _ ?_
    show Steps p.tables e below (T5.setTop (mkF m 62 #[.val (.int p1), .val (.int p2), .val (.int p3), .val (.int p4), .val (.int p5), .val (.int p6), .val (.int vs), .val (.int ve), .val (.int vo), .val (.int vc), .val (.int vr), .val (.int kk), .val (.int md), .val (.int xs), .unset, .unset, .unset, .unset, .unset, .unset, .unset] [])) _
    refine own_j62 p1 p2 p3 p4 p5 p6 vs ve vo vc vr kk md xs xe h_xe X5 hx hby _ ?_
    show Steps p.tables e below (T5.setTop (mkF m 78 #[.val (.int p1), .val (.int p2), .val (.int p3), .val (.int p4), .val (.int p5), .val (.int p6), .val (.int vs), .val (.int ve), .val (.int vo), .val (.int vc), .val (.int vr), .val (.int kk), .val (.int md), .val (.int xs), .val (.int xe), .unset, .unset, .unset, .unset, .unset, .unset] [])) _
    refine own_j78 p1 p2 p3 p4 p5 p6 vs ve vo vc vr kk md xs xe xo h_xo X5 hx hby _ ?_
    show Steps p.tables e below (T5.setTop (mkF m 94 #[.val (.int p1), .val (.int p2), .val (.int p3), .val (.int p4), .val (.int p5), .val (.int p6), .val (.int vs), .val (.int ve), .val (.int vo), .val (.int vc), .val (.int vr), .val (.int kk), .val (.int md), .val (.int xs), .val (.int xe), .val (.int xo), .unset, .unset, .unset, .unset, .unset] [])) _
    refine own_j94 p1 p2 p3 p4 p5 p6 vs ve vo vc vr kk md xs xe xo xc h_xc X5 hx hby _ ?_
    show Steps p.tables e below (T5.setTop (mkF m 111 #[.val (.int p1), .val (.int p2), .val (.int p3), .val (.int p4), .val (.int p5), .val (.int p6), .val (.int vs), .val (.int ve), .val (.int vo), .val (.int vc), .val (.int vr), .val (.int kk), .val (.int md), .val (.int xs), .val (.int xe), .val (.int xo), .val (.int xc), .unset, .unset, .unset, .unset] [])) _
    refine st6 _ ?_
    show Steps p.tables e below (T6.setTop (mkF m 114 #[.val (.int p1), .val (.int p2), .val (.int p3), .val (.int p4), .val (.int p5), .val (.int p6), .val (.int vs), .val (.int ve), .val (.int vo), .val (.int vc), .val (.int vr), .val (.int kk), .val (.int md), .val (.int xs), .val (.int xe), .val (.int xo), .val (.int xc), .unset, .unset, .unset, .unset] [(.ref b6)])) _
    refine XS.dup X6.here hx rfl (hb hby at_114) rfl rfl ?_
    show Steps p.tables e below (T6.setTop (mkF m 115 #[.val (.int p1), .val (.int p2), .val (.int p3), .val (.int p4), .val (.int p5), .val (.int p6), .val (.int vs), .val (.int ve), .val (.int vo), .val (.int vc), .val (.int vr), .val (.int kk), .val (.int md), .val (.int xs), .val (.int xe), .val (.int xo), .val (.int xc), .unset, .unset, .unset, .unset] [(.ref b6), (.ref b6)])) _
    refine XS.iload X6.here hx rfl (hb hby at_115) rfl ?_
    show Steps p.tables e below (T6.setTop (mkF m 117 #[.val (.int p1), .val (.int p2), .val (.int p3), .val (.int p4), .val (.int p5), .val (.int p6), .val (.int vs), .val (.int ve), .val (.int vo), .val (.int vc), .val (.int vr), .val (.int kk), .val (.int md), .val (.int xs), .val (.int xe), .val (.int xo), .val (.int xc), .unset, .unset, .unset, .unset] [(.int vs), (.ref b6), (.ref b6)])) _
    refine XS.iload X6.here hx rfl (hb hby at_117) rfl ?_
    show Steps p.tables e below (T6.setTop (mkF m 119 #[.val (.int p1), .val (.int p2), .val (.int p3), .val (.int p4), .val (.int p5), .val (.int p6), .val (.int vs), .val (.int ve), .val (.int vo), .val (.int vc), .val (.int vr), .val (.int kk), .val (.int md), .val (.int xs), .val (.int xe), .val (.int xo), .val (.int xc), .unset, .unset, .unset, .unset] [(.int ve), (.int vs), (.ref b6), (.ref b6)])) _
    refine XS.iload X6.here hx rfl (hb hby at_119) rfl ?_
    show Steps p.tables e below (T6.setTop (mkF m 121 #[.val (.int p1), .val (.int p2), .val (.int p3), .val (.int p4), .val (.int p5), .val (.int p6), .val (.int vs), .val (.int ve), .val (.int vo), .val (.int vc), .val (.int vr), .val (.int kk), .val (.int md), .val (.int xs), .val (.int xe), .val (.int xo), .val (.int xc), .unset, .unset, .unset, .unset] [(.int vo), (.int ve), (.int vs), (.ref b6), (.ref b6)])) _
    refine XS.iload X6.here hx rfl (hb hby at_121) rfl ?_
    show Steps p.tables e below (T6.setTop (mkF m 123 #[.val (.int p1), .val (.int p2), .val (.int p3), .val (.int p4), .val (.int p5), .val (.int p6), .val (.int vs), .val (.int ve), .val (.int vo), .val (.int vc), .val (.int vr), .val (.int kk), .val (.int md), .val (.int xs), .val (.int xe), .val (.int xo), .val (.int xc), .unset, .unset, .unset, .unset] [(.int vc), (.int vo), (.int ve), (.int vs), (.ref b6), (.ref b6)])) _
    refine st7.trans ?_
    show Steps p.tables e below (T7.setTop (mkF m 126 #[.val (.int p1), .val (.int p2), .val (.int p3), .val (.int p4), .val (.int p5), .val (.int p6), .val (.int vs), .val (.int ve), .val (.int vo), .val (.int vc), .val (.int vr), .val (.int kk), .val (.int md), .val (.int xs), .val (.int xe), .val (.int xo), .val (.int xc), .unset, .unset, .unset, .unset] [(.ref b6)])) _
    refine XS.astore X7w.here hx rfl (hb hby at_126) rfl rfl (l' := #[.val (.int p1), .val (.int p2), .val (.int p3), .val (.int p4), .val (.int p5), .val (.int p6), .val (.int vs), .val (.int ve), .val (.int vo), .val (.int vc), .val (.int vr), .val (.int kk), .val (.int md), .val (.int xs), .val (.int xe), .val (.int xo), .val (.int xc), .val (.ref b6), .unset, .unset, .unset]) rfl ?_
    show Steps p.tables e below (T7.setTop (mkF m 128 #[.val (.int p1), .val (.int p2), .val (.int p3), .val (.int p4), .val (.int p5), .val (.int p6), .val (.int vs), .val (.int ve), .val (.int vo), .val (.int vc), .val (.int vr), .val (.int kk), .val (.int md), .val (.int xs), .val (.int xe), .val (.int xo), .val (.int xc), .val (.ref b6), .unset, .unset, .unset] [])) _
    refine st8 _ ?_
    show Steps p.tables e below (T8.setTop (mkF m 131 #[.val (.int p1), .val (.int p2), .val (.int p3), .val (.int p4), .val (.int p5), .val (.int p6), .val (.int vs), .val (.int ve), .val (.int vo), .val (.int vc), .val (.int vr), .val (.int kk), .val (.int md), .val (.int xs), .val (.int xe), .val (.int xo), .val (.int xc), .val (.ref b6), .unset, .unset, .unset] [(.ref b8)])) _
    refine XS.dup X8.here hx rfl (hb hby at_131) rfl rfl ?_
    show Steps p.tables e below (T8.setTop (mkF m 132 #[.val (.int p1), .val (.int p2), .val (.int p3), .val (.int p4), .val (.int p5), .val (.int p6), .val (.int vs), .val (.int ve), .val (.int vo), .val (.int vc), .val (.int vr), .val (.int kk), .val (.int md), .val (.int xs), .val (.int xe), .val (.int xo), .val (.int xc), .val (.ref b6), .unset, .unset, .unset] [(.ref b8), (.ref b8)])) _
    refine XS.iload X8.here hx rfl (hb hby at_132) rfl ?_
    show Steps p.tables e below (T8.setTop (mkF m 134 #[.val (.int p1), .val (.int p2), .val (.int p3), .val (.int p4), .val (.int p5), .val (.int p6), .val (.int vs), .val (.int ve), .val (.int vo), .val (.int vc), .val (.int vr), .val (.int kk), .val (.int md), .val (.int xs), .val (.int xe), .val (.int xo), .val (.int xc), .val (.ref b6), .unset, .unset, .unset] [(.int xs), (.ref b8), (.ref b8)])) _
    refine XS.iload X8.here hx rfl (hb hby at_134) rfl ?_
    show Steps p.tables e below (T8.setTop (mkF m 136 #[.val (.int p1), .val (.int p2), .val (.int p3), .val (.int p4), .val (.int p5), .val (.int p6), .val (.int vs), .val (.int ve), .val (.int vo), .val (.int vc), .val (.int vr), .val (.int kk), .val (.int md), .val (.int xs), .val (.int xe), .val (.int xo), .val (.int xc), .val (.ref b6), .unset, .unset, .unset] [(.int xe), (.int xs), (.ref b8), (.ref b8)])) _
    refine XS.iload X8.here hx rfl (hb hby at_136) rfl ?_
    show Steps p.tables e below (T8.setTop (mkF m 138 #[.val (.int p1), .val (.int p2), .val (.int p3), .val (.int p4), .val (.int p5), .val (.int p6), .val (.int vs), .val (.int ve), .val (.int vo), .val (.int vc), .val (.int vr), .val (.int kk), .val (.int md), .val (.int xs), .val (.int xe), .val (.int xo), .val (.int xc), .val (.ref b6), .unset, .unset, .unset] [(.int xo), (.int xe), (.int xs), (.ref b8), (.ref b8)])) _
    refine XS.iload X8.here hx rfl (hb hby at_138) rfl ?_
    show Steps p.tables e below (T8.setTop (mkF m 140 #[.val (.int p1), .val (.int p2), .val (.int p3), .val (.int p4), .val (.int p5), .val (.int p6), .val (.int vs), .val (.int ve), .val (.int vo), .val (.int vc), .val (.int vr), .val (.int kk), .val (.int md), .val (.int xs), .val (.int xe), .val (.int xo), .val (.int xc), .val (.ref b6), .unset, .unset, .unset] [(.int xc), (.int xo), (.int xe), (.int xs), (.ref b8), (.ref b8)])) _
    refine st9.trans ?_
    show Steps p.tables e below (T9.setTop (mkF m 143 #[.val (.int p1), .val (.int p2), .val (.int p3), .val (.int p4), .val (.int p5), .val (.int p6), .val (.int vs), .val (.int ve), .val (.int vo), .val (.int vc), .val (.int vr), .val (.int kk), .val (.int md), .val (.int xs), .val (.int xe), .val (.int xo), .val (.int xc), .val (.ref b6), .unset, .unset, .unset] [(.ref b8)])) _
    refine XS.astore X9w.here hx rfl (hb hby at_143) rfl rfl (l' := #[.val (.int p1), .val (.int p2), .val (.int p3), .val (.int p4), .val (.int p5), .val (.int p6), .val (.int vs), .val (.int ve), .val (.int vo), .val (.int vc), .val (.int vr), .val (.int kk), .val (.int md), .val (.int xs), .val (.int xe), .val (.int xo), .val (.int xc), .val (.ref b6), .val (.ref b8), .unset, .unset]) rfl ?_
    show Steps p.tables e below (T9.setTop (mkF m 145 #[.val (.int p1), .val (.int p2), .val (.int p3), .val (.int p4), .val (.int p5), .val (.int p6), .val (.int vs), .val (.int ve), .val (.int vo), .val (.int vc), .val (.int vr), .val (.int kk), .val (.int md), .val (.int xs), .val (.int xe), .val (.int xo), .val (.int xc), .val (.ref b6), .val (.ref b8), .unset, .unset] [])) _
    refine XS.iloadN X9w.here hx rfl (hb hby at_145) rfl ?_
    show Steps p.tables e below (T9.setTop (mkF m 146 #[.val (.int p1), .val (.int p2), .val (.int p3), .val (.int p4), .val (.int p5), .val (.int p6), .val (.int vs), .val (.int ve), .val (.int vo), .val (.int vc), .val (.int vr), .val (.int kk), .val (.int md), .val (.int xs), .val (.int xe), .val (.int xo), .val (.int xc), .val (.ref b6), .val (.ref b8), .unset, .unset] [(.int p1)])) _
    refine st10 _ ?_
    show Steps p.tables e below (T10.setTop (mkF m 149 #[.val (.int p1), .val (.int p2), .val (.int p3), .val (.int p4), .val (.int p5), .val (.int p6), .val (.int vs), .val (.int ve), .val (.int vo), .val (.int vc), .val (.int vr), .val (.int kk), .val (.int md), .val (.int xs), .val (.int xe), .val (.int xo), .val (.int xc), .val (.ref b6), .val (.ref b8), .unset, .unset] [(.ref b10)])) _
    refine XS.astore X10.here hx rfl (hb hby at_149) rfl rfl (l' := #[.val (.int p1), .val (.int p2), .val (.int p3), .val (.int p4), .val (.int p5), .val (.int p6), .val (.int vs), .val (.int ve), .val (.int vo), .val (.int vc), .val (.int vr), .val (.int kk), .val (.int md), .val (.int xs), .val (.int xe), .val (.int xo), .val (.int xc), .val (.ref b6), .val (.ref b8), .val (.ref b10), .unset]) rfl ?_
    show Steps p.tables e below (T10.setTop (mkF m 151 #[.val (.int p1), .val (.int p2), .val (.int p3), .val (.int p4), .val (.int p5), .val (.int p6), .val (.int vs), .val (.int ve), .val (.int vo), .val (.int vc), .val (.int vr), .val (.int kk), .val (.int md), .val (.int xs), .val (.int xe), .val (.int xo), .val (.int xc), .val (.ref b6), .val (.ref b8), .val (.ref b10), .unset] [])) _
    refine XS.iload X10.here hx rfl (hb hby at_151) rfl ?_
    show Steps p.tables e below (T10.setTop (mkF m 153 #[.val (.int p1), .val (.int p2), .val (.int p3), .val (.int p4), .val (.int p5), .val (.int p6), .val (.int vs), .val (.int ve), .val (.int vo), .val (.int vc), .val (.int vr), .val (.int kk), .val (.int md), .val (.int xs), .val (.int xe), .val (.int xo), .val (.int xc), .val (.ref b6), .val (.ref b8), .val (.ref b10), .unset] [(.int md)])) _
    refine XS.iconst X10.here hx rfl (hb hby at_153) ?_
    show Steps p.tables e below (T10.setTop (mkF m 154 #[.val (.int p1), .val (.int p2), .val (.int p3), .val (.int p4), .val (.int p5), .val (.int p6), .val (.int vs), .val (.int ve), .val (.int vo), .val (.int vc), .val (.int vr), .val (.int kk), .val (.int md), .val (.int xs), .val (.int xe), .val (.int xo), .val (.int xc), .val (.ref b6), .val (.ref b8), .val (.ref b10), .unset] [(.int (1 : Int32)), (.int md)])) _
    refine XS.icmpYes X10.here hx rfl (pc0 := 154) (pc' := 165) rfl (hb hby at_154) rfl (feq (hm1)).2 (by decide) (by decide) ?_
    show Steps p.tables e below (T10.setTop (mkF m 165 #[.val (.int p1), .val (.int p2), .val (.int p3), .val (.int p4), .val (.int p5), .val (.int p6), .val (.int vs), .val (.int ve), .val (.int vo), .val (.int vc), .val (.int vr), .val (.int kk), .val (.int md), .val (.int xs), .val (.int xe), .val (.int xo), .val (.int xc), .val (.ref b6), .val (.ref b8), .val (.ref b10), .unset] [])) _
    refine XS.iload X10.here hx rfl (hb hby at_165) rfl ?_
    show Steps p.tables e below (T10.setTop (mkF m 167 #[.val (.int p1), .val (.int p2), .val (.int p3), .val (.int p4), .val (.int p5), .val (.int p6), .val (.int vs), .val (.int ve), .val (.int vo), .val (.int vc), .val (.int vr), .val (.int kk), .val (.int md), .val (.int xs), .val (.int xe), .val (.int xo), .val (.int xc), .val (.ref b6), .val (.ref b8), .val (.ref b10), .unset] [(.int md)])) _
    refine XS.iconst X10.here hx rfl (hb hby at_167) ?_
    show Steps p.tables e below (T10.setTop (mkF m 168 #[.val (.int p1), .val (.int p2), .val (.int p3), .val (.int p4), .val (.int p5), .val (.int p6), .val (.int vs), .val (.int ve), .val (.int vo), .val (.int vc), .val (.int vr), .val (.int kk), .val (.int md), .val (.int xs), .val (.int xe), .val (.int xo), .val (.int xc), .val (.ref b6), .val (.ref b8), .val (.ref b10), .unset] [(.int (2 : Int32)), (.int md)])) _
    refine XS.icmpNo X10.here hx rfl (hb hby at_168) rfl (teq (hm2)).2 ?_
    show Steps p.tables e below (T10.setTop (mkF m 171 #[.val (.int p1), .val (.int p2), .val (.int p3), .val (.int p4), .val (.int p5), .val (.int p6), .val (.int vs), .val (.int ve), .val (.int vo), .val (.int vc), .val (.int vr), .val (.int kk), .val (.int md), .val (.int xs), .val (.int xe), .val (.int xo), .val (.int xc), .val (.ref b6), .val (.ref b8), .val (.ref b10), .unset] [])) _
    refine XS.aload X10.here hx rfl (hb hby at_171) rfl rfl ?_
    show Steps p.tables e below (T10.setTop (mkF m 173 #[.val (.int p1), .val (.int p2), .val (.int p3), .val (.int p4), .val (.int p5), .val (.int p6), .val (.int vs), .val (.int ve), .val (.int vo), .val (.int vc), .val (.int vr), .val (.int kk), .val (.int md), .val (.int xs), .val (.int xe), .val (.int xo), .val (.int xc), .val (.ref b6), .val (.ref b8), .val (.ref b10), .unset] [(.ref b6)])) _
    refine XS.aconstNull X10.here hx rfl (hb hby at_173) ?_
    show Steps p.tables e below (T10.setTop (mkF m 174 #[.val (.int p1), .val (.int p2), .val (.int p3), .val (.int p4), .val (.int p5), .val (.int p6), .val (.int vs), .val (.int ve), .val (.int vo), .val (.int vc), .val (.int vr), .val (.int kk), .val (.int md), .val (.int xs), .val (.int xe), .val (.int xo), .val (.int xc), .val (.ref b6), .val (.ref b8), .val (.ref b10), .unset] [.null, (.ref b6)])) _
    refine st11.trans ?_
    show Steps p.tables e below (T11.setTop (mkF m 177 #[.val (.int p1), .val (.int p2), .val (.int p3), .val (.int p4), .val (.int p5), .val (.int p6), .val (.int vs), .val (.int ve), .val (.int vo), .val (.int vc), .val (.int vr), .val (.int kk), .val (.int md), .val (.int xs), .val (.int xe), .val (.int xo), .val (.int xc), .val (.ref b6), .val (.ref b8), .val (.ref b10), .unset] [(.int (0 : Int32))])) _
    refine XS.ifNo X11.here hx rfl (hb hby at_177) rfl ((if0 _ _).trans (teq (by decide : (0 : Int32) = (0 : Int32))).2) ?_
    show Steps p.tables e below (T11.setTop (mkF m 180 #[.val (.int p1), .val (.int p2), .val (.int p3), .val (.int p4), .val (.int p5), .val (.int p6), .val (.int vs), .val (.int ve), .val (.int vo), .val (.int vc), .val (.int vr), .val (.int kk), .val (.int md), .val (.int xs), .val (.int xe), .val (.int xo), .val (.int xc), .val (.ref b6), .val (.ref b8), .val (.ref b10), .unset] [])) _
    refine XS.iconst X11.here hx rfl (hb hby at_180) ?_
    show Steps p.tables e below (T11.setTop (mkF m 181 #[.val (.int p1), .val (.int p2), .val (.int p3), .val (.int p4), .val (.int p5), .val (.int p6), .val (.int vs), .val (.int ve), .val (.int vo), .val (.int vc), .val (.int vr), .val (.int kk), .val (.int md), .val (.int xs), .val (.int xe), .val (.int xo), .val (.int xc), .val (.ref b6), .val (.ref b8), .val (.ref b10), .unset] [(.int (1 : Int32))])) _
    refine XS.goto X11.here hx rfl (pc0 := 181) (pc' := 185) rfl (hb hby at_181) (by decide) (by decide) ?_
    show Steps p.tables e below (T11.setTop (mkF m 185 #[.val (.int p1), .val (.int p2), .val (.int p3), .val (.int p4), .val (.int p5), .val (.int p6), .val (.int vs), .val (.int ve), .val (.int vo), .val (.int vc), .val (.int vr), .val (.int kk), .val (.int md), .val (.int xs), .val (.int xe), .val (.int xo), .val (.int xc), .val (.ref b6), .val (.ref b8), .val (.ref b10), .unset] [(.int (1 : Int32))])) _
    exact retN X11 hx (t := .boolean) Bd.returns (by simp) (hb hby at_185) hr
  · show QL (.int (1 : Int32)) n0 _ T11.heap _
    exact ⟨rfl, N11, trivial⟩
theorem ef_rm0_2 (m : MethodId) (p1 : Int32) (p2 : Int32) (p3 : Int32) (p4 : Int32) (p5 : Int32) (p6 : Int32) : entryFrame m #[(.int p1), (.int p2), (.int p3), (.int p4), (.int p5), (.int p6)] maxLocals = mkF m 0 #[.val (.int p1), .val (.int p2), .val (.int p3), .val (.int p4), .val (.int p5), .val (.int p6), .unset, .unset, .unset, .unset, .unset, .unset, .unset, .unset, .unset, .unset, .unset, .unset, .unset, .unset, .unset] [] := by first | (simp [entryFrame, mkF, argsToLocals, Value.category, maxLocals]; done) | rfl
set_option maxRecDepth 65536 in
set_option maxHeartbeats 40000000 in
theorem rm0_2 (l : Launch) (Z : State) (a0 : Array Value) (hw : ∀ d ∈ tables_1, d.before a0 Z = true) (ws : List Jvm.Cond) (p1 : Int32) (p2 : Int32) (p3 : Int32) (p4 : Int32) (p5 : Int32) (p6 : Int32) (vs : Int32) (ve : Int32) (vo : Int32) (vc : Int32) (vr : Int32) (kk : Int32) (md : Int32) (xs : Int32) (xe : Int32) (xo : Int32) (xc : Int32) (z : Int32) (w_c : Addr) (cl : Cell) (val : Int32 → Value) (h0 : Heap) (n0 : Nat) (Z0 : n0 ≤ h0.size) (h_vs : vs = (if p1 < (1 : Int32) then (-1 : Int32) else p1)) (h_ve : ve = (if p2 < (1 : Int32) then (-1 : Int32) else p2)) (h_vo : vo = (if p3 < (1 : Int32) then (-1 : Int32) else p3)) (h_vc : vc = (if p4 < (1 : Int32) then (-1 : Int32) else p4)) (h_vr : vr = (if p6 < (1 : Int32) then (-1 : Int32) else p6)) (hkk : (p5 &&& (15 : Int32)) = kk) (hmd : (((p5.toUInt32 >>> ((4 : Int32) &&& 31).toUInt32).toInt32) &&& (3 : Int32)) = md) (h_xs : xs = (if (kk &&& (1 : Int32)) = (0 : Int32) then vs else vr)) (h_xe : xe = (if (kk &&& (2 : Int32)) = (0 : Int32) then ve else vr)) (h_xo : xo = (if (kk &&& (4 : Int32)) = (0 : Int32) then vo else vr)) (h_xc : xc = (if (kk &&& (8 : Int32)) = (0 : Int32) then vc else vr)) (hp_vs : vs < (1 : Int32) → vs = (-1 : Int32)) (hp_ve : ve < (1 : Int32) → ve = (-1 : Int32)) (hp_vo : vo < (1 : Int32) → vo = (-1 : Int32)) (hp_vc : vc < (1 : Int32) → vc = (-1 : Int32)) (hp_xs : xs < (1 : Int32) → xs = (-1 : Int32)) (hp_xe : xe < (1 : Int32) → xe = (-1 : Int32)) (hp_xo : xo < (1 : Int32) → xo = (-1 : Int32)) (hp_xc : xc < (1 : Int32) → xc = (-1 : Int32)) (hz1 : z = (if vs = xs then (if ve = xe then (if vo = xo then (if vc = xc then (1 : Int32) else (0 : Int32)) else (0 : Int32)) else (0 : Int32)) else (0 : Int32))) (hz2 : z = (if xs = vs then (if xe = ve then (if xo = vo then (if xc = vc then (1 : Int32) else (0 : Int32)) else (0 : Int32)) else (0 : Int32)) else (0 : Int32))) (S_high : Sta Z h0 "java/lang/Integer$IntegerCache" "high" "I" (.int (127 : Int32))) (S_cache : Sta Z h0 "java/lang/Integer$IntegerCache" "cache" "[Ljava/lang/Integer;" (.ref w_c)) (Bx : Bxs Z w_c cl "java/lang/Integer" "I" (256 : Int32) val) (EZ : Ext Z.heap h0) (hm1 : ¬ md = (1 : Int32)) (hm2 : ¬ md = (2 : Int32)) (hm3 : md = (3 : Int32)) :
    MetFree l x (head1 (Jvm.Cond.code x code maxLocals ret :: ws) room_1) (fun a U => a = #[(.int p1), (.int p2), (.int p3), (.int p4), (.int p5), (.int p6)] ∧ Z.Warmed39 U.vm ∧ U.heap = h0) (fun _ _ _ _ _ => True) (fun _ U o U' => ∃ v L, o = .returned v ∧ QL (.int (1 : Int32)) n0 v U'.heap L ∧ ReturnedEndW U o U' L room_1.cells room_1.slots) := by
  refine MetFree.of_bodySF (plainFor_of_name pnm_0) hisR ?_
  intro p e s m args below meth c s₁ Bd hml0 hP hK
  obtain ⟨rfl, hZ, hh⟩ := hP
  have hx := Bd.exec
  have hby := Bd.bytes
  have hml : c.maxLocals = 21 := hml0
  have hown : s.vm.findClass "com/example/segmentwise/segmentwise/model/LocationEqualsPinLaw" = some m.cls := findClass_of_methodNamed Bd.named
  have hnm := (name_of_methodNamed Bd.named Bd.method).1
  have X0 : Stand p l e room_1 s m #[(.int p1), (.int p2), (.int p3), (.int p4), (.int p5), (.int p6)] below meth c s₁ [] 0 0 := Stand.of_body Bd
  have e0 : s₁.heap = h0 := by rw [← hh, Bd.state]; rfl
  have N0 := Fr.nil n0
  have pre0 : ∀ t, Steps p.tables e below (s₁.setTop (mkF m 0 #[.val (.int p1), .val (.int p2), .val (.int p3), .val (.int p4), .val (.int p5), .val (.int p6), .unset, .unset, .unset, .unset, .unset, .unset, .unset, .unset, .unset, .unset, .unset, .unset, .unset, .unset, .unset] [])) t → Steps p.tables e below (s₁.setTop (entryFrame m #[(.int p1), (.int p2), (.int p3), (.int p4), (.int p5), (.int p6)] maxLocals)) t := fun t k => castTop (ef_rm0_2 m p1 p2 p3 p4 p5 p6) k
  have hS0 : s.Since s.vm 0 := (State.WarmedH.refl s).since 0
  obtain ⟨_, _, ⟨T1, L1, k1, n1⟩, -, X1, ⟨Lc1, hQ1, l1, y1, z1⟩, st1⟩ := Jvm.LawKit.callS X0 hx (y := (⟨"com/example/segmentwise/segmentwise/model/LocationEqualsPinLaw", "pos", "(I)I"⟩ : MethodName)) hown (mvT hZ (hw _ (List.mem_of_getElem? (i := 0) rfl))) (mvT hZ (hw _ (List.mem_of_getElem? (i := 1) rfl))) (mvT hZ (hw _ (List.mem_of_getElem? (i := 2) rfl))) (mvT hZ (hw _ (List.mem_of_getElem? (i := 3) rfl))) (by decide) (backOf (W := 0) (rm1 l Z a0 hw [] p1 h0 n0 Z0 vs h_vs) hZ (hw _ (List.mem_of_getElem? (i := 3) rfl)) (hw _ (List.mem_of_getElem? (i := 2) rfl)) (by decide) (by decide)) (g := (mkF m 1 #[.val (.int p1), .val (.int p2), .val (.int p3), .val (.int p4), .val (.int p5), .val (.int p6), .unset, .unset, .unset, .unset, .unset, .unset, .unset, .unset, .unset, .unset, .unset, .unset, .unset, .unset, .unset] [(.int p1)])) rfl (by rw [hml]; rfl) (argsL := [(.int p1)]) (rest := []) (lenOf pdm_3 rfl) rfl (by show 2 * 0 + _ ≤ _; exact Nat.le_of_eq rfl) (hb hby at_1) (fun _ _ => ⟨rfl, e0, (by decide : 0 + 0 ≤ _), (by decide : 0 + 0 ≤ _)⟩)
  dsimp only [Pt.U, Pt.locs, Pt.cells, Pt.slots] at X1 l1 y1 z1 st1 hQ1
  subst l1 y1 z1
  obtain ⟨rfl, N1q, e1⟩ := hQ1
  have N1 := Fr.app N0 N1q
  obtain ⟨_, _, ⟨T2, L2, k2, n2⟩, -, X2, ⟨Lc2, hQ2, l2, y2, z2⟩, st2⟩ := Jvm.LawKit.callS X1 hx (y := (⟨"com/example/segmentwise/segmentwise/model/LocationEqualsPinLaw", "pos", "(I)I"⟩ : MethodName)) hown (mvT hZ (hw _ (List.mem_of_getElem? (i := 0) rfl))) (mvT hZ (hw _ (List.mem_of_getElem? (i := 1) rfl))) (mvT hZ (hw _ (List.mem_of_getElem? (i := 2) rfl))) (mvT hZ (hw _ (List.mem_of_getElem? (i := 3) rfl))) (by decide) (backOf (W := 0) (rm1 l Z a0 hw [] p2 h0 n0 Z0 ve h_ve) hZ (hw _ (List.mem_of_getElem? (i := 3) rfl)) (hw _ (List.mem_of_getElem? (i := 2) rfl)) (by decide) (by decide)) (g := (mkF m 7 #[.val (.int p1), .val (.int p2), .val (.int p3), .val (.int p4), .val (.int p5), .val (.int p6), .val (.int vs), .unset, .unset, .unset, .unset, .unset, .unset, .unset, .unset, .unset, .unset, .unset, .unset, .unset, .unset] [(.int p2)])) rfl (by rw [hml]; rfl) (argsL := [(.int p2)]) (rest := []) (lenOf pdm_3 rfl) rfl (by show 2 * 0 + _ ≤ _; exact Nat.le_of_eq rfl) (hb hby at_7) (fun _ _ => ⟨rfl, e1, (by decide : 0 + 0 ≤ _), (by decide : 0 + 0 ≤ _)⟩)
  dsimp only [Pt.U, Pt.locs, Pt.cells, Pt.slots] at X2 l2 y2 z2 st2 hQ2
  subst l2 y2 z2
  obtain ⟨rfl, N2q, e2⟩ := hQ2
  have N2 := Fr.app N1 N2q
  obtain ⟨_, _, ⟨T3, L3, k3, n3⟩, -, X3, ⟨Lc3, hQ3, l3, y3, z3⟩, st3⟩ := Jvm.LawKit.callS X2 hx (y := (⟨"com/example/segmentwise/segmentwise/model/LocationEqualsPinLaw", "pos", "(I)I"⟩ : MethodName)) hown (mvT hZ (hw _ (List.mem_of_getElem? (i := 0) rfl))) (mvT hZ (hw _ (List.mem_of_getElem? (i := 1) rfl))) (mvT hZ (hw _ (List.mem_of_getElem? (i := 2) rfl))) (mvT hZ (hw _ (List.mem_of_getElem? (i := 3) rfl))) (by decide) (backOf (W := 0) (rm1 l Z a0 hw [] p3 h0 n0 Z0 vo h_vo) hZ (hw _ (List.mem_of_getElem? (i := 3) rfl)) (hw _ (List.mem_of_getElem? (i := 2) rfl)) (by decide) (by decide)) (g := (mkF m 13 #[.val (.int p1), .val (.int p2), .val (.int p3), .val (.int p4), .val (.int p5), .val (.int p6), .val (.int vs), .val (.int ve), .unset, .unset, .unset, .unset, .unset, .unset, .unset, .unset, .unset, .unset, .unset, .unset, .unset] [(.int p3)])) rfl (by rw [hml]; rfl) (argsL := [(.int p3)]) (rest := []) (lenOf pdm_3 rfl) rfl (by show 2 * 0 + _ ≤ _; exact Nat.le_of_eq rfl) (hb hby at_13) (fun _ _ => ⟨rfl, e2, (by decide : 0 + 0 ≤ _), (by decide : 0 + 0 ≤ _)⟩)
  dsimp only [Pt.U, Pt.locs, Pt.cells, Pt.slots] at X3 l3 y3 z3 st3 hQ3
  subst l3 y3 z3
  obtain ⟨rfl, N3q, e3⟩ := hQ3
  have N3 := Fr.app N2 N3q
  obtain ⟨_, _, ⟨T4, L4, k4, n4⟩, -, X4, ⟨Lc4, hQ4, l4, y4, z4⟩, st4⟩ := Jvm.LawKit.callS X3 hx (y := (⟨"com/example/segmentwise/segmentwise/model/LocationEqualsPinLaw", "pos", "(I)I"⟩ : MethodName)) hown (mvT hZ (hw _ (List.mem_of_getElem? (i := 0) rfl))) (mvT hZ (hw _ (List.mem_of_getElem? (i := 1) rfl))) (mvT hZ (hw _ (List.mem_of_getElem? (i := 2) rfl))) (mvT hZ (hw _ (List.mem_of_getElem? (i := 3) rfl))) (by decide) (backOf (W := 0) (rm1 l Z a0 hw [] p4 h0 n0 Z0 vc h_vc) hZ (hw _ (List.mem_of_getElem? (i := 3) rfl)) (hw _ (List.mem_of_getElem? (i := 2) rfl)) (by decide) (by decide)) (g := (mkF m 19 #[.val (.int p1), .val (.int p2), .val (.int p3), .val (.int p4), .val (.int p5), .val (.int p6), .val (.int vs), .val (.int ve), .val (.int vo), .unset, .unset, .unset, .unset, .unset, .unset, .unset, .unset, .unset, .unset, .unset, .unset] [(.int p4)])) rfl (by rw [hml]; rfl) (argsL := [(.int p4)]) (rest := []) (lenOf pdm_3 rfl) rfl (by show 2 * 0 + _ ≤ _; exact Nat.le_of_eq rfl) (hb hby at_19) (fun _ _ => ⟨rfl, e3, (by decide : 0 + 0 ≤ _), (by decide : 0 + 0 ≤ _)⟩)
  dsimp only [Pt.U, Pt.locs, Pt.cells, Pt.slots] at X4 l4 y4 z4 st4 hQ4
  subst l4 y4 z4
  obtain ⟨rfl, N4q, e4⟩ := hQ4
  have N4 := Fr.app N3 N4q
  obtain ⟨_, _, ⟨T5, L5, k5, n5⟩, -, X5, ⟨Lc5, hQ5, l5, y5, z5⟩, st5⟩ := Jvm.LawKit.callS X4 hx (y := (⟨"com/example/segmentwise/segmentwise/model/LocationEqualsPinLaw", "pos", "(I)I"⟩ : MethodName)) hown (mvT hZ (hw _ (List.mem_of_getElem? (i := 0) rfl))) (mvT hZ (hw _ (List.mem_of_getElem? (i := 1) rfl))) (mvT hZ (hw _ (List.mem_of_getElem? (i := 2) rfl))) (mvT hZ (hw _ (List.mem_of_getElem? (i := 3) rfl))) (by decide) (backOf (W := 0) (rm1 l Z a0 hw [] p6 h0 n0 Z0 vr h_vr) hZ (hw _ (List.mem_of_getElem? (i := 3) rfl)) (hw _ (List.mem_of_getElem? (i := 2) rfl)) (by decide) (by decide)) (g := (mkF m 26 #[.val (.int p1), .val (.int p2), .val (.int p3), .val (.int p4), .val (.int p5), .val (.int p6), .val (.int vs), .val (.int ve), .val (.int vo), .val (.int vc), .unset, .unset, .unset, .unset, .unset, .unset, .unset, .unset, .unset, .unset, .unset] [(.int p6)])) rfl (by rw [hml]; rfl) (argsL := [(.int p6)]) (rest := []) (lenOf pdm_3 rfl) rfl (by show 2 * 0 + _ ≤ _; exact Nat.le_of_eq rfl) (hb hby at_26) (fun _ _ => ⟨rfl, e4, (by decide : 0 + 0 ≤ _), (by decide : 0 + 0 ≤ _)⟩)
  dsimp only [Pt.U, Pt.locs, Pt.cells, Pt.slots] at X5 l5 y5 z5 st5 hQ5
  subst l5 y5 z5
  obtain ⟨rfl, N5q, e5⟩ := hQ5
  have N5 := Fr.app N4 N5q
  obtain ⟨T6, h6, X6, e6, E6, A6, D6, -, st6⟩ := newO X5 hx hZ hown (hw _ (List.mem_of_getElem? (i := 4) rfl)) (hw _ (List.mem_of_getElem? (i := 5) rfl)) (hw _ (List.mem_of_getElem? (i := 6) rfl)) e5 (g := (mkF m 111 #[.val (.int p1), .val (.int p2), .val (.int p3), .val (.int p4), .val (.int p5), .val (.int p6), .val (.int vs), .val (.int ve), .val (.int vo), .val (.int vc), .val (.int vr), .val (.int kk), .val (.int md), .val (.int xs), .val (.int xe), .val (.int xo), .val (.int xc), .unset, .unset, .unset, .unset] [])) rfl (hb hby at_111) (by decide) (by decide)
  obtain ⟨b6, g6⟩ : ∃ z, z = h0.size := ⟨_, rfl⟩
  rw [← g6] at A6 D6 st6
  have gb6 : n0 ≤ b6 := Nat.le_trans Z0 (Nat.le_of_eq g6.symm)
  have F_segmentPosition_b6 : Fld Z h6 b6 "com/example/segmentwise/segmentwise/model/Location" "segmentPosition" "I" (.int (0 : Int32)) := D6 (Or.inr (hw _ (List.mem_of_getElem? (i := 25) rfl))) (ty := .int) (by decide)
  have F_elementPosition_b6 : Fld Z h6 b6 "com/example/segmentwise/segmentwise/model/Location" "elementPosition" "I" (.int (0 : Int32)) := D6 (Or.inr (hw _ (List.mem_of_getElem? (i := 28) rfl))) (ty := .int) (by decide)
  have F_elementOccurrence_b6 : Fld Z h6 b6 "com/example/segmentwise/segmentwise/model/Location" "elementOccurrence" "I" (.int (0 : Int32)) := D6 (Or.inr (hw _ (List.mem_of_getElem? (i := 31) rfl))) (ty := .int) (by decide)
  have F_componentPosition_b6 : Fld Z h6 b6 "com/example/segmentwise/segmentwise/model/Location" "componentPosition" "I" (.int (0 : Int32)) := D6 (Or.inr (hw _ (List.mem_of_getElem? (i := 34) rfl))) (ty := .int) (by decide)
  obtain ⟨_, _, ⟨T7, L7, k7, n7⟩, -, X7, hs7, hge7, ⟨Lc7, hQ7, l7, y7, z7⟩, st7⟩ := X6.specialBackS hx (y := (⟨"com/example/segmentwise/segmentwise/model/Location", "<init>", "(IIII)V"⟩ : MethodName)) rfl hown (mvT hZ (hw _ (List.mem_of_getElem? (i := 7) rfl))) (mvT hZ (hw _ (List.mem_of_getElem? (i := 8) rfl))) (mvT hZ (hw _ (List.mem_of_getElem? (i := 9) rfl))) (by decide) (backOfS (W := 1) (rm2 l Z a0 hw [] b6 vs ve vo vc _ _ _ _ h6 n0 (Nat.le_trans Z0 E6.1) A6 F_segmentPosition_b6 F_elementPosition_b6 F_elementOccurrence_b6 F_componentPosition_b6 gb6 hp_vs hp_ve hp_vo hp_vc) hZ (hw _ (List.mem_of_getElem? (i := 9) rfl)) (hw _ (List.mem_of_getElem? (i := 6) rfl)) (by decide) (by decide)) (g := (mkF m 123 #[.val (.int p1), .val (.int p2), .val (.int p3), .val (.int p4), .val (.int p5), .val (.int p6), .val (.int vs), .val (.int ve), .val (.int vo), .val (.int vc), .val (.int vr), .val (.int kk), .val (.int md), .val (.int xs), .val (.int xe), .val (.int xo), .val (.int xc), .unset, .unset, .unset, .unset] [(.int vc), (.int vo), (.int ve), (.int vs), (.ref b6), (.ref b6)])) rfl (by rw [hml]; rfl) (Steps.refl _) (a := b6) (argsL := [(.int vs), (.int ve), (.int vo), (.int vc)]) (rest := [(.ref b6)]) (lenOf pdm_4 rfl) rfl (by show 2 * 0 + _ ≤ _; exact Nat.le_of_eq rfl) (hb hby at_123) (fun _ _ => ⟨rfl, e6, (by decide : 1 + 8 ≤ _), (by decide : 4 + 288 ≤ _)⟩)
  dsimp only [Pt.U, Pt.locs, Pt.cells, Pt.slots] at X7 hs7 hge7 l7 y7 z7 st7 hQ7
  subst l7 y7 z7
  obtain ⟨rfl, N7q, K7, A7c, F7a, F7b, F7c, F7d⟩ := hQ7
  obtain ⟨X7w, hS7, hZ7, hown7⟩ := rebS (s := s) (vm0 := s.vm) hS0 (by rw [e6]; exact (Nat.le_trans (Nat.zero_le _) E6.1)) X7 hs7 hge7 hZ hown
  have Ec7 := own_extK E6 g6 K7
  have N7 := Fr.app N5 N7q
  obtain ⟨T8, h8, X8, e8, E8, A8, D8, -, st8⟩ := newO X7w hx hZ7 hown7 (hw _ (List.mem_of_getElem? (i := 4) rfl)) (hw _ (List.mem_of_getElem? (i := 5) rfl)) (hw _ (List.mem_of_getElem? (i := 6) rfl)) rfl (g := (mkF m 128 #[.val (.int p1), .val (.int p2), .val (.int p3), .val (.int p4), .val (.int p5), .val (.int p6), .val (.int vs), .val (.int ve), .val (.int vo), .val (.int vc), .val (.int vr), .val (.int kk), .val (.int md), .val (.int xs), .val (.int xe), .val (.int xo), .val (.int xc), .val (.ref b6), .unset, .unset, .unset] [])) rfl (hb hby at_128) (by decide) (by decide)
  obtain ⟨b8, g8⟩ : ∃ z, z = T7.heap.size := ⟨_, rfl⟩
  rw [← g8] at A8 D8 st8
  have gb8 : n0 ≤ b8 := Nat.le_trans (Nat.le_trans Z0 Ec7.1) (Nat.le_of_eq g8.symm)
  have F_segmentPosition_b8 : Fld Z h8 b8 "com/example/segmentwise/segmentwise/model/Location" "segmentPosition" "I" (.int (0 : Int32)) := D8 (Or.inr (hw _ (List.mem_of_getElem? (i := 25) rfl))) (ty := .int) (by decide)
  have F_elementPosition_b8 : Fld Z h8 b8 "com/example/segmentwise/segmentwise/model/Location" "elementPosition" "I" (.int (0 : Int32)) := D8 (Or.inr (hw _ (List.mem_of_getElem? (i := 28) rfl))) (ty := .int) (by decide)
  have F_elementOccurrence_b8 : Fld Z h8 b8 "com/example/segmentwise/segmentwise/model/Location" "elementOccurrence" "I" (.int (0 : Int32)) := D8 (Or.inr (hw _ (List.mem_of_getElem? (i := 31) rfl))) (ty := .int) (by decide)
  have F_componentPosition_b8 : Fld Z h8 b8 "com/example/segmentwise/segmentwise/model/Location" "componentPosition" "I" (.int (0 : Int32)) := D8 (Or.inr (hw _ (List.mem_of_getElem? (i := 34) rfl))) (ty := .int) (by decide)
  have hne12 : ¬ b6 = b8 := Nat.ne_of_lt (Nat.lt_of_lt_of_le A7c.lt (Nat.le_of_eq g8.symm))
  obtain ⟨_, _, ⟨T9, L9, k9, n9⟩, -, X9, hs9, hge9, ⟨Lc9, hQ9, l9, y9, z9⟩, st9⟩ := X8.specialBackS hx (y := (⟨"com/example/segmentwise/segmentwise/model/Location", "<init>", "(IIII)V"⟩ : MethodName)) rfl hown7 (mvT hZ7 (hw _ (List.mem_of_getElem? (i := 7) rfl))) (mvT hZ7 (hw _ (List.mem_of_getElem? (i := 8) rfl))) (mvT hZ7 (hw _ (List.mem_of_getElem? (i := 9) rfl))) (by decide) (backOfS (W := 1) (rm2 l Z a0 hw [] b8 xs xe xo xc _ _ _ _ h8 n0 (Nat.le_trans (Nat.le_trans Z0 Ec7.1) E8.1) A8 F_segmentPosition_b8 F_elementPosition_b8 F_elementOccurrence_b8 F_componentPosition_b8 gb8 hp_xs hp_xe hp_xo hp_xc) hZ7 (hw _ (List.mem_of_getElem? (i := 9) rfl)) (hw _ (List.mem_of_getElem? (i := 6) rfl)) (by decide) (by decide)) (g := (mkF m 140 #[.val (.int p1), .val (.int p2), .val (.int p3), .val (.int p4), .val (.int p5), .val (.int p6), .val (.int vs), .val (.int ve), .val (.int vo), .val (.int vc), .val (.int vr), .val (.int kk), .val (.int md), .val (.int xs), .val (.int xe), .val (.int xo), .val (.int xc), .val (.ref b6), .unset, .unset, .unset] [(.int xc), (.int xo), (.int xe), (.int xs), (.ref b8), (.ref b8)])) rfl (by rw [hml]; rfl) (Steps.refl _) (a := b8) (argsL := [(.int xs), (.int xe), (.int xo), (.int xc)]) (rest := [(.ref b8)]) (lenOf pdm_4 rfl) rfl (by show 2 * 0 + _ ≤ _; exact Nat.le_of_eq rfl) (hb hby at_140) (fun _ _ => ⟨rfl, e8, (by decide : 10 + 8 ≤ _), (by decide : 296 + 288 ≤ _)⟩)
  dsimp only [Pt.U, Pt.locs, Pt.cells, Pt.slots] at X9 hs9 hge9 l9 y9 z9 st9 hQ9
  subst l9 y9 z9
  obtain ⟨rfl, N9q, K9, A9c, F9a, F9b, F9c, F9d⟩ := hQ9
  obtain ⟨X9w, hS9, hZ9, hown9⟩ := rebS (s := s) (vm0 := T7.vm) hS7 (by rw [e8]; exact (Nat.le_trans (Nat.le_refl _) E8.1)) X9 hs9 hge9 hZ7 hown7
  have Ec9 := own_extK E8 g8 K9
  have N9 := Fr.app N7 N9q
  obtain ⟨_, _, ⟨T10, L10, k10, n10⟩, -, X10, ⟨Lc10, hQ10, l10, y10, z10⟩, st10⟩ := Jvm.LawKit.callS X9w hx (y := (⟨"java/lang/Integer", "valueOf", "(I)Ljava/lang/Integer;"⟩ : MethodName)) hown9 (mvT hZ9 (hw _ (List.mem_of_getElem? (i := 35) rfl))) (mvT hZ9 (hw _ (List.mem_of_getElem? (i := 36) rfl))) (mvT hZ9 (hw _ (List.mem_of_getElem? (i := 37) rfl))) (mvT hZ9 (hw _ (List.mem_of_getElem? (i := 38) rfl))) (by decide) (backOf (W := 0) (rm5 l Z a0 hw [] p1 w_c cl val T9.heap n0 (Nat.le_trans (Nat.le_trans Z0 Ec7.1) Ec9.1) ((S_high.ext Ec7).ext Ec9) ((S_cache.ext Ec7).ext Ec9) Bx (own_ext_trans EZ (own_ext_trans Ec7 Ec9))) hZ9 (hw _ (List.mem_of_getElem? (i := 38) rfl)) (hw _ (List.mem_of_getElem? (i := 37) rfl)) (by decide) (by decide)) (g := (mkF m 146 #[.val (.int p1), .val (.int p2), .val (.int p3), .val (.int p4), .val (.int p5), .val (.int p6), .val (.int vs), .val (.int ve), .val (.int vo), .val (.int vc), .val (.int vr), .val (.int kk), .val (.int md), .val (.int xs), .val (.int xe), .val (.int xo), .val (.int xc), .val (.ref b6), .val (.ref b8), .unset, .unset] [(.int p1)])) rfl (by rw [hml]; rfl) (argsL := [(.int p1)]) (rest := []) (lenOf pdm_5 rfl) rfl (by show 2 * 0 + _ ≤ _; exact Nat.le_of_eq rfl) (hb hby at_146) (fun _ _ => ⟨rfl, rfl, (by decide : 18 + 1 ≤ _), (by decide : 584 + 1 ≤ _)⟩)
  dsimp only [Pt.U, Pt.locs, Pt.cells, Pt.slots] at X10 l10 y10 z10 st10 hQ10
  subst l10 y10 z10
  obtain ⟨b10, rfl, N10q, Ex10, A10⟩ := hQ10
  have N10 := Fr.app N9 N10q
  obtain ⟨cq11, kq11, q11a, q11b, q11c⟩ := isOf hZ9 rfl ((A7c.ext Ec9).ext Ex10)
  obtain ⟨_, _, ⟨T11, L11, k11, n11⟩, -, X11, ⟨Lc11, hQ11, l11, y11, z11⟩, st11⟩ := X10.virtualBack hx (y := (⟨"com/example/segmentwise/segmentwise/model/Location", "equals", "(Ljava/lang/Object;)Z"⟩ : MethodName)) (z := (⟨"com/example/segmentwise/segmentwise/model/Location", "equals", "(Ljava/lang/Object;)Z"⟩ : MethodName)) hown9 (mvT hZ9 (hw _ (List.mem_of_getElem? (i := 42) rfl))) (mvT hZ9 (hw _ (List.mem_of_getElem? (i := 43) rfl))) (notFace_of_selects (args := #[]) (mvT hZ9 (hw _ (List.mem_of_getElem? (i := 45) rfl)))) (mvT hZ9 (hw _ (List.mem_of_getElem? (i := 45) rfl))) (mvT hZ9 (hw _ (List.mem_of_getElem? (i := 44) rfl))) (by decide) (backOf (W := 0) (rm6i l Z a0 hw [] b6 b10 T10.heap n0 (Nat.le_trans (Nat.le_trans (Nat.le_trans Z0 Ec7.1) Ec9.1) Ex10.1) (ne_exa ((A7c.ext Ec9).ext Ex10) A10 (by decide)) A10 (0 : Int32) rfl) hZ9 (hw _ (List.mem_of_getElem? (i := 46) rfl)) (hw _ (List.mem_of_getElem? (i := 6) rfl)) (by decide) (by decide)) q11a q11c (g := (mkF m 196 #[.val (.int p1), .val (.int p2), .val (.int p3), .val (.int p4), .val (.int p5), .val (.int p6), .val (.int vs), .val (.int ve), .val (.int vo), .val (.int vc), .val (.int vr), .val (.int kk), .val (.int md), .val (.int xs), .val (.int xe), .val (.int xo), .val (.int xc), .val (.ref b6), .val (.ref b8), .val (.ref b10), .unset] [(.ref b10), (.ref b6)])) rfl (by rw [hml]; rfl) (Steps.refl _) (argsL := [(.ref b10)]) (rest := []) (lenOf pdm_6 rfl) rfl (by show 2 * 0 + _ ≤ _; exact Nat.le_of_eq rfl) (hb hby at_196) (fun _ _ => ⟨rfl, rfl, (by decide : 19 + 0 ≤ _), (by decide : 585 + 0 ≤ _)⟩)
  dsimp only [Pt.U, Pt.locs, Pt.cells, Pt.slots] at X11 l11 y11 z11 st11 hQ11
  subst l11 y11 z11
  obtain ⟨rfl, N11q, e11⟩ := hQ11
  have N11 := Fr.app N10 N11q
  obtain ⟨fs, hr, hrun, hended, hEW⟩ := X11.leaveW hS9 (by rw [e11]; exact (Nat.le_trans (Nat.le_refl _) Ex10.1)) (v := some (.int (1 : Int32))) (fun h => by rw [Bd.returns] at h; cases h)
  refine ⟨_, _, pre0 _ ?_, hrun, hended, _, _, rfl, ?_, hEW.1, hEW.2.1, hEW.2.2.1, hEW.2.2.2.mono (by decide) (by decide)⟩
  · show Steps p.tables e below (s₁.setTop (mkF m 0 #[.val (.int p1), .val (.int p2), .val (.int p3), .val (.int p4), .val (.int p5), .val (.int p6), .unset, .unset, .unset, .unset, .unset, .unset, .unset, .unset, .unset, .unset, .unset, .unset, .unset, .unset, .unset] [])) _
    refine XS.iloadN X0.here hx rfl (hb hby at_0) rfl ?_
    show Steps p.tables e below (s₁.setTop (mkF m 1 #[.val (.int p1), .val (.int p2), .val (.int p3), .val (.int p4), .val (.int p5), .val (.int p6), .unset, .unset, .unset, .unset, .unset, .unset, .unset, .unset, .unset, .unset, .unset, .unset, .unset, .unset, .unset] [(.int p1)])) _
    refine st1 _ ?_
    show Steps p.tables e below (T1.setTop (mkF m 4 #[.val (.int p1), .val (.int p2), .val (.int p3), .val (.int p4), .val (.int p5), .val (.int p6), .unset, .unset, .unset, .unset, .unset, .unset, .unset, .unset, .unset, .unset, .unset, .unset, .unset, .unset, .unset] [(.int vs)])) _
    refine XS.istore X1.here hx rfl (hb hby at_4) rfl (l' := #[.val (.int p1), .val (.int p2), .val (.int p3), .val (.int p4), .val (.int p5), .val (.int p6), .val (.int vs), .unset, .unset, .unset, .unset, .unset, .unset, .unset, .unset, .unset, .unset, .unset, .unset, .unset, .unset]) rfl ?_
    show Steps p.tables e below (T1.setTop (mkF m 6 #[.val (.int p1), .val (.int p2), .val (.int p3), .val (.int p4), .val (.int p5), .val (.int p6), .val (.int vs), .unset, .unset, .unset, .unset, .unset, .unset, .unset, .unset, .unset, .unset, .unset, .unset, .unset, .unset] [])) _
    refine XS.iloadN X1.here hx rfl (hb hby at_6) rfl ?_
    show Steps p.tables e below (T1.setTop (mkF m 7 #[.val (.int p1), .val (.int p2), .val (.int p3), .val (.int p4), .val (.int p5), .val (.int p6), .val (.int vs), .unset, .unset, .unset, .unset, .unset, .unset, .unset, .unset, .unset, .unset, .unset, .unset, .unset, .unset] [(.int p2)])) _
    refine st2 _ ?_
    show Steps p.tables e below (T2.setTop (mkF m 10 #[.val (.int p1), .val (.int p2), .val (.int p3), .val (.int p4), .val (.int p5), .val (.int p6), .val (.int vs), .unset, .unset, .unset, .unset, .unset, .unset, .unset, .unset, .unset, .unset, .unset, .unset, .unset, .unset] [(.int ve)])) _
    refine XS.istore X2.here hx rfl (hb hby at_10) rfl (l' := #[.val (.int p1), .val (.int p2), .val (.int p3), .val (.int p4), .val (.int p5), .val (.int p6), .val (.int vs), .val (.int ve), .unset, .unset, .unset, .unset, .unset, .unset, .unset, .unset, .unset, .unset, .unset, .unset, .unset]) rfl ?_
    show Steps p.tables e below (T2.setTop (mkF m 12 #[.val (.int p1), .val (.int p2), .val (.int p3), .val (.int p4), .val (.int p5), .val (.int p6), .val (.int vs), .val (.int ve), .unset, .unset, .unset, .unset, .unset, .unset, .unset, .unset, .unset, .unset, .unset, .unset, .unset] [])) _
    refine XS.iloadN X2.here hx rfl (hb hby at_12) rfl ?_
    show Steps p.tables e below (T2.setTop (mkF m 13 #[.val (.int p1), .val (.int p2), .val (.int p3), .val (.int p4), .val (.int p5), .val (.int p6), .val (.int vs), .val (.int ve), .unset, .unset, .unset, .unset, .unset, .unset, .unset, .unset, .unset, .unset, .unset, .unset, .unset] [(.int p3)])) _
    refine st3 _ ?_
    show Steps p.tables e below (T3.setTop (mkF m 16 #[.val (.int p1), .val (.int p2), .val (.int p3), .val (.int p4), .val (.int p5), .val (.int p6), .val (.int vs), .val (.int ve), .unset, .unset, .unset, .unset, .unset, .unset, .unset, .unset, .unset, .unset, .unset, .unset, .unset] [(.int vo)])) _
    refine XS.istore X3.here hx rfl (hb hby at_16) rfl (l' := #[.val (.int p1), .val (.int p2), .val (.int p3), .val (.int p4), .val (.int p5), .val (.int p6), .val (.int vs), .val (.int ve), .val (.int vo), .unset, .unset, .unset, .unset, .unset, .unset, .unset, .unset, .unset, .unset, .unset, .unset]) rfl ?_
    show Steps p.tables e below (T3.setTop (mkF m 18 #[.val (.int p1), .val (.int p2), .val (.int p3), .val (.int p4), .val (.int p5), .val (.int p6), .val (.int vs), .val (.int ve), .val (.int vo), .unset, .unset, .unset, .unset, .unset, .unset, .unset, .unset, .unset, .unset, .unset, .unset] [])) _
    refine XS.iloadN X3.here hx rfl (hb hby at_18) rfl ?_
    show Steps p.tables e below (T3.setTop (mkF m 19 #[.val (.int p1), .val (.int p2), .val (.int p3), .val (.int p4), .val (.int p5), .val (.int p6), .val (.int vs), .val (.int ve), .val (.int vo), .unset, .unset, .unset, .unset, .unset, .unset, .unset, .unset, .unset, .unset, .unset, .unset] [(.int p4)])) _
    refine st4 _ ?_
    show Steps p.tables e below (T4.setTop (mkF m 22 #[.val (.int p1), .val (.int p2), .val (.int p3), .val (.int p4), .val (.int p5), .val (.int p6), .val (.int vs), .val (.int ve), .val (.int vo), .unset, .unset, .unset, .unset, .unset, .unset, .unset, .unset, .unset, .unset, .unset, .unset] [(.int vc)])) _
    refine XS.istore X4.here hx rfl (hb hby at_22) rfl (l' := #[.val (.int p1), .val (.int p2), .val (.int p3), .val (.int p4), .val (.int p5), .val (.int p6), .val (.int vs), .val (.int ve), .val (.int vo), .val (.int vc), .unset, .unset, .unset, .unset, .unset, .unset, .unset, .unset, .unset, .unset, .unset]) rfl ?_
    show Steps p.tables e below (T4.setTop (mkF m 24 #[.val (.int p1), .val (.int p2), .val (.int p3), .val (.int p4), .val (.int p5), .val (.int p6), .val (.int vs), .val (.int ve), .val (.int vo), .val (.int vc), .unset, .unset, .unset, .unset, .unset, .unset, .unset, .unset, .unset, .unset, .unset] [])) _
    refine XS.iload X4.here hx rfl (hb hby at_24) rfl ?_
    show Steps p.tables e below (T4.setTop (mkF m 26 #[.val (.int p1), .val (.int p2), .val (.int p3), .val (.int p4), .val (.int p5), .val (.int p6), .val (.int vs), .val (.int ve), .val (.int vo), .val (.int vc), .unset, .unset, .unset, .unset, .unset, .unset, .unset, .unset, .unset, .unset, .unset] [(.int p6)])) _
    refine st5 _ ?_
    show Steps p.tables e below (T5.setTop (mkF m 29 #[.val (.int p1), .val (.int p2), .val (.int p3), .val (.int p4), .val (.int p5), .val (.int p6), .val (.int vs), .val (.int ve), .val (.int vo), .val (.int vc), .unset, .unset, .unset, .unset, .unset, .unset, .unset, .unset, .unset, .unset, .unset] [(.int vr)])) _
    refine XS.istore X5.here hx rfl (hb hby at_29) rfl (l' := #[.val (.int p1), .val (.int p2), .val (.int p3), .val (.int p4), .val (.int p5), .val (.int p6), .val (.int vs), .val (.int ve), .val (.int vo), .val (.int vc), .val (.int vr), .unset, .unset, .unset, .unset, .unset, .unset, .unset, .unset, .unset, .unset]) rfl ?_
    show Steps p.tables e below (T5.setTop (mkF m 31 #[.val (.int p1), .val (.int p2), .val (.int p3), .val (.int p4), .val (.int p5), .val (.int p6), .val (.int vs), .val (.int ve), .val (.int vo), .val (.int vc), .val (.int vr), .unset, .unset, .unset, .unset, .unset, .unset, .unset, .unset, .unset, .unset] [])) _
    refine XS.iload X5.here hx rfl (hb hby at_31) rfl ?_
    show Steps p.tables e below (T5.setTop (mkF m 33 #[.val (.int p1), .val (.int p2), .val (.int p3), .val (.int p4), .val (.int p5), .val (.int p6), .val (.int vs), .val (.int ve), .val (.int vo), .val (.int vc), .val (.int vr), .unset, .unset, .unset, .unset, .unset, .unset, .unset, .unset, .unset, .unset] [(.int p5)])) _
    refine XS.bipush X5.here hx rfl (hb hby at_33) ?_
    show Steps p.tables e below (T5.setTop (mkF m 35 #[.val (.int p1), .val (.int p2), .val (.int p3), .val (.int p4), .val (.int p5), .val (.int p6), .val (.int vs), .val (.int ve), .val (.int vo), .val (.int vc), .val (.int vr), .unset, .unset, .unset, .unset, .unset, .unset, .unset, .unset, .unset, .unset] [(.int (15 : Int32)), (.int p5)])) _
    refine XS.iand X5.here hx rfl (hb hby at_35) rfl ?_
    show Steps p.tables e below (T5.setTop (mkF m 36 #[.val (.int p1), .val (.int p2), .val (.int p3), .val (.int p4), .val (.int p5), .val (.int p6), .val (.int vs), .val (.int ve), .val (.int vo), .val (.int vc), .val (.int vr), .unset, .unset, .unset, .unset, .unset, .unset, .unset, .unset, .unset, .unset] [(.int (p5 &&& (15 : Int32)))])) _
    rw [hkk]
    show Steps p.tables e below (T5.setTop (mkF m 36 #[.val (.int p1), .val (.int p2), .val (.int p3), .val (.int p4), .val (.int p5), .val (.int p6), .val (.int vs), .val (.int ve), .val (.int vo), .val (.int vc), .val (.int vr), .unset, .unset, .unset, .unset, .unset, .unset, .unset, .unset, .unset, .unset] [(.int kk)])) _
    refine XS.istore X5.here hx rfl (hb hby at_36) rfl (l' := #[.val (.int p1), .val (.int p2), .val (.int p3), .val (.int p4), .val (.int p5), .val (.int p6), .val (.int vs), .val (.int ve), .val (.int vo), .val (.int vc), .val (.int vr), .val (.int kk), .unset, .unset, .unset, .unset, .unset, .unset, .unset, .unset, .unset]) rfl ?_
    show Steps p.tables e below (T5.setTop (mkF m 38 #[.val (.int p1), .val (.int p2), .val (.int p3), .val (.int p4), .val (.int p5), .val (.int p6), .val (.int vs), .val (.int ve), .val (.int vo), .val (.int vc), .val (.int vr), .val (.int kk), .unset, .unset, .unset, .unset, .unset, .unset, .unset, .unset, .unset] [])) _
    refine XS.iload X5.here hx rfl (hb hby at_38) rfl ?_
    show Steps p.tables e below (T5.setTop (mkF m 40 #[.val (.int p1), .val (.int p2), .val (.int p3), .val (.int p4), .val (.int p5), .val (.int p6), .val (.int vs), .val (.int ve), .val (.int vo), .val (.int vc), .val (.int vr), .val (.int kk), .unset, .unset, .unset, .unset, .unset, .unset, .unset, .unset, .unset] [(.int p5)])) _
    refine XS.iconst X5.here hx rfl (hb hby at_40) ?_
    show Steps p.tables e below (T5.setTop (mkF m 41 #[.val (.int p1), .val (.int p2), .val (.int p3), .val (.int p4), .val (.int p5), .val (.int p6), .val (.int vs), .val (.int ve), .val (.int vo), .val (.int vc), .val (.int vr), .val (.int kk), .unset, .unset, .unset, .unset, .unset, .unset, .unset, .unset, .unset] [(.int (4 : Int32)), (.int p5)])) _
    refine XS.iushr X5.here hx rfl (hb hby at_41) rfl ?_
    show Steps p.tables e below (T5.setTop (mkF m 42 #[.val (.int p1), .val (.int p2), .val (.int p3), .val (.int p4), .val (.int p5), .val (.int p6), .val (.int vs), .val (.int ve), .val (.int vo), .val (.int vc), .val (.int vr), .val (.int kk), .unset, .unset, .unset, .unset, .unset, .unset, .unset, .unset, .unset] [(.int ((p5.toUInt32 >>> ((4 : Int32) &&& 31).toUInt32).toInt32))])) _
    refine XS.iconst X5.here hx rfl (hb hby at_42) ?_
    show Steps p.tables e below (T5.setTop (mkF m 43 #[.val (.int p1), .val (.int p2), .val (.int p3), .val (.int p4), .val (.int p5), .val (.int p6), .val (.int vs), .val (.int ve), .val (.int vo), .val (.int vc), .val (.int vr), .val (.int kk), .unset, .unset, .unset, .unset, .unset, .unset, .unset, .unset, .unset] [(.int (3 : Int32)), (.int ((p5.toUInt32 >>> ((4 : Int32) &&& 31).toUInt32).toInt32))])) _
    refine XS.iand X5.here hx rfl (hb hby at_43) rfl ?_
    show Steps p.tables e below (T5.setTop (mkF m 44 #[.val (.int p1), .val (.int p2), .val (.int p3), .val (.int p4), .val (.int p5), .val (.int p6), .val (.int vs), .val (.int ve), .val (.int vo), .val (.int vc), .val (.int vr), .val (.int kk), .unset, .unset, .unset, .unset, .unset, .unset, .unset, .unset, .unset] [(.int (((p5.toUInt32 >>> ((4 : Int32) &&& 31).toUInt32).toInt32) &&& (3 : Int32)))])) _
    rw [hmd]
    show Steps p.tables e below (T5.setTop (mkF m 44 #[.val (.int p1), .val (.int p2), .val (.int p3), .val (.int p4), .val (.int p5), .val (.int p6), .val (.int vs), .val (.int ve), .val (.int vo), .val (.int vc), .val (.int vr), .val (.int kk), .unset, .unset, .unset, .unset, .unset, .unset, .unset, .unset, .unset] [(.int md)])) _
    refine XS.istore X5.here hx rfl (hb hby at_44) rfl (l' := #[.val (.int p1), .val (.int p2), .val (.int p3), .val (.int p4), .val (.int p5), .val (.int p6), .val (.int vs), .val (.int ve), .val (.int vo), .val (.int vc), .val (.int vr), .val (.int kk), .val (.int md), .unset, .unset, .unset, .unset, .unset, .unset, .unset, .unset]) rfl ?_
    show Steps p.tables e below (T5.setTop (mkF m 46 #[.val (.int p1), .val (.int p2), .val (.int p3), .val (.int p4), .val (.int p5), .val (.int p6), .val (.int vs), .val (.int ve), .val (.int vo), .val (.int vc), .val (.int vr), .val (.int kk), .val (.int md), .unset, .unset, .unset, .unset, .unset, .unset, .unset, .unset] [])) _
    refine own_j46 p1 p2 p3 p4 p5 p6 vs ve vo vc vr kk md xs h_xs X5 hx hby _ ?_
    show Steps p.tables e below (T5.setTop (mkF m 62 #[.val (.int p1), .val (.int p2), .val (.int p3), .val (.int p4), .val (.int p5), .val (.int p6), .val (.int vs), .val (.int ve), .val (.int vo), .val (.int vc), .val (.int vr), .val (.int kk), .val (.int md), .val (.int xs), .unset, .unset, .unset, .unset, .unset, .unset, .unset] [])) _
    refine own_j62 p1 p2 p3 p4 p5 p6 vs ve vo vc vr kk md xs xe h_xe X5 hx hby _ ?_
    show Steps p.tables e below (T5.setTop (mkF m 78 #[.val (.int p1), .val (.int p2), .val (.int p3), .val (.int p4), .val (.int p5), .val (.int p6), .val (.int vs), .val (.int ve), .val (.int vo), .val (.int vc), .val (.int vr), .val (.int kk), .val (.int md), .val (.int xs), .val (.int xe), .unset, .unset, .unset, .unset, .unset, .unset] [])) _
    refine own_j78 p1 p2 p3 p4 p5 p6 vs ve vo vc vr kk md xs xe xo h_xo X5 hx hby _ ?_
    show Steps p.tables e below (T5.setTop (mkF m 94 #[.val (.int p1), .val (.int p2), .val (.int p3), .val (.int p4), .val (.int p5), .val (.int p6), .val (.int vs), .val (.int ve), .val (.int vo), .val (.int vc), .val (.int vr), .val (.int kk), .val (.int md), .val (.int xs), .val (.int xe), .val (.int xo), .unset, .unset, .unset, .unset, .unset] [])) _
    refine own_j94 p1 p2 p3 p4 p5 p6 vs ve vo vc vr kk md xs xe xo xc h_xc X5 hx hby _ ?_
    show Steps p.tables e below (T5.setTop (mkF m 111 #[.val (.int p1), .val (.int p2), .val (.int p3), .val (.int p4), .val (.int p5), .val (.int p6), .val (.int vs), .val (.int ve), .val (.int vo), .val (.int vc), .val (.int vr), .val (.int kk), .val (.int md), .val (.int xs), .val (.int xe), .val (.int xo), .val (.int xc), .unset, .unset, .unset, .unset] [])) _
    refine st6 _ ?_
    show Steps p.tables e below (T6.setTop (mkF m 114 #[.val (.int p1), .val (.int p2), .val (.int p3), .val (.int p4), .val (.int p5), .val (.int p6), .val (.int vs), .val (.int ve), .val (.int vo), .val (.int vc), .val (.int vr), .val (.int kk), .val (.int md), .val (.int xs), .val (.int xe), .val (.int xo), .val (.int xc), .unset, .unset, .unset, .unset] [(.ref b6)])) _
    refine XS.dup X6.here hx rfl (hb hby at_114) rfl rfl ?_
    show Steps p.tables e below (T6.setTop (mkF m 115 #[.val (.int p1), .val (.int p2), .val (.int p3), .val (.int p4), .val (.int p5), .val (.int p6), .val (.int vs), .val (.int ve), .val (.int vo), .val (.int vc), .val (.int vr), .val (.int kk), .val (.int md), .val (.int xs), .val (.int xe), .val (.int xo), .val (.int xc), .unset, .unset, .unset, .unset] [(.ref b6), (.ref b6)])) _
    refine XS.iload X6.here hx rfl (hb hby at_115) rfl ?_
    show Steps p.tables e below (T6.setTop (mkF m 117 #[.val (.int p1), .val (.int p2), .val (.int p3), .val (.int p4), .val (.int p5), .val (.int p6), .val (.int vs), .val (.int ve), .val (.int vo), .val (.int vc), .val (.int vr), .val (.int kk), .val (.int md), .val (.int xs), .val (.int xe), .val (.int xo), .val (.int xc), .unset, .unset, .unset, .unset] [(.int vs), (.ref b6), (.ref b6)])) _
    refine XS.iload X6.here hx rfl (hb hby at_117) rfl ?_
    show Steps p.tables e below (T6.setTop (mkF m 119 #[.val (.int p1), .val (.int p2), .val (.int p3), .val (.int p4), .val (.int p5), .val (.int p6), .val (.int vs), .val (.int ve), .val (.int vo), .val (.int vc), .val (.int vr), .val (.int kk), .val (.int md), .val (.int xs), .val (.int xe), .val (.int xo), .val (.int xc), .unset, .unset, .unset, .unset] [(.int ve), (.int vs), (.ref b6), (.ref b6)])) _
    refine XS.iload X6.here hx rfl (hb hby at_119) rfl ?_
    show Steps p.tables e below (T6.setTop (mkF m 121 #[.val (.int p1), .val (.int p2), .val (.int p3), .val (.int p4), .val (.int p5), .val (.int p6), .val (.int vs), .val (.int ve), .val (.int vo), .val (.int vc), .val (.int vr), .val (.int kk), .val (.int md), .val (.int xs), .val (.int xe), .val (.int xo), .val (.int xc), .unset, .unset, .unset, .unset] [(.int vo), (.int ve), (.int vs), (.ref b6), (.ref b6)])) _
    refine XS.iload X6.here hx rfl (hb hby at_121) rfl ?_
    show Steps p.tables e below (T6.setTop (mkF m 123 #[.val (.int p1), .val (.int p2), .val (.int p3), .val (.int p4), .val (.int p5), .val (.int p6), .val (.int vs), .val (.int ve), .val (.int vo), .val (.int vc), .val (.int vr), .val (.int kk), .val (.int md), .val (.int xs), .val (.int xe), .val (.int xo), .val (.int xc), .unset, .unset, .unset, .unset] [(.int vc), (.int vo), (.int ve), (.int vs), (.ref b6), (.ref b6)])) _
    refine st7.trans ?_
    show Steps p.tables e below (T7.setTop (mkF m 126 #[.val (.int p1), .val (.int p2), .val (.int p3), .val (.int p4), .val (.int p5), .val (.int p6), .val (.int vs), .val (.int ve), .val (.int vo), .val (.int vc), .val (.int vr), .val (.int kk), .val (.int md), .val (.int xs), .val (.int xe), .val (.int xo), .val (.int xc), .unset, .unset, .unset, .unset] [(.ref b6)])) _
    refine XS.astore X7w.here hx rfl (hb hby at_126) rfl rfl (l' := #[.val (.int p1), .val (.int p2), .val (.int p3), .val (.int p4), .val (.int p5), .val (.int p6), .val (.int vs), .val (.int ve), .val (.int vo), .val (.int vc), .val (.int vr), .val (.int kk), .val (.int md), .val (.int xs), .val (.int xe), .val (.int xo), .val (.int xc), .val (.ref b6), .unset, .unset, .unset]) rfl ?_
    show Steps p.tables e below (T7.setTop (mkF m 128 #[.val (.int p1), .val (.int p2), .val (.int p3), .val (.int p4), .val (.int p5), .val (.int p6), .val (.int vs), .val (.int ve), .val (.int vo), .val (.int vc), .val (.int vr), .val (.int kk), .val (.int md), .val (.int xs), .val (.int xe), .val (.int xo), .val (.int xc), .val (.ref b6), .unset, .unset, .unset] [])) _
    refine st8 _ ?_
    show Steps p.tables e below (T8.setTop (mkF m 131 #[.val (.int p1), .val (.int p2), .val (.int p3), .val (.int p4), .val (.int p5), .val (.int p6), .val (.int vs), .val (.int ve), .val (.int vo), .val (.int vc), .val (.int vr), .val (.int kk), .val (.int md), .val (.int xs), .val (.int xe), .val (.int xo), .val (.int xc), .val (.ref b6), .unset, .unset, .unset] [(.ref b8)])) _
    refine XS.dup X8.here hx rfl (hb hby at_131) rfl rfl ?_
    show Steps p.tables e below (T8.setTop (mkF m 132 #[.val (.int p1), .val (.int p2), .val (.int p3), .val (.int p4), .val (.int p5), .val (.int p6), .val (.int vs), .val (.int ve), .val (.int vo), .val (.int vc), .val (.int vr), .val (.int kk), .val (.int md), .val (.int xs), .val (.int xe), .val (.int xo), .val (.int xc), .val (.ref b6), .unset, .unset, .unset] [(.ref b8), (.ref b8)])) _
    refine XS.iload X8.here hx rfl (hb hby at_132) rfl ?_
    show Steps p.tables e below (T8.setTop (mkF m 134 #[.val (.int p1), .val (.int p2), .val (.int p3), .val (.int p4), .val (.int p5), .val (.int p6), .val (.int vs), .val (.int ve), .val (.int vo), .val (.int vc), .val (.int vr), .val (.int kk), .val (.int md), .val (.int xs), .val (.int xe), .val (.int xo), .val (.int xc), .val (.ref b6), .unset, .unset, .unset] [(.int xs), (.ref b8), (.ref b8)])) _
    refine XS.iload X8.here hx rfl (hb hby at_134) rfl ?_
    show Steps p.tables e below (T8.setTop (mkF m 136 #[.val (.int p1), .val (.int p2), .val (.int p3), .val (.int p4), .val (.int p5), .val (.int p6), .val (.int vs), .val (.int ve), .val (.int vo), .val (.int vc), .val (.int vr), .val (.int kk), .val (.int md), .val (.int xs), .val (.int xe), .val (.int xo), .val (.int xc), .val (.ref b6), .unset, .unset, .unset] [(.int xe), (.int xs), (.ref b8), (.ref b8)])) _
    refine XS.iload X8.here hx rfl (hb hby at_136) rfl ?_
    show Steps p.tables e below (T8.setTop (mkF m 138 #[.val (.int p1), .val (.int p2), .val (.int p3), .val (.int p4), .val (.int p5), .val (.int p6), .val (.int vs), .val (.int ve), .val (.int vo), .val (.int vc), .val (.int vr), .val (.int kk), .val (.int md), .val (.int xs), .val (.int xe), .val (.int xo), .val (.int xc), .val (.ref b6), .unset, .unset, .unset] [(.int xo), (.int xe), (.int xs), (.ref b8), (.ref b8)])) _
    refine XS.iload X8.here hx rfl (hb hby at_138) rfl ?_
    show Steps p.tables e below (T8.setTop (mkF m 140 #[.val (.int p1), .val (.int p2), .val (.int p3), .val (.int p4), .val (.int p5), .val (.int p6), .val (.int vs), .val (.int ve), .val (.int vo), .val (.int vc), .val (.int vr), .val (.int kk), .val (.int md), .val (.int xs), .val (.int xe), .val (.int xo), .val (.int xc), .val (.ref b6), .unset, .unset, .unset] [(.int xc), (.int xo), (.int xe), (.int xs), (.ref b8), (.ref b8)])) _
    refine st9.trans ?_
    show Steps p.tables e below (T9.setTop (mkF m 143 #[.val (.int p1), .val (.int p2), .val (.int p3), .val (.int p4), .val (.int p5), .val (.int p6), .val (.int vs), .val (.int ve), .val (.int vo), .val (.int vc), .val (.int vr), .val (.int kk), .val (.int md), .val (.int xs), .val (.int xe), .val (.int xo), .val (.int xc), .val (.ref b6), .unset, .unset, .unset] [(.ref b8)])) _
    refine XS.astore X9w.here hx rfl (hb hby at_143) rfl rfl (l' := #[.val (.int p1), .val (.int p2), .val (.int p3), .val (.int p4), .val (.int p5), .val (.int p6), .val (.int vs), .val (.int ve), .val (.int vo), .val (.int vc), .val (.int vr), .val (.int kk), .val (.int md), .val (.int xs), .val (.int xe), .val (.int xo), .val (.int xc), .val (.ref b6), .val (.ref b8), .unset, .unset]) rfl ?_
    show Steps p.tables e below (T9.setTop (mkF m 145 #[.val (.int p1), .val (.int p2), .val (.int p3), .val (.int p4), .val (.int p5), .val (.int p6), .val (.int vs), .val (.int ve), .val (.int vo), .val (.int vc), .val (.int vr), .val (.int kk), .val (.int md), .val (.int xs), .val (.int xe), .val (.int xo), .val (.int xc), .val (.ref b6), .val (.ref b8), .unset, .unset] [])) _
    refine XS.iloadN X9w.here hx rfl (hb hby at_145) rfl ?_
    show Steps p.tables e below (T9.setTop (mkF m 146 #[.val (.int p1), .val (.int p2), .val (.int p3), .val (.int p4), .val (.int p5), .val (.int p6), .val (.int vs), .val (.int ve), .val (.int vo), .val (.int vc), .val (.int vr), .val (.int kk), .val (.int md), .val (.int xs), .val (.int xe), .val (.int xo), .val (.int xc), .val (.ref b6), .val (.ref b8), .unset, .unset] [(.int p1)])) _
    refine st10 _ ?_
    show Steps p.tables e below (T10.setTop (mkF m 149 #[.val (.int p1), .val (.int p2), .val (.int p3), .val (.int p4), .val (.int p5), .val (.int p6), .val (.int vs), .val (.int ve), .val (.int vo), .val (.int vc), .val (.int vr), .val (.int kk), .val (.int md), .val (.int xs), .val (.int xe), .val (.int xo), .val (.int xc), .val (.ref b6), .val (.ref b8), .unset, .unset] [(.ref b10)])) _
    refine XS.astore X10.here hx rfl (hb hby at_149) rfl rfl (l' := #[.val (.int p1), .val (.int p2), .val (.int p3), .val (.int p4), .val (.int p5), .val (.int p6), .val (.int vs), .val (.int ve), .val (.int vo), .val (.int vc), .val (.int vr), .val (.int kk), .val (.int md), .val (.int xs), .val (.int xe), .val (.int xo), .val (.int xc), .val (.ref b6), .val (.ref b8), .val (.ref b10), .unset]) rfl ?_
    show Steps p.tables e below (T10.setTop (mkF m 151 #[.val (.int p1), .val (.int p2), .val (.int p3), .val (.int p4), .val (.int p5), .val (.int p6), .val (.int vs), .val (.int ve), .val (.int vo), .val (.int vc), .val (.int vr), .val (.int kk), .val (.int md), .val (.int xs), .val (.int xe), .val (.int xo), .val (.int xc), .val (.ref b6), .val (.ref b8), .val (.ref b10), .unset] [])) _
    refine XS.iload X10.here hx rfl (hb hby at_151) rfl ?_
    show Steps p.tables e below (T10.setTop (mkF m 153 #[.val (.int p1), .val (.int p2), .val (.int p3), .val (.int p4), .val (.int p5), .val (.int p6), .val (.int vs), .val (.int ve), .val (.int vo), .val (.int vc), .val (.int vr), .val (.int kk), .val (.int md), .val (.int xs), .val (.int xe), .val (.int xo), .val (.int xc), .val (.ref b6), .val (.ref b8), .val (.ref b10), .unset] [(.int md)])) _
    refine XS.iconst X10.here hx rfl (hb hby at_153) ?_
    show Steps p.tables e below (T10.setTop (mkF m 154 #[.val (.int p1), .val (.int p2), .val (.int p3), .val (.int p4), .val (.int p5), .val (.int p6), .val (.int vs), .val (.int ve), .val (.int vo), .val (.int vc), .val (.int vr), .val (.int kk), .val (.int md), .val (.int xs), .val (.int xe), .val (.int xo), .val (.int xc), .val (.ref b6), .val (.ref b8), .val (.ref b10), .unset] [(.int (1 : Int32)), (.int md)])) _
    refine XS.icmpYes X10.here hx rfl (pc0 := 154) (pc' := 165) rfl (hb hby at_154) rfl (feq (hm1)).2 (by decide) (by decide) ?_
    show Steps p.tables e below (T10.setTop (mkF m 165 #[.val (.int p1), .val (.int p2), .val (.int p3), .val (.int p4), .val (.int p5), .val (.int p6), .val (.int vs), .val (.int ve), .val (.int vo), .val (.int vc), .val (.int vr), .val (.int kk), .val (.int md), .val (.int xs), .val (.int xe), .val (.int xo), .val (.int xc), .val (.ref b6), .val (.ref b8), .val (.ref b10), .unset] [])) _
    refine XS.iload X10.here hx rfl (hb hby at_165) rfl ?_
    show Steps p.tables e below (T10.setTop (mkF m 167 #[.val (.int p1), .val (.int p2), .val (.int p3), .val (.int p4), .val (.int p5), .val (.int p6), .val (.int vs), .val (.int ve), .val (.int vo), .val (.int vc), .val (.int vr), .val (.int kk), .val (.int md), .val (.int xs), .val (.int xe), .val (.int xo), .val (.int xc), .val (.ref b6), .val (.ref b8), .val (.ref b10), .unset] [(.int md)])) _
    refine XS.iconst X10.here hx rfl (hb hby at_167) ?_
    show Steps p.tables e below (T10.setTop (mkF m 168 #[.val (.int p1), .val (.int p2), .val (.int p3), .val (.int p4), .val (.int p5), .val (.int p6), .val (.int vs), .val (.int ve), .val (.int vo), .val (.int vc), .val (.int vr), .val (.int kk), .val (.int md), .val (.int xs), .val (.int xe), .val (.int xo), .val (.int xc), .val (.ref b6), .val (.ref b8), .val (.ref b10), .unset] [(.int (2 : Int32)), (.int md)])) _
    refine XS.icmpYes X10.here hx rfl (pc0 := 168) (pc' := 186) rfl (hb hby at_168) rfl (feq (hm2)).2 (by decide) (by decide) ?_
    show Steps p.tables e below (T10.setTop (mkF m 186 #[.val (.int p1), .val (.int p2), .val (.int p3), .val (.int p4), .val (.int p5), .val (.int p6), .val (.int vs), .val (.int ve), .val (.int vo), .val (.int vc), .val (.int vr), .val (.int kk), .val (.int md), .val (.int xs), .val (.int xe), .val (.int xo), .val (.int xc), .val (.ref b6), .val (.ref b8), .val (.ref b10), .unset] [])) _
    refine XS.iload X10.here hx rfl (hb hby at_186) rfl ?_
    show Steps p.tables e below (T10.setTop (mkF m 188 #[.val (.int p1), .val (.int p2), .val (.int p3), .val (.int p4), .val (.int p5), .val (.int p6), .val (.int vs), .val (.int ve), .val (.int vo), .val (.int vc), .val (.int vr), .val (.int kk), .val (.int md), .val (.int xs), .val (.int xe), .val (.int xo), .val (.int xc), .val (.ref b6), .val (.ref b8), .val (.ref b10), .unset] [(.int md)])) _
    refine XS.iconst X10.here hx rfl (hb hby at_188) ?_
    show Steps p.tables e below (T10.setTop (mkF m 189 #[.val (.int p1), .val (.int p2), .val (.int p3), .val (.int p4), .val (.int p5), .val (.int p6), .val (.int vs), .val (.int ve), .val (.int vo), .val (.int vc), .val (.int vr), .val (.int kk), .val (.int md), .val (.int xs), .val (.int xe), .val (.int xo), .val (.int xc), .val (.ref b6), .val (.ref b8), .val (.ref b10), .unset] [(.int (3 : Int32)), (.int md)])) _
    refine XS.icmpNo X10.here hx rfl (hb hby at_189) rfl (teq (hm3)).2 ?_
    show Steps p.tables e below (T10.setTop (mkF m 192 #[.val (.int p1), .val (.int p2), .val (.int p3), .val (.int p4), .val (.int p5), .val (.int p6), .val (.int vs), .val (.int ve), .val (.int vo), .val (.int vc), .val (.int vr), .val (.int kk), .val (.int md), .val (.int xs), .val (.int xe), .val (.int xo), .val (.int xc), .val (.ref b6), .val (.ref b8), .val (.ref b10), .unset] [])) _
    refine XS.aload X10.here hx rfl (hb hby at_192) rfl rfl ?_
    show Steps p.tables e below (T10.setTop (mkF m 194 #[.val (.int p1), .val (.int p2), .val (.int p3), .val (.int p4), .val (.int p5), .val (.int p6), .val (.int vs), .val (.int ve), .val (.int vo), .val (.int vc), .val (.int vr), .val (.int kk), .val (.int md), .val (.int xs), .val (.int xe), .val (.int xo), .val (.int xc), .val (.ref b6), .val (.ref b8), .val (.ref b10), .unset] [(.ref b6)])) _
    refine XS.aload X10.here hx rfl (hb hby at_194) rfl rfl ?_
    show Steps p.tables e below (T10.setTop (mkF m 196 #[.val (.int p1), .val (.int p2), .val (.int p3), .val (.int p4), .val (.int p5), .val (.int p6), .val (.int vs), .val (.int ve), .val (.int vo), .val (.int vc), .val (.int vr), .val (.int kk), .val (.int md), .val (.int xs), .val (.int xe), .val (.int xo), .val (.int xc), .val (.ref b6), .val (.ref b8), .val (.ref b10), .unset] [(.ref b10), (.ref b6)])) _
    refine st11.trans ?_
    show Steps p.tables e below (T11.setTop (mkF m 199 #[.val (.int p1), .val (.int p2), .val (.int p3), .val (.int p4), .val (.int p5), .val (.int p6), .val (.int vs), .val (.int ve), .val (.int vo), .val (.int vc), .val (.int vr), .val (.int kk), .val (.int md), .val (.int xs), .val (.int xe), .val (.int xo), .val (.int xc), .val (.ref b6), .val (.ref b8), .val (.ref b10), .unset] [(.int (0 : Int32))])) _
    refine XS.ifNo X11.here hx rfl (hb hby at_199) rfl ((if0 _ _).trans (teq (by decide : (0 : Int32) = (0 : Int32))).2) ?_
    show Steps p.tables e below (T11.setTop (mkF m 202 #[.val (.int p1), .val (.int p2), .val (.int p3), .val (.int p4), .val (.int p5), .val (.int p6), .val (.int vs), .val (.int ve), .val (.int vo), .val (.int vc), .val (.int vr), .val (.int kk), .val (.int md), .val (.int xs), .val (.int xe), .val (.int xo), .val (.int xc), .val (.ref b6), .val (.ref b8), .val (.ref b10), .unset] [])) _
    refine XS.iconst X11.here hx rfl (hb hby at_202) ?_
    show Steps p.tables e below (T11.setTop (mkF m 203 #[.val (.int p1), .val (.int p2), .val (.int p3), .val (.int p4), .val (.int p5), .val (.int p6), .val (.int vs), .val (.int ve), .val (.int vo), .val (.int vc), .val (.int vr), .val (.int kk), .val (.int md), .val (.int xs), .val (.int xe), .val (.int xo), .val (.int xc), .val (.ref b6), .val (.ref b8), .val (.ref b10), .unset] [(.int (1 : Int32))])) _
    refine XS.goto X11.here hx rfl (pc0 := 203) (pc' := 207) rfl (hb hby at_203) (by decide) (by decide) ?_
    show Steps p.tables e below (T11.setTop (mkF m 207 #[.val (.int p1), .val (.int p2), .val (.int p3), .val (.int p4), .val (.int p5), .val (.int p6), .val (.int vs), .val (.int ve), .val (.int vo), .val (.int vc), .val (.int vr), .val (.int kk), .val (.int md), .val (.int xs), .val (.int xe), .val (.int xo), .val (.int xc), .val (.ref b6), .val (.ref b8), .val (.ref b10), .unset] [(.int (1 : Int32))])) _
    exact retN X11 hx (t := .boolean) Bd.returns (by simp) (hb hby at_207) hr
  · show QL (.int (1 : Int32)) n0 _ T11.heap _
    exact ⟨rfl, N11, trivial⟩
theorem ef_rm0_3 (m : MethodId) (p1 : Int32) (p2 : Int32) (p3 : Int32) (p4 : Int32) (p5 : Int32) (p6 : Int32) : entryFrame m #[(.int p1), (.int p2), (.int p3), (.int p4), (.int p5), (.int p6)] maxLocals = mkF m 0 #[.val (.int p1), .val (.int p2), .val (.int p3), .val (.int p4), .val (.int p5), .val (.int p6), .unset, .unset, .unset, .unset, .unset, .unset, .unset, .unset, .unset, .unset, .unset, .unset, .unset, .unset, .unset] [] := by first | (simp [entryFrame, mkF, argsToLocals, Value.category, maxLocals]; done) | rfl
set_option maxRecDepth 65536 in
set_option maxHeartbeats 40000000 in
theorem rm0_3 (l : Launch) (Z : State) (a0 : Array Value) (hw : ∀ d ∈ tables_1, d.before a0 Z = true) (ws : List Jvm.Cond) (p1 : Int32) (p2 : Int32) (p3 : Int32) (p4 : Int32) (p5 : Int32) (p6 : Int32) (vs : Int32) (ve : Int32) (vo : Int32) (vc : Int32) (vr : Int32) (kk : Int32) (md : Int32) (xs : Int32) (xe : Int32) (xo : Int32) (xc : Int32) (z : Int32) (w_c : Addr) (cl : Cell) (val : Int32 → Value) (h0 : Heap) (n0 : Nat) (Z0 : n0 ≤ h0.size) (h_vs : vs = (if p1 < (1 : Int32) then (-1 : Int32) else p1)) (h_ve : ve = (if p2 < (1 : Int32) then (-1 : Int32) else p2)) (h_vo : vo = (if p3 < (1 : Int32) then (-1 : Int32) else p3)) (h_vc : vc = (if p4 < (1 : Int32) then (-1 : Int32) else p4)) (h_vr : vr = (if p6 < (1 : Int32) then (-1 : Int32) else p6)) (hkk : (p5 &&& (15 : Int32)) = kk) (hmd : (((p5.toUInt32 >>> ((4 : Int32) &&& 31).toUInt32).toInt32) &&& (3 : Int32)) = md) (h_xs : xs = (if (kk &&& (1 : Int32)) = (0 : Int32) then vs else vr)) (h_xe : xe = (if (kk &&& (2 : Int32)) = (0 : Int32) then ve else vr)) (h_xo : xo = (if (kk &&& (4 : Int32)) = (0 : Int32) then vo else vr)) (h_xc : xc = (if (kk &&& (8 : Int32)) = (0 : Int32) then vc else vr)) (hp_vs : vs < (1 : Int32) → vs = (-1 : Int32)) (hp_ve : ve < (1 : Int32) → ve = (-1 : Int32)) (hp_vo : vo < (1 : Int32) → vo = (-1 : Int32)) (hp_vc : vc < (1 : Int32) → vc = (-1 : Int32)) (hp_xs : xs < (1 : Int32) → xs = (-1 : Int32)) (hp_xe : xe < (1 : Int32) → xe = (-1 : Int32)) (hp_xo : xo < (1 : Int32) → xo = (-1 : Int32)) (hp_xc : xc < (1 : Int32) → xc = (-1 : Int32)) (hz1 : z = (if vs = xs then (if ve = xe then (if vo = xo then (if vc = xc then (1 : Int32) else (0 : Int32)) else (0 : Int32)) else (0 : Int32)) else (0 : Int32))) (hz2 : z = (if xs = vs then (if xe = ve then (if xo = vo then (if xc = vc then (1 : Int32) else (0 : Int32)) else (0 : Int32)) else (0 : Int32)) else (0 : Int32))) (S_high : Sta Z h0 "java/lang/Integer$IntegerCache" "high" "I" (.int (127 : Int32))) (S_cache : Sta Z h0 "java/lang/Integer$IntegerCache" "cache" "[Ljava/lang/Integer;" (.ref w_c)) (Bx : Bxs Z w_c cl "java/lang/Integer" "I" (256 : Int32) val) (EZ : Ext Z.heap h0) (hm1 : ¬ md = (1 : Int32)) (hm2 : ¬ md = (2 : Int32)) (hm3 : ¬ md = (3 : Int32)) :
    MetFree l x (head1 (Jvm.Cond.code x code maxLocals ret :: ws) room_1) (fun a U => a = #[(.int p1), (.int p2), (.int p3), (.int p4), (.int p5), (.int p6)] ∧ Z.Warmed39 U.vm ∧ U.heap = h0) (fun _ _ _ _ _ => True) (fun _ U o U' => ∃ v L, o = .returned v ∧ QL (.int (1 : Int32)) n0 v U'.heap L ∧ ReturnedEndW U o U' L room_1.cells room_1.slots) := by
  refine MetFree.of_bodySF (plainFor_of_name pnm_0) hisR ?_
  intro p e s m args below meth c s₁ Bd hml0 hP hK
  obtain ⟨rfl, hZ, hh⟩ := hP
  have hx := Bd.exec
  have hby := Bd.bytes
  have hml : c.maxLocals = 21 := hml0
  have hown : s.vm.findClass "com/example/segmentwise/segmentwise/model/LocationEqualsPinLaw" = some m.cls := findClass_of_methodNamed Bd.named
  have hnm := (name_of_methodNamed Bd.named Bd.method).1
  have X0 : Stand p l e room_1 s m #[(.int p1), (.int p2), (.int p3), (.int p4), (.int p5), (.int p6)] below meth c s₁ [] 0 0 := Stand.of_body Bd
  have e0 : s₁.heap = h0 := by rw [← hh, Bd.state]; rfl
  have N0 := Fr.nil n0
  have pre0 : ∀ t, Steps p.tables e below (s₁.setTop (mkF m 0 #[.val (.int p1), .val (.int p2), .val (.int p3), .val (.int p4), .val (.int p5), .val (.int p6), .unset, .unset, .unset, .unset, .unset, .unset, .unset, .unset, .unset, .unset, .unset, .unset, .unset, .unset, .unset] [])) t → Steps p.tables e below (s₁.setTop (entryFrame m #[(.int p1), (.int p2), (.int p3), (.int p4), (.int p5), (.int p6)] maxLocals)) t := fun t k => castTop (ef_rm0_3 m p1 p2 p3 p4 p5 p6) k
  have hS0 : s.Since s.vm 0 := (State.WarmedH.refl s).since 0
  obtain ⟨_, _, ⟨T1, L1, k1, n1⟩, -, X1, ⟨Lc1, hQ1, l1, y1, z1⟩, st1⟩ := Jvm.LawKit.callS X0 hx (y := (⟨"com/example/segmentwise/segmentwise/model/LocationEqualsPinLaw", "pos", "(I)I"⟩ : MethodName)) hown (mvT hZ (hw _ (List.mem_of_getElem? (i := 0) rfl))) (mvT hZ (hw _ (List.mem_of_getElem? (i := 1) rfl))) (mvT hZ (hw _ (List.mem_of_getElem? (i := 2) rfl))) (mvT hZ (hw _ (List.mem_of_getElem? (i := 3) rfl))) (by decide) (backOf (W := 0) (rm1 l Z a0 hw [] p1 h0 n0 Z0 vs h_vs) hZ (hw _ (List.mem_of_getElem? (i := 3) rfl)) (hw _ (List.mem_of_getElem? (i := 2) rfl)) (by decide) (by decide)) (g := (mkF m 1 #[.val (.int p1), .val (.int p2), .val (.int p3), .val (.int p4), .val (.int p5), .val (.int p6), .unset, .unset, .unset, .unset, .unset, .unset, .unset, .unset, .unset, .unset, .unset, .unset, .unset, .unset, .unset] [(.int p1)])) rfl (by rw [hml]; rfl) (argsL := [(.int p1)]) (rest := []) (lenOf pdm_3 rfl) rfl (by show 2 * 0 + _ ≤ _; exact Nat.le_of_eq rfl) (hb hby at_1) (fun _ _ => ⟨rfl, e0, (by decide : 0 + 0 ≤ _), (by decide : 0 + 0 ≤ _)⟩)
  dsimp only [Pt.U, Pt.locs, Pt.cells, Pt.slots] at X1 l1 y1 z1 st1 hQ1
  subst l1 y1 z1
  obtain ⟨rfl, N1q, e1⟩ := hQ1
  have N1 := Fr.app N0 N1q
  obtain ⟨_, _, ⟨T2, L2, k2, n2⟩, -, X2, ⟨Lc2, hQ2, l2, y2, z2⟩, st2⟩ := Jvm.LawKit.callS X1 hx (y := (⟨"com/example/segmentwise/segmentwise/model/LocationEqualsPinLaw", "pos", "(I)I"⟩ : MethodName)) hown (mvT hZ (hw _ (List.mem_of_getElem? (i := 0) rfl))) (mvT hZ (hw _ (List.mem_of_getElem? (i := 1) rfl))) (mvT hZ (hw _ (List.mem_of_getElem? (i := 2) rfl))) (mvT hZ (hw _ (List.mem_of_getElem? (i := 3) rfl))) (by decide) (backOf (W := 0) (rm1 l Z a0 hw [] p2 h0 n0 Z0 ve h_ve) hZ (hw _ (List.mem_of_getElem? (i := 3) rfl)) (hw _ (List.mem_of_getElem? (i := 2) rfl)) (by decide) (by decide)) (g := (mkF m 7 #[.val (.int p1), .val (.int p2), .val (.int p3), .val (.int p4), .val (.int p5), .val (.int p6), .val (.int vs), .unset, .unset, .unset, .unset, .unset, .unset, .unset, .unset, .unset, .unset, .unset, .unset, .unset, .unset] [(.int p2)])) rfl (by rw [hml]; rfl) (argsL := [(.int p2)]) (rest := []) (lenOf pdm_3 rfl) rfl (by show 2 * 0 + _ ≤ _; exact Nat.le_of_eq rfl) (hb hby at_7) (fun _ _ => ⟨rfl, e1, (by decide : 0 + 0 ≤ _), (by decide : 0 + 0 ≤ _)⟩)
  dsimp only [Pt.U, Pt.locs, Pt.cells, Pt.slots] at X2 l2 y2 z2 st2 hQ2
  subst l2 y2 z2
  obtain ⟨rfl, N2q, e2⟩ := hQ2
  have N2 := Fr.app N1 N2q
  obtain ⟨_, _, ⟨T3, L3, k3, n3⟩, -, X3, ⟨Lc3, hQ3, l3, y3, z3⟩, st3⟩ := Jvm.LawKit.callS X2 hx (y := (⟨"com/example/segmentwise/segmentwise/model/LocationEqualsPinLaw", "pos", "(I)I"⟩ : MethodName)) hown (mvT hZ (hw _ (List.mem_of_getElem? (i := 0) rfl))) (mvT hZ (hw _ (List.mem_of_getElem? (i := 1) rfl))) (mvT hZ (hw _ (List.mem_of_getElem? (i := 2) rfl))) (mvT hZ (hw _ (List.mem_of_getElem? (i := 3) rfl))) (by decide) (backOf (W := 0) (rm1 l Z a0 hw [] p3 h0 n0 Z0 vo h_vo) hZ (hw _ (List.mem_of_getElem? (i := 3) rfl)) (hw _ (List.mem_of_getElem? (i := 2) rfl)) (by decide) (by decide)) (g := (mkF m 13 #[.val (.int p1), .val (.int p2), .val (.int p3), .val (.int p4), .val (.int p5), .val (.int p6), .val (.int vs), .val (.int ve), .unset, .unset, .unset, .unset, .unset, .unset, .unset, .unset, .unset, .unset, .unset, .unset, .unset] [(.int p3)])) rfl (by rw [hml]; rfl) (argsL := [(.int p3)]) (rest := []) (lenOf pdm_3 rfl) rfl (by show 2 * 0 + _ ≤ _; exact Nat.le_of_eq rfl) (hb hby at_13) (fun _ _ => ⟨rfl, e2, (by decide : 0 + 0 ≤ _), (by decide : 0 + 0 ≤ _)⟩)
  dsimp only [Pt.U, Pt.locs, Pt.cells, Pt.slots] at X3 l3 y3 z3 st3 hQ3
  subst l3 y3 z3
  obtain ⟨rfl, N3q, e3⟩ := hQ3
  have N3 := Fr.app N2 N3q
  obtain ⟨_, _, ⟨T4, L4, k4, n4⟩, -, X4, ⟨Lc4, hQ4, l4, y4, z4⟩, st4⟩ := Jvm.LawKit.callS X3 hx (y := (⟨"com/example/segmentwise/segmentwise/model/LocationEqualsPinLaw", "pos", "(I)I"⟩ : MethodName)) hown (mvT hZ (hw _ (List.mem_of_getElem? (i := 0) rfl))) (mvT hZ (hw _ (List.mem_of_getElem? (i := 1) rfl))) (mvT hZ (hw _ (List.mem_of_getElem? (i := 2) rfl))) (mvT hZ (hw _ (List.mem_of_getElem? (i := 3) rfl))) (by decide) (backOf (W := 0) (rm1 l Z a0 hw [] p4 h0 n0 Z0 vc h_vc) hZ (hw _ (List.mem_of_getElem? (i := 3) rfl)) (hw _ (List.mem_of_getElem? (i := 2) rfl)) (by decide) (by decide)) (g := (mkF m 19 #[.val (.int p1), .val (.int p2), .val (.int p3), .val (.int p4), .val (.int p5), .val (.int p6), .val (.int vs), .val (.int ve), .val (.int vo), .unset, .unset, .unset, .unset, .unset, .unset, .unset, .unset, .unset, .unset, .unset, .unset] [(.int p4)])) rfl (by rw [hml]; rfl) (argsL := [(.int p4)]) (rest := []) (lenOf pdm_3 rfl) rfl (by show 2 * 0 + _ ≤ _; exact Nat.le_of_eq rfl) (hb hby at_19) (fun _ _ => ⟨rfl, e3, (by decide : 0 + 0 ≤ _), (by decide : 0 + 0 ≤ _)⟩)
  dsimp only [Pt.U, Pt.locs, Pt.cells, Pt.slots] at X4 l4 y4 z4 st4 hQ4
  subst l4 y4 z4
  obtain ⟨rfl, N4q, e4⟩ := hQ4
  have N4 := Fr.app N3 N4q
  obtain ⟨_, _, ⟨T5, L5, k5, n5⟩, -, X5, ⟨Lc5, hQ5, l5, y5, z5⟩, st5⟩ := Jvm.LawKit.callS X4 hx (y := (⟨"com/example/segmentwise/segmentwise/model/LocationEqualsPinLaw", "pos", "(I)I"⟩ : MethodName)) hown (mvT hZ (hw _ (List.mem_of_getElem? (i := 0) rfl))) (mvT hZ (hw _ (List.mem_of_getElem? (i := 1) rfl))) (mvT hZ (hw _ (List.mem_of_getElem? (i := 2) rfl))) (mvT hZ (hw _ (List.mem_of_getElem? (i := 3) rfl))) (by decide) (backOf (W := 0) (rm1 l Z a0 hw [] p6 h0 n0 Z0 vr h_vr) hZ (hw _ (List.mem_of_getElem? (i := 3) rfl)) (hw _ (List.mem_of_getElem? (i := 2) rfl)) (by decide) (by decide)) (g := (mkF m 26 #[.val (.int p1), .val (.int p2), .val (.int p3), .val (.int p4), .val (.int p5), .val (.int p6), .val (.int vs), .val (.int ve), .val (.int vo), .val (.int vc), .unset, .unset, .unset, .unset, .unset, .unset, .unset, .unset, .unset, .unset, .unset] [(.int p6)])) rfl (by rw [hml]; rfl) (argsL := [(.int p6)]) (rest := []) (lenOf pdm_3 rfl) rfl (by show 2 * 0 + _ ≤ _; exact Nat.le_of_eq rfl) (hb hby at_26) (fun _ _ => ⟨rfl, e4, (by decide : 0 + 0 ≤ _), (by decide : 0 + 0 ≤ _)⟩)
  dsimp only [Pt.U, Pt.locs, Pt.cells, Pt.slots] at X5 l5 y5 z5 st5 hQ5
  subst l5 y5 z5
  obtain ⟨rfl, N5q, e5⟩ := hQ5
  have N5 := Fr.app N4 N5q
  obtain ⟨T6, h6, X6, e6, E6, A6, D6, -, st6⟩ := newO X5 hx hZ hown (hw _ (List.mem_of_getElem? (i := 4) rfl)) (hw _ (List.mem_of_getElem? (i := 5) rfl)) (hw _ (List.mem_of_getElem? (i := 6) rfl)) e5 (g := (mkF m 111 #[.val (.int p1), .val (.int p2), .val (.int p3), .val (.int p4), .val (.int p5), .val (.int p6), .val (.int vs), .val (.int ve), .val (.int vo), .val (.int vc), .val (.int vr), .val (.int kk), .val (.int md), .val (.int xs), .val (.int xe), .val (.int xo), .val (.int xc), .unset, .unset, .unset, .unset] [])) rfl (hb hby at_111) (by decide) (by decide)
  obtain ⟨b6, g6⟩ : ∃ z, z = h0.size := ⟨_, rfl⟩
  rw [← g6] at A6 D6 st6
  have gb6 : n0 ≤ b6 := Nat.le_trans Z0 (Nat.le_of_eq g6.symm)
  have F_segmentPosition_b6 : Fld Z h6 b6 "com/example/segmentwise/segmentwise/model/Location" "segmentPosition" "I" (.int (0 : Int32)) := D6 (Or.inr (hw _ (List.mem_of_getElem? (i := 25) rfl))) (ty := .int) (by decide)
  have F_elementPosition_b6 : Fld Z h6 b6 "com/example/segmentwise/segmentwise/model/Location" "elementPosition" "I" (.int (0 : Int32)) := D6 (Or.inr (hw _ (List.mem_of_getElem? (i := 28) rfl))) (ty := .int) (by decide)
  have F_elementOccurrence_b6 : Fld Z h6 b6 "com/example/segmentwise/segmentwise/model/Location" "elementOccurrence" "I" (.int (0 : Int32)) := D6 (Or.inr (hw _ (List.mem_of_getElem? (i := 31) rfl))) (ty := .int) (by decide)
  have F_componentPosition_b6 : Fld Z h6 b6 "com/example/segmentwise/segmentwise/model/Location" "componentPosition" "I" (.int (0 : Int32)) := D6 (Or.inr (hw _ (List.mem_of_getElem? (i := 34) rfl))) (ty := .int) (by decide)
  obtain ⟨_, _, ⟨T7, L7, k7, n7⟩, -, X7, hs7, hge7, ⟨Lc7, hQ7, l7, y7, z7⟩, st7⟩ := X6.specialBackS hx (y := (⟨"com/example/segmentwise/segmentwise/model/Location", "<init>", "(IIII)V"⟩ : MethodName)) rfl hown (mvT hZ (hw _ (List.mem_of_getElem? (i := 7) rfl))) (mvT hZ (hw _ (List.mem_of_getElem? (i := 8) rfl))) (mvT hZ (hw _ (List.mem_of_getElem? (i := 9) rfl))) (by decide) (backOfS (W := 1) (rm2 l Z a0 hw [] b6 vs ve vo vc _ _ _ _ h6 n0 (Nat.le_trans Z0 E6.1) A6 F_segmentPosition_b6 F_elementPosition_b6 F_elementOccurrence_b6 F_componentPosition_b6 gb6 hp_vs hp_ve hp_vo hp_vc) hZ (hw _ (List.mem_of_getElem? (i := 9) rfl)) (hw _ (List.mem_of_getElem? (i := 6) rfl)) (by decide) (by decide)) (g := (mkF m 123 #[.val (.int p1), .val (.int p2), .val (.int p3), .val (.int p4), .val (.int p5), .val (.int p6), .val (.int vs), .val (.int ve), .val (.int vo), .val (.int vc), .val (.int vr), .val (.int kk), .val (.int md), .val (.int xs), .val (.int xe), .val (.int xo), .val (.int xc), .unset, .unset, .unset, .unset] [(.int vc), (.int vo), (.int ve), (.int vs), (.ref b6), (.ref b6)])) rfl (by rw [hml]; rfl) (Steps.refl _) (a := b6) (argsL := [(.int vs), (.int ve), (.int vo), (.int vc)]) (rest := [(.ref b6)]) (lenOf pdm_4 rfl) rfl (by show 2 * 0 + _ ≤ _; exact Nat.le_of_eq rfl) (hb hby at_123) (fun _ _ => ⟨rfl, e6, (by decide : 1 + 8 ≤ _), (by decide : 4 + 288 ≤ _)⟩)
  dsimp only [Pt.U, Pt.locs, Pt.cells, Pt.slots] at X7 hs7 hge7 l7 y7 z7 st7 hQ7
  subst l7 y7 z7
  obtain ⟨rfl, N7q, K7, A7c, F7a, F7b, F7c, F7d⟩ := hQ7
  obtain ⟨X7w, hS7, hZ7, hown7⟩ := rebS (s := s) (vm0 := s.vm) hS0 (by rw [e6]; exact (Nat.le_trans (Nat.zero_le _) E6.1)) X7 hs7 hge7 hZ hown
  have Ec7 := own_extK E6 g6 K7
  have N7 := Fr.app N5 N7q
  obtain ⟨T8, h8, X8, e8, E8, A8, D8, -, st8⟩ := newO X7w hx hZ7 hown7 (hw _ (List.mem_of_getElem? (i := 4) rfl)) (hw _ (List.mem_of_getElem? (i := 5) rfl)) (hw _ (List.mem_of_getElem? (i := 6) rfl)) rfl (g := (mkF m 128 #[.val (.int p1), .val (.int p2), .val (.int p3), .val (.int p4), .val (.int p5), .val (.int p6), .val (.int vs), .val (.int ve), .val (.int vo), .val (.int vc), .val (.int vr), .val (.int kk), .val (.int md), .val (.int xs), .val (.int xe), .val (.int xo), .val (.int xc), .val (.ref b6), .unset, .unset, .unset] [])) rfl (hb hby at_128) (by decide) (by decide)
  obtain ⟨b8, g8⟩ : ∃ z, z = T7.heap.size := ⟨_, rfl⟩
  rw [← g8] at A8 D8 st8
  have gb8 : n0 ≤ b8 := Nat.le_trans (Nat.le_trans Z0 Ec7.1) (Nat.le_of_eq g8.symm)
  have F_segmentPosition_b8 : Fld Z h8 b8 "com/example/segmentwise/segmentwise/model/Location" "segmentPosition" "I" (.int (0 : Int32)) := D8 (Or.inr (hw _ (List.mem_of_getElem? (i := 25) rfl))) (ty := .int) (by decide)
  have F_elementPosition_b8 : Fld Z h8 b8 "com/example/segmentwise/segmentwise/model/Location" "elementPosition" "I" (.int (0 : Int32)) := D8 (Or.inr (hw _ (List.mem_of_getElem? (i := 28) rfl))) (ty := .int) (by decide)
  have F_elementOccurrence_b8 : Fld Z h8 b8 "com/example/segmentwise/segmentwise/model/Location" "elementOccurrence" "I" (.int (0 : Int32)) := D8 (Or.inr (hw _ (List.mem_of_getElem? (i := 31) rfl))) (ty := .int) (by decide)
  have F_componentPosition_b8 : Fld Z h8 b8 "com/example/segmentwise/segmentwise/model/Location" "componentPosition" "I" (.int (0 : Int32)) := D8 (Or.inr (hw _ (List.mem_of_getElem? (i := 34) rfl))) (ty := .int) (by decide)
  have hne12 : ¬ b6 = b8 := Nat.ne_of_lt (Nat.lt_of_lt_of_le A7c.lt (Nat.le_of_eq g8.symm))
  obtain ⟨_, _, ⟨T9, L9, k9, n9⟩, -, X9, hs9, hge9, ⟨Lc9, hQ9, l9, y9, z9⟩, st9⟩ := X8.specialBackS hx (y := (⟨"com/example/segmentwise/segmentwise/model/Location", "<init>", "(IIII)V"⟩ : MethodName)) rfl hown7 (mvT hZ7 (hw _ (List.mem_of_getElem? (i := 7) rfl))) (mvT hZ7 (hw _ (List.mem_of_getElem? (i := 8) rfl))) (mvT hZ7 (hw _ (List.mem_of_getElem? (i := 9) rfl))) (by decide) (backOfS (W := 1) (rm2 l Z a0 hw [] b8 xs xe xo xc _ _ _ _ h8 n0 (Nat.le_trans (Nat.le_trans Z0 Ec7.1) E8.1) A8 F_segmentPosition_b8 F_elementPosition_b8 F_elementOccurrence_b8 F_componentPosition_b8 gb8 hp_xs hp_xe hp_xo hp_xc) hZ7 (hw _ (List.mem_of_getElem? (i := 9) rfl)) (hw _ (List.mem_of_getElem? (i := 6) rfl)) (by decide) (by decide)) (g := (mkF m 140 #[.val (.int p1), .val (.int p2), .val (.int p3), .val (.int p4), .val (.int p5), .val (.int p6), .val (.int vs), .val (.int ve), .val (.int vo), .val (.int vc), .val (.int vr), .val (.int kk), .val (.int md), .val (.int xs), .val (.int xe), .val (.int xo), .val (.int xc), .val (.ref b6), .unset, .unset, .unset] [(.int xc), (.int xo), (.int xe), (.int xs), (.ref b8), (.ref b8)])) rfl (by rw [hml]; rfl) (Steps.refl _) (a := b8) (argsL := [(.int xs), (.int xe), (.int xo), (.int xc)]) (rest := [(.ref b8)]) (lenOf pdm_4 rfl) rfl (by show 2 * 0 + _ ≤ _; exact Nat.le_of_eq rfl) (hb hby at_140) (fun _ _ => ⟨rfl, e8, (by decide : 10 + 8 ≤ _), (by decide : 296 + 288 ≤ _)⟩)
  dsimp only [Pt.U, Pt.locs, Pt.cells, Pt.slots] at X9 hs9 hge9 l9 y9 z9 st9 hQ9
  subst l9 y9 z9
  obtain ⟨rfl, N9q, K9, A9c, F9a, F9b, F9c, F9d⟩ := hQ9
  obtain ⟨X9w, hS9, hZ9, hown9⟩ := rebS (s := s) (vm0 := T7.vm) hS7 (by rw [e8]; exact (Nat.le_trans (Nat.le_refl _) E8.1)) X9 hs9 hge9 hZ7 hown7
  have Ec9 := own_extK E8 g8 K9
  have N9 := Fr.app N7 N9q
  obtain ⟨_, _, ⟨T10, L10, k10, n10⟩, -, X10, ⟨Lc10, hQ10, l10, y10, z10⟩, st10⟩ := Jvm.LawKit.callS X9w hx (y := (⟨"java/lang/Integer", "valueOf", "(I)Ljava/lang/Integer;"⟩ : MethodName)) hown9 (mvT hZ9 (hw _ (List.mem_of_getElem? (i := 35) rfl))) (mvT hZ9 (hw _ (List.mem_of_getElem? (i := 36) rfl))) (mvT hZ9 (hw _ (List.mem_of_getElem? (i := 37) rfl))) (mvT hZ9 (hw _ (List.mem_of_getElem? (i := 38) rfl))) (by decide) (backOf (W := 0) (rm5 l Z a0 hw [] p1 w_c cl val T9.heap n0 (Nat.le_trans (Nat.le_trans Z0 Ec7.1) Ec9.1) ((S_high.ext Ec7).ext Ec9) ((S_cache.ext Ec7).ext Ec9) Bx (own_ext_trans EZ (own_ext_trans Ec7 Ec9))) hZ9 (hw _ (List.mem_of_getElem? (i := 38) rfl)) (hw _ (List.mem_of_getElem? (i := 37) rfl)) (by decide) (by decide)) (g := (mkF m 146 #[.val (.int p1), .val (.int p2), .val (.int p3), .val (.int p4), .val (.int p5), .val (.int p6), .val (.int vs), .val (.int ve), .val (.int vo), .val (.int vc), .val (.int vr), .val (.int kk), .val (.int md), .val (.int xs), .val (.int xe), .val (.int xo), .val (.int xc), .val (.ref b6), .val (.ref b8), .unset, .unset] [(.int p1)])) rfl (by rw [hml]; rfl) (argsL := [(.int p1)]) (rest := []) (lenOf pdm_5 rfl) rfl (by show 2 * 0 + _ ≤ _; exact Nat.le_of_eq rfl) (hb hby at_146) (fun _ _ => ⟨rfl, rfl, (by decide : 18 + 1 ≤ _), (by decide : 584 + 1 ≤ _)⟩)
  dsimp only [Pt.U, Pt.locs, Pt.cells, Pt.slots] at X10 l10 y10 z10 st10 hQ10
  subst l10 y10 z10
  obtain ⟨b10, rfl, N10q, Ex10, A10⟩ := hQ10
  have N10 := Fr.app N9 N10q
  obtain ⟨cq11, kq11, q11a, q11b, q11c⟩ := isOf hZ9 rfl ((A7c.ext Ec9).ext Ex10)
  obtain ⟨_, _, ⟨T11, L11, k11, n11⟩, -, X11, ⟨Lc11, hQ11, l11, y11, z11⟩, st11⟩ := X10.virtualBack hx (y := (⟨"com/example/segmentwise/segmentwise/model/Location", "equals", "(Ljava/lang/Object;)Z"⟩ : MethodName)) (z := (⟨"com/example/segmentwise/segmentwise/model/Location", "equals", "(Ljava/lang/Object;)Z"⟩ : MethodName)) hown9 (mvT hZ9 (hw _ (List.mem_of_getElem? (i := 42) rfl))) (mvT hZ9 (hw _ (List.mem_of_getElem? (i := 43) rfl))) (notFace_of_selects (args := #[]) (mvT hZ9 (hw _ (List.mem_of_getElem? (i := 45) rfl)))) (mvT hZ9 (hw _ (List.mem_of_getElem? (i := 45) rfl))) (mvT hZ9 (hw _ (List.mem_of_getElem? (i := 44) rfl))) (by decide) (backOf (W := 0) (rm6o l Z a0 hw [] b6 b8 vs ve vo vc xs xe xo xc T10.heap n0 (Nat.le_trans (Nat.le_trans (Nat.le_trans Z0 Ec7.1) Ec9.1) Ex10.1) hne12 ((A7c.ext Ec9).ext Ex10) ((F7a.ext Ec9).ext Ex10) ((F7b.ext Ec9).ext Ex10) ((F7c.ext Ec9).ext Ex10) ((F7d.ext Ec9).ext Ex10) (A9c.ext Ex10) (F9a.ext Ex10) (F9b.ext Ex10) (F9c.ext Ex10) (F9d.ext Ex10) z hz1) hZ9 (hw _ (List.mem_of_getElem? (i := 46) rfl)) (hw _ (List.mem_of_getElem? (i := 6) rfl)) (by decide) (by decide)) q11a q11c (g := (mkF m 247 #[.val (.int p1), .val (.int p2), .val (.int p3), .val (.int p4), .val (.int p5), .val (.int p6), .val (.int vs), .val (.int ve), .val (.int vo), .val (.int vc), .val (.int vr), .val (.int kk), .val (.int md), .val (.int xs), .val (.int xe), .val (.int xo), .val (.int xc), .val (.ref b6), .val (.ref b8), .val (.ref b10), .val (.int z)] [(.ref b8), (.ref b6)])) rfl (by rw [hml]; rfl) (Steps.refl _) (argsL := [(.ref b8)]) (rest := []) (lenOf pdm_6 rfl) rfl (by show 2 * 0 + _ ≤ _; exact Nat.le_of_eq rfl) (hb hby at_247) (fun _ _ => ⟨rfl, rfl, (by decide : 19 + 0 ≤ _), (by decide : 585 + 0 ≤ _)⟩)
  dsimp only [Pt.U, Pt.locs, Pt.cells, Pt.slots] at X11 l11 y11 z11 st11 hQ11
  subst l11 y11 z11
  obtain ⟨rfl, N11q, e11⟩ := hQ11
  have N11 := Fr.app N10 N11q
  obtain ⟨cq12, kq12, q12a, q12b, q12c⟩ := isOf hZ9 e11 (A9c.ext Ex10)
  obtain ⟨_, _, ⟨T12, L12, k12, n12⟩, -, X12, ⟨Lc12, hQ12, l12, y12, z12⟩, st12⟩ := X11.virtualBack hx (y := (⟨"com/example/segmentwise/segmentwise/model/Location", "equals", "(Ljava/lang/Object;)Z"⟩ : MethodName)) (z := (⟨"com/example/segmentwise/segmentwise/model/Location", "equals", "(Ljava/lang/Object;)Z"⟩ : MethodName)) hown9 (mvT hZ9 (hw _ (List.mem_of_getElem? (i := 42) rfl))) (mvT hZ9 (hw _ (List.mem_of_getElem? (i := 43) rfl))) (notFace_of_selects (args := #[]) (mvT hZ9 (hw _ (List.mem_of_getElem? (i := 45) rfl)))) (mvT hZ9 (hw _ (List.mem_of_getElem? (i := 45) rfl))) (mvT hZ9 (hw _ (List.mem_of_getElem? (i := 44) rfl))) (by decide) (backOf (W := 0) (rm6o l Z a0 hw [] b8 b6 xs xe xo xc vs ve vo vc T10.heap n0 (Nat.le_trans (Nat.le_trans (Nat.le_trans Z0 Ec7.1) Ec9.1) Ex10.1) (Ne.symm hne12) (A9c.ext Ex10) (F9a.ext Ex10) (F9b.ext Ex10) (F9c.ext Ex10) (F9d.ext Ex10) ((A7c.ext Ec9).ext Ex10) ((F7a.ext Ec9).ext Ex10) ((F7b.ext Ec9).ext Ex10) ((F7c.ext Ec9).ext Ex10) ((F7d.ext Ec9).ext Ex10) z hz2) hZ9 (hw _ (List.mem_of_getElem? (i := 46) rfl)) (hw _ (List.mem_of_getElem? (i := 6) rfl)) (by decide) (by decide)) q12a q12c (g := (mkF m 259 #[.val (.int p1), .val (.int p2), .val (.int p3), .val (.int p4), .val (.int p5), .val (.int p6), .val (.int vs), .val (.int ve), .val (.int vo), .val (.int vc), .val (.int vr), .val (.int kk), .val (.int md), .val (.int xs), .val (.int xe), .val (.int xo), .val (.int xc), .val (.ref b6), .val (.ref b8), .val (.ref b10), .val (.int z)] [(.ref b6), (.ref b8)])) rfl (by rw [hml]; rfl) (Steps.refl _) (argsL := [(.ref b6)]) (rest := []) (lenOf pdm_6 rfl) rfl (by show 2 * 0 + _ ≤ _; exact Nat.le_of_eq rfl) (hb hby at_259) (fun _ _ => ⟨rfl, e11, (by decide : 19 + 0 ≤ _), (by decide : 585 + 0 ≤ _)⟩)
  dsimp only [Pt.U, Pt.locs, Pt.cells, Pt.slots] at X12 l12 y12 z12 st12 hQ12
  subst l12 y12 z12
  obtain ⟨rfl, N12q, e12⟩ := hQ12
  have N12 := Fr.app N11 N12q
  obtain ⟨fs, hr, hrun, hended, hEW⟩ := X12.leaveW hS9 (by rw [e12]; exact (Nat.le_trans (Nat.le_refl _) Ex10.1)) (v := some (.int (1 : Int32))) (fun h => by rw [Bd.returns] at h; cases h)
  refine ⟨_, _, pre0 _ ?_, hrun, hended, _, _, rfl, ?_, hEW.1, hEW.2.1, hEW.2.2.1, hEW.2.2.2.mono (by decide) (by decide)⟩
  · show Steps p.tables e below (s₁.setTop (mkF m 0 #[.val (.int p1), .val (.int p2), .val (.int p3), .val (.int p4), .val (.int p5), .val (.int p6), .unset, .unset, .unset, .unset, .unset, .unset, .unset, .unset, .unset, .unset, .unset, .unset, .unset, .unset, .unset] [])) _
    refine XS.iloadN X0.here hx rfl (hb hby at_0) rfl ?_
    show Steps p.tables e below (s₁.setTop (mkF m 1 #[.val (.int p1), .val (.int p2), .val (.int p3), .val (.int p4), .val (.int p5), .val (.int p6), .unset, .unset, .unset, .unset, .unset, .unset, .unset, .unset, .unset, .unset, .unset, .unset, .unset, .unset, .unset] [(.int p1)])) _
    refine st1 _ ?_
    show Steps p.tables e below (T1.setTop (mkF m 4 #[.val (.int p1), .val (.int p2), .val (.int p3), .val (.int p4), .val (.int p5), .val (.int p6), .unset, .unset, .unset, .unset, .unset, .unset, .unset, .unset, .unset, .unset, .unset, .unset, .unset, .unset, .unset] [(.int vs)])) _
    refine XS.istore X1.here hx rfl (hb hby at_4) rfl (l' := #[.val (.int p1), .val (.int p2), .val (.int p3), .val (.int p4), .val (.int p5), .val (.int p6), .val (.int vs), .unset, .unset, .unset, .unset, .unset, .unset, .unset, .unset, .unset, .unset, .unset, .unset, .unset, .unset]) rfl ?_
    show Steps p.tables e below (T1.setTop (mkF m 6 #[.val (.int p1), .val (.int p2), .val (.int p3), .val (.int p4), .val (.int p5), .val (.int p6), .val (.int vs), .unset, .unset, .unset, .unset, .unset, .unset, .unset, .unset, .unset, .unset, .unset, .unset, .unset, .unset] [])) _
    refine XS.iloadN X1.here hx rfl (hb hby at_6) rfl ?_
    show Steps p.tables e below (T1.setTop (mkF m 7 #[.val (.int p1), .val (.int p2), .val (.int p3), .val (.int p4), .val (.int p5), .val (.int p6), .val (.int vs), .unset, .unset, .unset, .unset, .unset, .unset, .unset, .unset, .unset, .unset, .unset, .unset, .unset, .unset] [(.int p2)])) _
    refine st2 _ ?_
    show Steps p.tables e below (T2.setTop (mkF m 10 #[.val (.int p1), .val (.int p2), .val (.int p3), .val (.int p4), .val (.int p5), .val (.int p6), .val (.int vs), .unset, .unset, .unset, .unset, .unset, .unset, .unset, .unset, .unset, .unset, .unset, .unset, .unset, .unset] [(.int ve)])) _
    refine XS.istore X2.here hx rfl (hb hby at_10) rfl (l' := #[.val (.int p1), .val (.int p2), .val (.int p3), .val (.int p4), .val (.int p5), .val (.int p6), .val (.int vs), .val (.int ve), .unset, .unset, .unset, .unset, .unset, .unset, .unset, .unset, .unset, .unset, .unset, .unset, .unset]) rfl ?_
    show Steps p.tables e below (T2.setTop (mkF m 12 #[.val (.int p1), .val (.int p2), .val (.int p3), .val (.int p4), .val (.int p5), .val (.int p6), .val (.int vs), .val (.int ve), .unset, .unset, .unset, .unset, .unset, .unset, .unset, .unset, .unset, .unset, .unset, .unset, .unset] [])) _
    refine XS.iloadN X2.here hx rfl (hb hby at_12) rfl ?_
    show Steps p.tables e below (T2.setTop (mkF m 13 #[.val (.int p1), .val (.int p2), .val (.int p3), .val (.int p4), .val (.int p5), .val (.int p6), .val (.int vs), .val (.int ve), .unset, .unset, .unset, .unset, .unset, .unset, .unset, .unset, .unset, .unset, .unset, .unset, .unset] [(.int p3)])) _
    refine st3 _ ?_
    show Steps p.tables e below (T3.setTop (mkF m 16 #[.val (.int p1), .val (.int p2), .val (.int p3), .val (.int p4), .val (.int p5), .val (.int p6), .val (.int vs), .val (.int ve), .unset, .unset, .unset, .unset, .unset, .unset, .unset, .unset, .unset, .unset, .unset, .unset, .unset] [(.int vo)])) _
    refine XS.istore X3.here hx rfl (hb hby at_16) rfl (l' := #[.val (.int p1), .val (.int p2), .val (.int p3), .val (.int p4), .val (.int p5), .val (.int p6), .val (.int vs), .val (.int ve), .val (.int vo), .unset, .unset, .unset, .unset, .unset, .unset, .unset, .unset, .unset, .unset, .unset, .unset]) rfl ?_
    show Steps p.tables e below (T3.setTop (mkF m 18 #[.val (.int p1), .val (.int p2), .val (.int p3), .val (.int p4), .val (.int p5), .val (.int p6), .val (.int vs), .val (.int ve), .val (.int vo), .unset, .unset, .unset, .unset, .unset, .unset, .unset, .unset, .unset, .unset, .unset, .unset] [])) _
    refine XS.iloadN X3.here hx rfl (hb hby at_18) rfl ?_
    show Steps p.tables e below (T3.setTop (mkF m 19 #[.val (.int p1), .val (.int p2), .val (.int p3), .val (.int p4), .val (.int p5), .val (.int p6), .val (.int vs), .val (.int ve), .val (.int vo), .unset, .unset, .unset, .unset, .unset, .unset, .unset, .unset, .unset, .unset, .unset, .unset] [(.int p4)])) _
    refine st4 _ ?_
    show Steps p.tables e below (T4.setTop (mkF m 22 #[.val (.int p1), .val (.int p2), .val (.int p3), .val (.int p4), .val (.int p5), .val (.int p6), .val (.int vs), .val (.int ve), .val (.int vo), .unset, .unset, .unset, .unset, .unset, .unset, .unset, .unset, .unset, .unset, .unset, .unset] [(.int vc)])) _
    refine XS.istore X4.here hx rfl (hb hby at_22) rfl (l' := #[.val (.int p1), .val (.int p2), .val (.int p3), .val (.int p4), .val (.int p5), .val (.int p6), .val (.int vs), .val (.int ve), .val (.int vo), .val (.int vc), .unset, .unset, .unset, .unset, .unset, .unset, .unset, .unset, .unset, .unset, .unset]) rfl ?_
    show Steps p.tables e below (T4.setTop (mkF m 24 #[.val (.int p1), .val (.int p2), .val (.int p3), .val (.int p4), .val (.int p5), .val (.int p6), .val (.int vs), .val (.int ve), .val (.int vo), .val (.int vc), .unset, .unset, .unset, .unset, .unset, .unset, .unset, .unset, .unset, .unset, .unset] [])) _
    refine XS.iload X4.here hx rfl (hb hby at_24) rfl ?_
    show Steps p.tables e below (T4.setTop (mkF m 26 #[.val (.int p1), .val (.int p2), .val (.int p3), .val (.int p4), .val (.int p5), .val (.int p6), .val (.int vs), .val (.int ve), .val (.int vo), .val (.int vc), .unset, .unset, .unset, .unset, .unset, .unset, .unset, .unset, .unset, .unset, .unset] [(.int p6)])) _
    refine st5 _ ?_
    show Steps p.tables e below (T5.setTop (mkF m 29 #[.val (.int p1), .val (.int p2), .val (.int p3), .val (.int p4), .val (.int p5), .val (.int p6), .val (.int vs), .val (.int ve), .val (.int vo), .val (.int vc), .unset, .unset, .unset, .unset, .unset, .unset, .unset, .unset, .unset, .unset, .unset] [(.int vr)])) _
    refine XS.istore X5.here hx rfl (hb hby at_29) rfl (l' := #[.val (.int p1), .val (.int p2), .val (.int p3), .val (.int p4), .val (.int p5), .val (.int p6), .val (.int vs), .val (.int ve), .val (.int vo), .val (.int vc), .val (.int vr), .unset, .unset, .unset, .unset, .unset, .unset, .unset, .unset, .unset, .unset]) rfl ?_
    show Steps p.tables e below (T5.setTop (mkF m 31 #[.val (.int p1), .val (.int p2), .val (.int p3), .val (.int p4), .val (.int p5), .val (.int p6), .val (.int vs), .val (.int ve), .val (.int vo), .val (.int vc), .val (.int vr), .unset, .unset, .unset, .unset, .unset, .unset, .unset, .unset, .unset, .unset] [])) _
    refine XS.iload X5.here hx rfl (hb hby at_31) rfl ?_
    show Steps p.tables e below (T5.setTop (mkF m 33 #[.val (.int p1), .val (.int p2), .val (.int p3), .val (.int p4), .val (.int p5), .val (.int p6), .val (.int vs), .val (.int ve), .val (.int vo), .val (.int vc), .val (.int vr), .unset, .unset, .unset, .unset, .unset, .unset, .unset, .unset, .unset, .unset] [(.int p5)])) _
    refine XS.bipush X5.here hx rfl (hb hby at_33) ?_
    show Steps p.tables e below (T5.setTop (mkF m 35 #[.val (.int p1), .val (.int p2), .val (.int p3), .val (.int p4), .val (.int p5), .val (.int p6), .val (.int vs), .val (.int ve), .val (.int vo), .val (.int vc), .val (.int vr), .unset, .unset, .unset, .unset, .unset, .unset, .unset, .unset, .unset, .unset] [(.int (15 : Int32)), (.int p5)])) _
    refine XS.iand X5.here hx rfl (hb hby at_35) rfl ?_
    show Steps p.tables e below (T5.setTop (mkF m 36 #[.val (.int p1), .val (.int p2), .val (.int p3), .val (.int p4), .val (.int p5), .val (.int p6), .val (.int vs), .val (.int ve), .val (.int vo), .val (.int vc), .val (.int vr), .unset, .unset, .unset, .unset, .unset, .unset, .unset, .unset, .unset, .unset] [(.int (p5 &&& (15 : Int32)))])) _
    rw [hkk]
    show Steps p.tables e below (T5.setTop (mkF m 36 #[.val (.int p1), .val (.int p2), .val (.int p3), .val (.int p4), .val (.int p5), .val (.int p6), .val (.int vs), .val (.int ve), .val (.int vo), .val (.int vc), .val (.int vr), .unset, .unset, .unset, .unset, .unset, .unset, .unset, .unset, .unset, .unset] [(.int kk)])) _
    refine XS.istore X5.here hx rfl (hb hby at_36) rfl (l' := #[.val (.int p1), .val (.int p2), .val (.int p3), .val (.int p4), .val (.int p5), .val (.int p6), .val (.int vs), .val (.int ve), .val (.int vo), .val (.int vc), .val (.int vr), .val (.int kk), .unset, .unset, .unset, .unset, .unset, .unset, .unset, .unset, .unset]) rfl ?_
    show Steps p.tables e below (T5.setTop (mkF m 38 #[.val (.int p1), .val (.int p2), .val (.int p3), .val (.int p4), .val (.int p5), .val (.int p6), .val (.int vs), .val (.int ve), .val (.int vo), .val (.int vc), .val (.int vr), .val (.int kk), .unset, .unset, .unset, .unset, .unset, .unset, .unset, .unset, .unset] [])) _
    refine XS.iload X5.here hx rfl (hb hby at_38) rfl ?_
    show Steps p.tables e below (T5.setTop (mkF m 40 #[.val (.int p1), .val (.int p2), .val (.int p3), .val (.int p4), .val (.int p5), .val (.int p6), .val (.int vs), .val (.int ve), .val (.int vo), .val (.int vc), .val (.int vr), .val (.int kk), .unset, .unset, .unset, .unset, .unset, .unset, .unset, .unset, .unset] [(.int p5)])) _
    refine XS.iconst X5.here hx rfl (hb hby at_40) ?_
    show Steps p.tables e below (T5.setTop (mkF m 41 #[.val (.int p1), .val (.int p2), .val (.int p3), .val (.int p4), .val (.int p5), .val (.int p6), .val (.int vs), .val (.int ve), .val (.int vo), .val (.int vc), .val (.int vr), .val (.int kk), .unset, .unset, .unset, .unset, .unset, .unset, .unset, .unset, .unset] [(.int (4 : Int32)), (.int p5)])) _
    refine XS.iushr X5.here hx rfl (hb hby at_41) rfl ?_
    show Steps p.tables e below (T5.setTop (mkF m 42 #[.val (.int p1), .val (.int p2), .val (.int p3), .val (.int p4), .val (.int p5), .val (.int p6), .val (.int vs), .val (.int ve), .val (.int vo), .val (.int vc), .val (.int vr), .val (.int kk), .unset, .unset, .unset, .unset, .unset, .unset, .unset, .unset, .unset] [(.int ((p5.toUInt32 >>> ((4 : Int32) &&& 31).toUInt32).toInt32))])) _
    refine XS.iconst X5.here hx rfl (hb hby at_42) ?_
    show Steps p.tables e below (T5.setTop (mkF m 43 #[.val (.int p1), .val (.int p2), .val (.int p3), .val (.int p4), .val (.int p5), .val (.int p6), .val (.int vs), .val (.int ve), .val (.int vo), .val (.int vc), .val (.int vr), .val (.int kk), .unset, .unset, .unset, .unset, .unset, .unset, .unset, .unset, .unset] [(.int (3 : Int32)), (.int ((p5.toUInt32 >>> ((4 : Int32) &&& 31).toUInt32).toInt32))])) _
    refine XS.iand X5.here hx rfl (hb hby at_43) rfl ?_
    show Steps p.tables e below (T5.setTop (mkF m 44 #[.val (.int p1), .val (.int p2), .val (.int p3), .val (.int p4), .val (.int p5), .val (.int p6), .val (.int vs), .val (.int ve), .val (.int vo), .val (.int vc), .val (.int vr), .val (.int kk), .unset, .unset, .unset, .unset, .unset, .unset, .unset, .unset, .unset] [(.int (((p5.toUInt32 >>> ((4 : Int32) &&& 31).toUInt32).toInt32) &&& (3 : Int32)))])) _
    rw [hmd]
    show Steps p.tables e below (T5.setTop (mkF m 44 #[.val (.int p1), .val (.int p2), .val (.int p3), .val (.int p4), .val (.int p5), .val (.int p6), .val (.int vs), .val (.int ve), .val (.int vo), .val (.int vc), .val (.int vr), .val (.int kk), .unset, .unset, .unset, .unset, .unset, .unset, .unset, .unset, .unset] [(.int md)])) _
    refine XS.istore X5.here hx rfl (hb hby at_44) rfl (l' := #[.val (.int p1), .val (.int p2), .val (.int p3), .val (.int p4), .val (.int p5), .val (.int p6), .val (.int vs), .val (.int ve), .val (.int vo), .val (.int vc), .val (.int vr), .val (.int kk), .val (.int md), .unset, .unset, .unset, .unset, .unset, .unset, .unset, .unset]) rfl ?_
    show Steps p.tables e below (T5.setTop (mkF m 46 #[.val (.int p1), .val (.int p2), .val (.int p3), .val (.int p4), .val (.int p5), .val (.int p6), .val (.int vs), .val (.int ve), .val (.int vo), .val (.int vc), .val (.int vr), .val (.int kk), .val (.int md), .unset, .unset, .unset, .unset, .unset, .unset, .unset, .unset] [])) _
    refine own_j46 p1 p2 p3 p4 p5 p6 vs ve vo vc vr kk md xs h_xs X5 hx hby _ ?_
    show Steps p.tables e below (T5.setTop (mkF m 62 #[.val (.int p1), .val (.int p2), .val (.int p3), .val (.int p4), .val (.int p5), .val (.int p6), .val (.int vs), .val (.int ve), .val (.int vo), .val (.int vc), .val (.int vr), .val (.int kk), .val (.int md), .val (.int xs), .unset, .unset, .unset, .unset, .unset, .unset, .unset] [])) _
    refine own_j62 p1 p2 p3 p4 p5 p6 vs ve vo vc vr kk md xs xe h_xe X5 hx hby _ ?_
    show Steps p.tables e below (T5.setTop (mkF m 78 #[.val (.int p1), .val (.int p2), .val (.int p3), .val (.int p4), .val (.int p5), .val (.int p6), .val (.int vs), .val (.int ve), .val (.int vo), .val (.int vc), .val (.int vr), .val (.int kk), .val (.int md), .val (.int xs), .val (.int xe), .unset, .unset, .unset, .unset, .unset, .unset] [])) _
    refine own_j78 p1 p2 p3 p4 p5 p6 vs ve vo vc vr kk md xs xe xo h_xo X5 hx hby _ ?_
    show Steps p.tables e below (T5.setTop (mkF m 94 #[.val (.int p1), .val (.int p2), .val (.int p3), .val (.int p4), .val (.int p5), .val (.int p6), .val (.int vs), .val (.int ve), .val (.int vo), .val (.int vc), .val (.int vr), .val (.int kk), .val (.int md), .val (.int xs), .val (.int xe), .val (.int xo), .unset, .unset, .unset, .unset, .unset] [])) _
    refine own_j94 p1 p2 p3 p4 p5 p6 vs ve vo vc vr kk md xs xe xo xc h_xc X5 hx hby _ ?_
    show Steps p.tables e below (T5.setTop (mkF m 111 #[.val (.int p1), .val (.int p2), .val (.int p3), .val (.int p4), .val (.int p5), .val (.int p6), .val (.int vs), .val (.int ve), .val (.int vo), .val (.int vc), .val (.int vr), .val (.int kk), .val (.int md), .val (.int xs), .val (.int xe), .val (.int xo), .val (.int xc), .unset, .unset, .unset, .unset] [])) _
    refine st6 _ ?_
    show Steps p.tables e below (T6.setTop (mkF m 114 #[.val (.int p1), .val (.int p2), .val (.int p3), .val (.int p4), .val (.int p5), .val (.int p6), .val (.int vs), .val (.int ve), .val (.int vo), .val (.int vc), .val (.int vr), .val (.int kk), .val (.int md), .val (.int xs), .val (.int xe), .val (.int xo), .val (.int xc), .unset, .unset, .unset, .unset] [(.ref b6)])) _
    refine XS.dup X6.here hx rfl (hb hby at_114) rfl rfl ?_
    show Steps p.tables e below (T6.setTop (mkF m 115 #[.val (.int p1), .val (.int p2), .val (.int p3), .val (.int p4), .val (.int p5), .val (.int p6), .val (.int vs), .val (.int ve), .val (.int vo), .val (.int vc), .val (.int vr), .val (.int kk), .val (.int md), .val (.int xs), .val (.int xe), .val (.int xo), .val (.int xc), .unset, .unset, .unset, .unset] [(.ref b6), (.ref b6)])) _
    refine XS.iload X6.here hx rfl (hb hby at_115) rfl ?_
    show Steps p.tables e below (T6.setTop (mkF m 117 #[.val (.int p1), .val (.int p2), .val (.int p3), .val (.int p4), .val (.int p5), .val (.int p6), .val (.int vs), .val (.int ve), .val (.int vo), .val (.int vc), .val (.int vr), .val (.int kk), .val (.int md), .val (.int xs), .val (.int xe), .val (.int xo), .val (.int xc), .unset, .unset, .unset, .unset] [(.int vs), (.ref b6), (.ref b6)])) _
    refine XS.iload X6.here hx rfl (hb hby at_117) rfl ?_
    show Steps p.tables e below (T6.setTop (mkF m 119 #[.val (.int p1), .val (.int p2), .val (.int p3), .val (.int p4), .val (.int p5), .val (.int p6), .val (.int vs), .val (.int ve), .val (.int vo), .val (.int vc), .val (.int vr), .val (.int kk), .val (.int md), .val (.int xs), .val (.int xe), .val (.int xo), .val (.int xc), .unset, .unset, .unset, .unset] [(.int ve), (.int vs), (.ref b6), (.ref b6)])) _
    refine XS.iload X6.here hx rfl (hb hby at_119) rfl ?_
    show Steps p.tables e below (T6.setTop (mkF m 121 #[.val (.int p1), .val (.int p2), .val (.int p3), .val (.int p4), .val (.int p5), .val (.int p6), .val (.int vs), .val (.int ve), .val (.int vo), .val (.int vc), .val (.int vr), .val (.int kk), .val (.int md), .val (.int xs), .val (.int xe), .val (.int xo), .val (.int xc), .unset, .unset, .unset, .unset] [(.int vo), (.int ve), (.int vs), (.ref b6), (.ref b6)])) _
    refine XS.iload X6.here hx rfl (hb hby at_121) rfl ?_
    show Steps p.tables e below (T6.setTop (mkF m 123 #[.val (.int p1), .val (.int p2), .val (.int p3), .val (.int p4), .val (.int p5), .val (.int p6), .val (.int vs), .val (.int ve), .val (.int vo), .val (.int vc), .val (.int vr), .val (.int kk), .val (.int md), .val (.int xs), .val (.int xe), .val (.int xo), .val (.int xc), .unset, .unset, .unset, .unset] [(.int vc), (.int vo), (.int ve), (.int vs), (.ref b6), (.ref b6)])) _
    refine st7.trans ?_
    show Steps p.tables e below (T7.setTop (mkF m 126 #[.val (.int p1), .val (.int p2), .val (.int p3), .val (.int p4), .val (.int p5), .val (.int p6), .val (.int vs), .val (.int ve), .val (.int vo), .val (.int vc), .val (.int vr), .val (.int kk), .val (.int md), .val (.int xs), .val (.int xe), .val (.int xo), .val (.int xc), .unset, .unset, .unset, .unset] [(.ref b6)])) _
    refine XS.astore X7w.here hx rfl (hb hby at_126) rfl rfl (l' := #[.val (.int p1), .val (.int p2), .val (.int p3), .val (.int p4), .val (.int p5), .val (.int p6), .val (.int vs), .val (.int ve), .val (.int vo), .val (.int vc), .val (.int vr), .val (.int kk), .val (.int md), .val (.int xs), .val (.int xe), .val (.int xo), .val (.int xc), .val (.ref b6), .unset, .unset, .unset]) rfl ?_
    show Steps p.tables e below (T7.setTop (mkF m 128 #[.val (.int p1), .val (.int p2), .val (.int p3), .val (.int p4), .val (.int p5), .val (.int p6), .val (.int vs), .val (.int ve), .val (.int vo), .val (.int vc), .val (.int vr), .val (.int kk), .val (.int md), .val (.int xs), .val (.int xe), .val (.int xo), .val (.int xc), .val (.ref b6), .unset, .unset, .unset] [])) _
    refine st8 _ ?_
    show Steps p.tables e below (T8.setTop (mkF m 131 #[.val (.int p1), .val (.int p2), .val (.int p3), .val (.int p4), .val (.int p5), .val (.int p6), .val (.int vs), .val (.int ve), .val (.int vo), .val (.int vc), .val (.int vr), .val (.int kk), .val (.int md), .val (.int xs), .val (.int xe), .val (.int xo), .val (.int xc), .val (.ref b6), .unset, .unset, .unset] [(.ref b8)])) _
    refine XS.dup X8.here hx rfl (hb hby at_131) rfl rfl ?_
    show Steps p.tables e below (T8.setTop (mkF m 132 #[.val (.int p1), .val (.int p2), .val (.int p3), .val (.int p4), .val (.int p5), .val (.int p6), .val (.int vs), .val (.int ve), .val (.int vo), .val (.int vc), .val (.int vr), .val (.int kk), .val (.int md), .val (.int xs), .val (.int xe), .val (.int xo), .val (.int xc), .val (.ref b6), .unset, .unset, .unset] [(.ref b8), (.ref b8)])) _
    refine XS.iload X8.here hx rfl (hb hby at_132) rfl ?_
    show Steps p.tables e below (T8.setTop (mkF m 134 #[.val (.int p1), .val (.int p2), .val (.int p3), .val (.int p4), .val (.int p5), .val (.int p6), .val (.int vs), .val (.int ve), .val (.int vo), .val (.int vc), .val (.int vr), .val (.int kk), .val (.int md), .val (.int xs), .val (.int xe), .val (.int xo), .val (.int xc), .val (.ref b6), .unset, .unset, .unset] [(.int xs), (.ref b8), (.ref b8)])) _
    refine XS.iload X8.here hx rfl (hb hby at_134) rfl ?_
    show Steps p.tables e below (T8.setTop (mkF m 136 #[.val (.int p1), .val (.int p2), .val (.int p3), .val (.int p4), .val (.int p5), .val (.int p6), .val (.int vs), .val (.int ve), .val (.int vo), .val (.int vc), .val (.int vr), .val (.int kk), .val (.int md), .val (.int xs), .val (.int xe), .val (.int xo), .val (.int xc), .val (.ref b6), .unset, .unset, .unset] [(.int xe), (.int xs), (.ref b8), (.ref b8)])) _
    refine XS.iload X8.here hx rfl (hb hby at_136) rfl ?_
    show Steps p.tables e below (T8.setTop (mkF m 138 #[.val (.int p1), .val (.int p2), .val (.int p3), .val (.int p4), .val (.int p5), .val (.int p6), .val (.int vs), .val (.int ve), .val (.int vo), .val (.int vc), .val (.int vr), .val (.int kk), .val (.int md), .val (.int xs), .val (.int xe), .val (.int xo), .val (.int xc), .val (.ref b6), .unset, .unset, .unset] [(.int xo), (.int xe), (.int xs), (.ref b8), (.ref b8)])) _
    refine XS.iload X8.here hx rfl (hb hby at_138) rfl ?_
    show Steps p.tables e below (T8.setTop (mkF m 140 #[.val (.int p1), .val (.int p2), .val (.int p3), .val (.int p4), .val (.int p5), .val (.int p6), .val (.int vs), .val (.int ve), .val (.int vo), .val (.int vc), .val (.int vr), .val (.int kk), .val (.int md), .val (.int xs), .val (.int xe), .val (.int xo), .val (.int xc), .val (.ref b6), .unset, .unset, .unset] [(.int xc), (.int xo), (.int xe), (.int xs), (.ref b8), (.ref b8)])) _
    refine st9.trans ?_
    show Steps p.tables e below (T9.setTop (mkF m 143 #[.val (.int p1), .val (.int p2), .val (.int p3), .val (.int p4), .val (.int p5), .val (.int p6), .val (.int vs), .val (.int ve), .val (.int vo), .val (.int vc), .val (.int vr), .val (.int kk), .val (.int md), .val (.int xs), .val (.int xe), .val (.int xo), .val (.int xc), .val (.ref b6), .unset, .unset, .unset] [(.ref b8)])) _
    refine XS.astore X9w.here hx rfl (hb hby at_143) rfl rfl (l' := #[.val (.int p1), .val (.int p2), .val (.int p3), .val (.int p4), .val (.int p5), .val (.int p6), .val (.int vs), .val (.int ve), .val (.int vo), .val (.int vc), .val (.int vr), .val (.int kk), .val (.int md), .val (.int xs), .val (.int xe), .val (.int xo), .val (.int xc), .val (.ref b6), .val (.ref b8), .unset, .unset]) rfl ?_
    show Steps p.tables e below (T9.setTop (mkF m 145 #[.val (.int p1), .val (.int p2), .val (.int p3), .val (.int p4), .val (.int p5), .val (.int p6), .val (.int vs), .val (.int ve), .val (.int vo), .val (.int vc), .val (.int vr), .val (.int kk), .val (.int md), .val (.int xs), .val (.int xe), .val (.int xo), .val (.int xc), .val (.ref b6), .val (.ref b8), .unset, .unset] [])) _
    refine XS.iloadN X9w.here hx rfl (hb hby at_145) rfl ?_
    show Steps p.tables e below (T9.setTop (mkF m 146 #[.val (.int p1), .val (.int p2), .val (.int p3), .val (.int p4), .val (.int p5), .val (.int p6), .val (.int vs), .val (.int ve), .val (.int vo), .val (.int vc), .val (.int vr), .val (.int kk), .val (.int md), .val (.int xs), .val (.int xe), .val (.int xo), .val (.int xc), .val (.ref b6), .val (.ref b8), .unset, .unset] [(.int p1)])) _
    refine st10 _ ?_
    show Steps p.tables e below (T10.setTop (mkF m 149 #[.val (.int p1), .val (.int p2), .val (.int p3), .val (.int p4), .val (.int p5), .val (.int p6), .val (.int vs), .val (.int ve), .val (.int vo), .val (.int vc), .val (.int vr), .val (.int kk), .val (.int md), .val (.int xs), .val (.int xe), .val (.int xo), .val (.int xc), .val (.ref b6), .val (.ref b8), .unset, .unset] [(.ref b10)])) _
    refine XS.astore X10.here hx rfl (hb hby at_149) rfl rfl (l' := #[.val (.int p1), .val (.int p2), .val (.int p3), .val (.int p4), .val (.int p5), .val (.int p6), .val (.int vs), .val (.int ve), .val (.int vo), .val (.int vc), .val (.int vr), .val (.int kk), .val (.int md), .val (.int xs), .val (.int xe), .val (.int xo), .val (.int xc), .val (.ref b6), .val (.ref b8), .val (.ref b10), .unset]) rfl ?_
    show Steps p.tables e below (T10.setTop (mkF m 151 #[.val (.int p1), .val (.int p2), .val (.int p3), .val (.int p4), .val (.int p5), .val (.int p6), .val (.int vs), .val (.int ve), .val (.int vo), .val (.int vc), .val (.int vr), .val (.int kk), .val (.int md), .val (.int xs), .val (.int xe), .val (.int xo), .val (.int xc), .val (.ref b6), .val (.ref b8), .val (.ref b10), .unset] [])) _
    refine XS.iload X10.here hx rfl (hb hby at_151) rfl ?_
    show Steps p.tables e below (T10.setTop (mkF m 153 #[.val (.int p1), .val (.int p2), .val (.int p3), .val (.int p4), .val (.int p5), .val (.int p6), .val (.int vs), .val (.int ve), .val (.int vo), .val (.int vc), .val (.int vr), .val (.int kk), .val (.int md), .val (.int xs), .val (.int xe), .val (.int xo), .val (.int xc), .val (.ref b6), .val (.ref b8), .val (.ref b10), .unset] [(.int md)])) _
    refine XS.iconst X10.here hx rfl (hb hby at_153) ?_
    show Steps p.tables e below (T10.setTop (mkF m 154 #[.val (.int p1), .val (.int p2), .val (.int p3), .val (.int p4), .val (.int p5), .val (.int p6), .val (.int vs), .val (.int ve), .val (.int vo), .val (.int vc), .val (.int vr), .val (.int kk), .val (.int md), .val (.int xs), .val (.int xe), .val (.int xo), .val (.int xc), .val (.ref b6), .val (.ref b8), .val (.ref b10), .unset] [(.int (1 : Int32)), (.int md)])) _
    refine XS.icmpYes X10.here hx rfl (pc0 := 154) (pc' := 165) rfl (hb hby at_154) rfl (feq (hm1)).2 (by decide) (by decide) ?_
    show Steps p.tables e below (T10.setTop (mkF m 165 #[.val (.int p1), .val (.int p2), .val (.int p3), .val (.int p4), .val (.int p5), .val (.int p6), .val (.int vs), .val (.int ve), .val (.int vo), .val (.int vc), .val (.int vr), .val (.int kk), .val (.int md), .val (.int xs), .val (.int xe), .val (.int xo), .val (.int xc), .val (.ref b6), .val (.ref b8), .val (.ref b10), .unset] [])) _
    refine XS.iload X10.here hx rfl (hb hby at_165) rfl ?_
    show Steps p.tables e below (T10.setTop (mkF m 167 #[.val (.int p1), .val (.int p2), .val (.int p3), .val (.int p4), .val (.int p5), .val (.int p6), .val (.int vs), .val (.int ve), .val (.int vo), .val (.int vc), .val (.int vr), .val (.int kk), .val (.int md), .val (.int xs), .val (.int xe), .val (.int xo), .val (.int xc), .val (.ref b6), .val (.ref b8), .val (.ref b10), .unset] [(.int md)])) _
    refine XS.iconst X10.here hx rfl (hb hby at_167) ?_
    show Steps p.tables e below (T10.setTop (mkF m 168 #[.val (.int p1), .val (.int p2), .val (.int p3), .val (.int p4), .val (.int p5), .val (.int p6), .val (.int vs), .val (.int ve), .val (.int vo), .val (.int vc), .val (.int vr), .val (.int kk), .val (.int md), .val (.int xs), .val (.int xe), .val (.int xo), .val (.int xc), .val (.ref b6), .val (.ref b8), .val (.ref b10), .unset] [(.int (2 : Int32)), (.int md)])) _
    refine XS.icmpYes X10.here hx rfl (pc0 := 168) (pc' := 186) rfl (hb hby at_168) rfl (feq (hm2)).2 (by decide) (by decide) ?_
    show Steps p.tables e below (T10.setTop (mkF m 186 #[.val (.int p1), .val (.int p2), .val (.int p3), .val (.int p4), .val (.int p5), .val (.int p6), .val (.int vs), .val (.int ve), .val (.int vo), .val (.int vc), .val (.int vr), .val (.int kk), .val (.int md), .val (.int xs), .val (.int xe), .val (.int xo), .val (.int xc), .val (.ref b6), .val (.ref b8), .val (.ref b10), .unset] [])) _
    refine XS.iload X10.here hx rfl (hb hby at_186) rfl ?_
    show Steps p.tables e below (T10.setTop (mkF m 188 #[.val (.int p1), .val (.int p2), .val (.int p3), .val (.int p4), .val (.int p5), .val (.int p6), .val (.int vs), .val (.int ve), .val (.int vo), .val (.int vc), .val (.int vr), .val (.int kk), .val (.int md), .val (.int xs), .val (.int xe), .val (.int xo), .val (.int xc), .val (.ref b6), .val (.ref b8), .val (.ref b10), .unset] [(.int md)])) _
    refine XS.iconst X10.here hx rfl (hb hby at_188) ?_
    show Steps p.tables e below (T10.setTop (mkF m 189 #[.val (.int p1), .val (.int p2), .val (.int p3), .val (.int p4), .val (.int p5), .val (.int p6), .val (.int vs), .val (.int ve), .val (.int vo), .val (.int vc), .val (.int vr), .val (.int kk), .val (.int md), .val (.int xs), .val (.int xe), .val (.int xo), .val (.int xc), .val (.ref b6), .val (.ref b8), .val (.ref b10), .unset] [(.int (3 : Int32)), (.int md)])) _
    refine XS.icmpYes X10.here hx rfl (pc0 := 189) (pc' := 208) rfl (hb hby at_189) rfl (feq (hm3)).2 (by decide) (by decide) ?_
    show Steps p.tables e below (T10.setTop (mkF m 208 #[.val (.int p1), .val (.int p2), .val (.int p3), .val (.int p4), .val (.int p5), .val (.int p6), .val (.int vs), .val (.int ve), .val (.int vo), .val (.int vc), .val (.int vr), .val (.int kk), .val (.int md), .val (.int xs), .val (.int xe), .val (.int xo), .val (.int xc), .val (.ref b6), .val (.ref b8), .val (.ref b10), .unset] [])) _
    refine own_jx p1 p2 p3 p4 p5 p6 vs ve vo vc vr kk md xs xe xo xc b6 b8 b10 z hz2 X10 hx hby _ ?_
    show Steps p.tables e below (T10.setTop (mkF m 241 #[.val (.int p1), .val (.int p2), .val (.int p3), .val (.int p4), .val (.int p5), .val (.int p6), .val (.int vs), .val (.int ve), .val (.int vo), .val (.int vc), .val (.int vr), .val (.int kk), .val (.int md), .val (.int xs), .val (.int xe), .val (.int xo), .val (.int xc), .val (.ref b6), .val (.ref b8), .val (.ref b10), .unset] [(.int z)])) _
    refine XS.istore X10.here hx rfl (hb hby at_241) rfl (l' := #[.val (.int p1), .val (.int p2), .val (.int p3), .val (.int p4), .val (.int p5), .val (.int p6), .val (.int vs), .val (.int ve), .val (.int vo), .val (.int vc), .val (.int vr), .val (.int kk), .val (.int md), .val (.int xs), .val (.int xe), .val (.int xo), .val (.int xc), .val (.ref b6), .val (.ref b8), .val (.ref b10), .val (.int z)]) rfl ?_
    show Steps p.tables e below (T10.setTop (mkF m 243 #[.val (.int p1), .val (.int p2), .val (.int p3), .val (.int p4), .val (.int p5), .val (.int p6), .val (.int vs), .val (.int ve), .val (.int vo), .val (.int vc), .val (.int vr), .val (.int kk), .val (.int md), .val (.int xs), .val (.int xe), .val (.int xo), .val (.int xc), .val (.ref b6), .val (.ref b8), .val (.ref b10), .val (.int z)] [])) _
    refine XS.aload X10.here hx rfl (hb hby at_243) rfl rfl ?_
    show Steps p.tables e below (T10.setTop (mkF m 245 #[.val (.int p1), .val (.int p2), .val (.int p3), .val (.int p4), .val (.int p5), .val (.int p6), .val (.int vs), .val (.int ve), .val (.int vo), .val (.int vc), .val (.int vr), .val (.int kk), .val (.int md), .val (.int xs), .val (.int xe), .val (.int xo), .val (.int xc), .val (.ref b6), .val (.ref b8), .val (.ref b10), .val (.int z)] [(.ref b6)])) _
    refine XS.aload X10.here hx rfl (hb hby at_245) rfl rfl ?_
    show Steps p.tables e below (T10.setTop (mkF m 247 #[.val (.int p1), .val (.int p2), .val (.int p3), .val (.int p4), .val (.int p5), .val (.int p6), .val (.int vs), .val (.int ve), .val (.int vo), .val (.int vc), .val (.int vr), .val (.int kk), .val (.int md), .val (.int xs), .val (.int xe), .val (.int xo), .val (.int xc), .val (.ref b6), .val (.ref b8), .val (.ref b10), .val (.int z)] [(.ref b8), (.ref b6)])) _
    refine st11.trans ?_
    show Steps p.tables e below (T11.setTop (mkF m 250 #[.val (.int p1), .val (.int p2), .val (.int p3), .val (.int p4), .val (.int p5), .val (.int p6), .val (.int vs), .val (.int ve), .val (.int vo), .val (.int vc), .val (.int vr), .val (.int kk), .val (.int md), .val (.int xs), .val (.int xe), .val (.int xo), .val (.int xc), .val (.ref b6), .val (.ref b8), .val (.ref b10), .val (.int z)] [(.int z)])) _
    refine XS.iload X11.here hx rfl (hb hby at_250) rfl ?_
    show Steps p.tables e below (T11.setTop (mkF m 252 #[.val (.int p1), .val (.int p2), .val (.int p3), .val (.int p4), .val (.int p5), .val (.int p6), .val (.int vs), .val (.int ve), .val (.int vo), .val (.int vc), .val (.int vr), .val (.int kk), .val (.int md), .val (.int xs), .val (.int xe), .val (.int xo), .val (.int xc), .val (.ref b6), .val (.ref b8), .val (.ref b10), .val (.int z)] [(.int z), (.int z)])) _
    refine XS.icmpNo X11.here hx rfl (hb hby at_252) rfl (teq (rfl : z = z)).2 ?_
    show Steps p.tables e below (T11.setTop (mkF m 255 #[.val (.int p1), .val (.int p2), .val (.int p3), .val (.int p4), .val (.int p5), .val (.int p6), .val (.int vs), .val (.int ve), .val (.int vo), .val (.int vc), .val (.int vr), .val (.int kk), .val (.int md), .val (.int xs), .val (.int xe), .val (.int xo), .val (.int xc), .val (.ref b6), .val (.ref b8), .val (.ref b10), .val (.int z)] [])) _
    refine XS.aload X11.here hx rfl (hb hby at_255) rfl rfl ?_
    show Steps p.tables e below (T11.setTop (mkF m 257 #[.val (.int p1), .val (.int p2), .val (.int p3), .val (.int p4), .val (.int p5), .val (.int p6), .val (.int vs), .val (.int ve), .val (.int vo), .val (.int vc), .val (.int vr), .val (.int kk), .val (.int md), .val (.int xs), .val (.int xe), .val (.int xo), .val (.int xc), .val (.ref b6), .val (.ref b8), .val (.ref b10), .val (.int z)] [(.ref b8)])) _
    refine XS.aload X11.here hx rfl (hb hby at_257) rfl rfl ?_
    show Steps p.tables e below (T11.setTop (mkF m 259 #[.val (.int p1), .val (.int p2), .val (.int p3), .val (.int p4), .val (.int p5), .val (.int p6), .val (.int vs), .val (.int ve), .val (.int vo), .val (.int vc), .val (.int vr), .val (.int kk), .val (.int md), .val (.int xs), .val (.int xe), .val (.int xo), .val (.int xc), .val (.ref b6), .val (.ref b8), .val (.ref b10), .val (.int z)] [(.ref b6), (.ref b8)])) _
    refine st12.trans ?_
    show Steps p.tables e below (T12.setTop (mkF m 262 #[.val (.int p1), .val (.int p2), .val (.int p3), .val (.int p4), .val (.int p5), .val (.int p6), .val (.int vs), .val (.int ve), .val (.int vo), .val (.int vc), .val (.int vr), .val (.int kk), .val (.int md), .val (.int xs), .val (.int xe), .val (.int xo), .val (.int xc), .val (.ref b6), .val (.ref b8), .val (.ref b10), .val (.int z)] [(.int z)])) _
    refine XS.iload X12.here hx rfl (hb hby at_262) rfl ?_
    show Steps p.tables e below (T12.setTop (mkF m 264 #[.val (.int p1), .val (.int p2), .val (.int p3), .val (.int p4), .val (.int p5), .val (.int p6), .val (.int vs), .val (.int ve), .val (.int vo), .val (.int vc), .val (.int vr), .val (.int kk), .val (.int md), .val (.int xs), .val (.int xe), .val (.int xo), .val (.int xc), .val (.ref b6), .val (.ref b8), .val (.ref b10), .val (.int z)] [(.int z), (.int z)])) _
    refine XS.icmpNo X12.here hx rfl (hb hby at_264) rfl (teq (rfl : z = z)).2 ?_
    show Steps p.tables e below (T12.setTop (mkF m 267 #[.val (.int p1), .val (.int p2), .val (.int p3), .val (.int p4), .val (.int p5), .val (.int p6), .val (.int vs), .val (.int ve), .val (.int vo), .val (.int vc), .val (.int vr), .val (.int kk), .val (.int md), .val (.int xs), .val (.int xe), .val (.int xo), .val (.int xc), .val (.ref b6), .val (.ref b8), .val (.ref b10), .val (.int z)] [])) _
    refine XS.iconst X12.here hx rfl (hb hby at_267) ?_
    show Steps p.tables e below (T12.setTop (mkF m 268 #[.val (.int p1), .val (.int p2), .val (.int p3), .val (.int p4), .val (.int p5), .val (.int p6), .val (.int vs), .val (.int ve), .val (.int vo), .val (.int vc), .val (.int vr), .val (.int kk), .val (.int md), .val (.int xs), .val (.int xe), .val (.int xo), .val (.int xc), .val (.ref b6), .val (.ref b8), .val (.ref b10), .val (.int z)] [(.int (1 : Int32))])) _
    refine XS.goto X12.here hx rfl (pc0 := 268) (pc' := 272) rfl (hb hby at_268) (by decide) (by decide) ?_
    show Steps p.tables e below (T12.setTop (mkF m 272 #[.val (.int p1), .val (.int p2), .val (.int p3), .val (.int p4), .val (.int p5), .val (.int p6), .val (.int vs), .val (.int ve), .val (.int vo), .val (.int vc), .val (.int vr), .val (.int kk), .val (.int md), .val (.int xs), .val (.int xe), .val (.int xo), .val (.int xc), .val (.ref b6), .val (.ref b8), .val (.ref b10), .val (.int z)] [(.int (1 : Int32))])) _
    exact retN X12 hx (t := .boolean) Bd.returns (by simp) (hb hby at_272) hr
  · show QL (.int (1 : Int32)) n0 _ T12.heap _
    exact ⟨rfl, N12, trivial⟩
theorem own_len {s : State} {args : Array Value} {t : Term} {a : Addr} {c : Cell} {ty : FieldType} {n : Int32} (et : t.eval args s none [] s = some (.ref a)) (A : Arr s s.heap a c ty) (h : (Jvm.Cond.eq (.length t) (.int n)).value args s none s [] = some true) : c.slots.size < 2 ^ 31 ∧ c.slots.size.toInt32 = n := by
  have e := eqv_i (y := n) rfl h
  by_cases q : c.slots.size < 2 ^ 31
  · refine ⟨q, ?_⟩
    have e2 := len_f et (A.fin (Vm.Alike.refl _)) q
    have e3 := e.symm.trans e2
    injection e3 with e4
    injection e4 with e5
    exact e5.symm
  · exfalso
    have hA := A.fin (U := s) (Vm.Alike.refl _)
    simp [Term.eval, et, hA, q] at e
theorem own_sub_at {s : State} {args : Array Value} {j : Int32} (nn : ¬ j < 0) : (Term.sub (.index 0) (.int (128 : Int32))).eval args s none [j.toNatClampNeg] s = some (.int (j - (128 : Int32))) := by
  have e := idx_at (args := args) (s := s) (first := s) (o := none) nn
  simp [Term.eval] at e ⊢
  simp [e]
set_option maxRecDepth 65536 in
set_option maxHeartbeats 40000000 in
theorem comes_1 {Post : Tables → Env → Array Value → State → Outcome → State → Prop} (hpost : ∀ tb e args s v u, (limb_1_1.after args s (.returned v) u = true ∧ limb_1_2.after args s (.returned v) u = true ∧ True) → ReturnedEndW s (.returned v) u (Jvm.fieldLocs frame_1_writes args s ++ Jvm.arrayLocs frame_1_arrays args s ++ Jvm.staticLocs frame_1_statics s) 24 4224 → Post tb e args s (.returned v) u) :
    ArmFor flags0 classFile x code maxLocals ret World_1 tables_1 room_1 Calls_1 rest_1 Pre_1 Post := by
  intro l hfl _ _ p e ha hc hk s m args below hf hA hF happ hP
  obtain ⟨hcalls, hrest, hpre⟩ := hP
  obtain ⟨-, -, -, hnamed, -, -, -, hat⟩ := (Spec.applies_iff hf).mp happ
  obtain ⟨hg, hn⟩ := and_e (Cond.before_iff.mp (show (Jvm.Cond.and given_1 narrow_1).before args s = true from hpre))
  obtain ⟨hg0, hgr0⟩ := and_e hg
  obtain ⟨hg1, hgr1⟩ := and_e hgr0
  obtain ⟨hg2, hgr2⟩ := and_e hgr1
  obtain ⟨hg3, hgr3⟩ := and_e hgr2
  obtain ⟨hg4, hgr4⟩ := and_e hgr3
  obtain ⟨hg5, hgr5⟩ := and_e hgr4
  have hg6 := hgr5
  obtain ⟨w0, w1, w2, w3, w4, w5, rfl⟩ : ∃ w0 w1 w2 w3 w4 w5 : Value, args = #[w0, w1, w2, w3, w4, w5] := by
    have hs : args.size = 6 := by simpa [Cond.value, given_1] using hg0
    obtain ⟨L⟩ := args
    match L, hs with
    | [w0, w1, w2, w3, w4, w5], _ => exact ⟨w0, w1, w2, w3, w4, w5, rfl⟩
  have hw := fun d (hd : d ∈ tables_1) => atoms_spec (ws := Jvm.Cond.code x code maxLocals ret :: tables_1) hat d (List.mem_cons_of_mem _ hd)
  have hfit : Fit s := fun {y c} hc i hi => by
    obtain ⟨ha, rfl⟩ := Array.getElem?_eq_some_iff.mp hc
    have q := List.all_eq_true.mp ((Array.all_eq_true_iff_forall_mem.mp hF) _ (Array.getElem_mem ha)) i (List.mem_range.mpr hi)
    simpa [Array.getElem?_eq_getElem hi] using q
  obtain ⟨hsets, hown0⟩ := atoms_of _ (rest_1_c_eq ▸ (show rest_1_c.before _ s = true from hrest))
  obtain ⟨i0, ei0⟩ := is_v hg1
  obtain rfl : w0 = (.int i0) := Option.some.inj ei0
  obtain ⟨i1, ei1⟩ := is_v hg2
  obtain rfl : w1 = (.int i1) := Option.some.inj ei1
  obtain ⟨i2, ei2⟩ := is_v hg3
  obtain rfl : w2 = (.int i2) := Option.some.inj ei2
  obtain ⟨i3, ei3⟩ := is_v hg4
  obtain rfl : w3 = (.int i3) := Option.some.inj ei3
  obtain ⟨i4, ei4⟩ := is_v hg5
  obtain rfl : w4 = (.int i4) := Option.some.inj ei4
  obtain ⟨i5, ei5⟩ := is_v hg6
  obtain rfl : w5 = (.int i5) := Option.some.inj ei5
  have eh := eqv_i (y := (127 : Int32)) rfl (Cond.before_iff.mp (hsets _ (List.mem_of_getElem? (i := 3) rfl)))
  have S_high := Sta.start eh (Or.inl (hsets _ (List.mem_of_getElem? (i := 1) rfl)))
  obtain ⟨w_c, ec⟩ := exa_v (Cond.before_iff.mp (hsets _ (List.mem_of_getElem? (i := 5) rfl)))
  have S_cache := Sta.start ec (Or.inr ⟨(hw _ (List.mem_of_getElem? (i := 40) rfl)), (hsets _ (List.mem_of_getElem? (i := 2) rfl))⟩)
  obtain ⟨cl, Ac⟩ := Arr.start ec (Cond.before_iff.mp (hsets _ (List.mem_of_getElem? (i := 4) rfl)))
  obtain ⟨lq, le⟩ := own_len ec Ac (Cond.before_iff.mp (hsets _ (List.mem_of_getElem? (i := 6) rfl)))
  have Bx := Bxs.start (val := fun j => .int (j - (128 : Int32))) (fun _ => ec) Ac lq le (by decide) (Cond.before_iff.mp (hsets _ (List.mem_of_getElem? (i := 7) rfl))) (fun X j nn h => eqv_i (own_sub_at nn) h)
  have EZ := own_ext_refl s.heap
  have hpa : ∀ {q v : Int32}, (v = if q < (1 : Int32) then (-1 : Int32) else q) → v < (1 : Int32) → v = (-1 : Int32) := own_posok
  obtain ⟨vs, h_vs⟩ : ∃ v : Int32, v = (if i0 < (1 : Int32) then (-1 : Int32) else i0) := ⟨_, rfl⟩
  obtain ⟨ve, h_ve⟩ : ∃ v : Int32, v = (if i1 < (1 : Int32) then (-1 : Int32) else i1) := ⟨_, rfl⟩
  obtain ⟨vo, h_vo⟩ : ∃ v : Int32, v = (if i2 < (1 : Int32) then (-1 : Int32) else i2) := ⟨_, rfl⟩
  obtain ⟨vc, h_vc⟩ : ∃ v : Int32, v = (if i3 < (1 : Int32) then (-1 : Int32) else i3) := ⟨_, rfl⟩
  obtain ⟨vr, h_vr⟩ : ∃ v : Int32, v = (if i5 < (1 : Int32) then (-1 : Int32) else i5) := ⟨_, rfl⟩
  obtain ⟨kk, hkk⟩ : ∃ v : Int32, (i4 &&& (15 : Int32)) = v := ⟨_, rfl⟩
  obtain ⟨md, hmd⟩ : ∃ v : Int32, (((i4.toUInt32 >>> ((4 : Int32) &&& 31).toUInt32).toInt32) &&& (3 : Int32)) = v := ⟨_, rfl⟩
  obtain ⟨xs, h_xs⟩ : ∃ v : Int32, v = (if (kk &&& (1 : Int32)) = (0 : Int32) then vs else vr) := ⟨_, rfl⟩
  obtain ⟨xe, h_xe⟩ : ∃ v : Int32, v = (if (kk &&& (2 : Int32)) = (0 : Int32) then ve else vr) := ⟨_, rfl⟩
  obtain ⟨xo, h_xo⟩ : ∃ v : Int32, v = (if (kk &&& (4 : Int32)) = (0 : Int32) then vo else vr) := ⟨_, rfl⟩
  obtain ⟨xc, h_xc⟩ : ∃ v : Int32, v = (if (kk &&& (8 : Int32)) = (0 : Int32) then vc else vr) := ⟨_, rfl⟩
  have hp_vs := own_posok h_vs
  have hp_ve := own_posok h_ve
  have hp_vo := own_posok h_vo
  have hp_vc := own_posok h_vc
  have hp_vr := own_posok h_vr
  have hp_xs : xs < (1 : Int32) → xs = (-1 : Int32) := by
    rw [h_xs]; split <;> assumption
  have hp_xe : xe < (1 : Int32) → xe = (-1 : Int32) := by
    rw [h_xe]; split <;> assumption
  have hp_xo : xo < (1 : Int32) → xo = (-1 : Int32) := by
    rw [h_xo]; split <;> assumption
  have hp_xc : xc < (1 : Int32) → xc = (-1 : Int32) := by
    rw [h_xc]; split <;> assumption
  by_cases hm1 : md = (1 : Int32)
  · obtain ⟨n, o, h1, h2, h3, _, L, rfl, ⟨rfl, N, -⟩, hq⟩ := rm0_0 l s _ hw tables_1 i0 i1 i2 i3 i4 i5 vs ve vo vc vr kk md xs xe xo xc _ w_c cl _ s.heap s.heap.size (Nat.le_refl _) h_vs h_ve h_vo h_vc h_vr hkk hmd h_xs h_xe h_xo h_xc hp_vs hp_ve hp_vo hp_vc hp_xs hp_xe hp_xo hp_xc (own_ch vs ve vo vc xs xe xo xc) rfl S_high S_cache Bx EZ hm1 p e ha hc hk s m _ below hf ((Spec.applies_iff_loose hf).mp happ).1 ⟨rfl, State.Warmed39.refl s, rfl⟩ trivial
    exact ⟨n, _, h1, h2, h3, hpost _ _ _ _ _ _ ⟨Cond.after_iff.mpr rfl, Cond.after_iff.mpr (eq_i res_at (Term.int_eval (1)) rfl), trivial⟩ ⟨hq.1, hq.2.1, hq.2.2.1, (hq.2.2.2.sift fun y hy => Or.inr (N y hy)).mono (by decide) (by decide)⟩⟩
  · by_cases hm2 : md = (2 : Int32)
    · obtain ⟨n, o, h1, h2, h3, _, L, rfl, ⟨rfl, N, -⟩, hq⟩ := rm0_1 l s _ hw tables_1 i0 i1 i2 i3 i4 i5 vs ve vo vc vr kk md xs xe xo xc _ w_c cl _ s.heap s.heap.size (Nat.le_refl _) h_vs h_ve h_vo h_vc h_vr hkk hmd h_xs h_xe h_xo h_xc hp_vs hp_ve hp_vo hp_vc hp_xs hp_xe hp_xo hp_xc (own_ch vs ve vo vc xs xe xo xc) rfl S_high S_cache Bx EZ hm1 hm2 p e ha hc hk s m _ below hf ((Spec.applies_iff_loose hf).mp happ).1 ⟨rfl, State.Warmed39.refl s, rfl⟩ trivial
      exact ⟨n, _, h1, h2, h3, hpost _ _ _ _ _ _ ⟨Cond.after_iff.mpr rfl, Cond.after_iff.mpr (eq_i res_at (Term.int_eval (1)) rfl), trivial⟩ ⟨hq.1, hq.2.1, hq.2.2.1, (hq.2.2.2.sift fun y hy => Or.inr (N y hy)).mono (by decide) (by decide)⟩⟩
    · by_cases hm3 : md = (3 : Int32)
      · obtain ⟨n, o, h1, h2, h3, _, L, rfl, ⟨rfl, N, -⟩, hq⟩ := rm0_2 l s _ hw tables_1 i0 i1 i2 i3 i4 i5 vs ve vo vc vr kk md xs xe xo xc _ w_c cl _ s.heap s.heap.size (Nat.le_refl _) h_vs h_ve h_vo h_vc h_vr hkk hmd h_xs h_xe h_xo h_xc hp_vs hp_ve hp_vo hp_vc hp_xs hp_xe hp_xo hp_xc (own_ch vs ve vo vc xs xe xo xc) rfl S_high S_cache Bx EZ hm1 hm2 hm3 p e ha hc hk s m _ below hf ((Spec.applies_iff_loose hf).mp happ).1 ⟨rfl, State.Warmed39.refl s, rfl⟩ trivial
        exact ⟨n, _, h1, h2, h3, hpost _ _ _ _ _ _ ⟨Cond.after_iff.mpr rfl, Cond.after_iff.mpr (eq_i res_at (Term.int_eval (1)) rfl), trivial⟩ ⟨hq.1, hq.2.1, hq.2.2.1, (hq.2.2.2.sift fun y hy => Or.inr (N y hy)).mono (by decide) (by decide)⟩⟩
      · obtain ⟨n, o, h1, h2, h3, _, L, rfl, ⟨rfl, N, -⟩, hq⟩ := rm0_3 l s _ hw tables_1 i0 i1 i2 i3 i4 i5 vs ve vo vc vr kk md xs xe xo xc _ w_c cl _ s.heap s.heap.size (Nat.le_refl _) h_vs h_ve h_vo h_vc h_vr hkk hmd h_xs h_xe h_xo h_xc hp_vs hp_ve hp_vo hp_vc hp_xs hp_xe hp_xo hp_xc (own_ch vs ve vo vc xs xe xo xc) rfl S_high S_cache Bx EZ hm1 hm2 hm3 p e ha hc hk s m _ below hf ((Spec.applies_iff_loose hf).mp happ).1 ⟨rfl, State.Warmed39.refl s, rfl⟩ trivial
        exact ⟨n, _, h1, h2, h3, hpost _ _ _ _ _ _ ⟨Cond.after_iff.mpr rfl, Cond.after_iff.mpr (eq_i res_at (Term.int_eval (1)) rfl), trivial⟩ ⟨hq.1, hq.2.1, hq.2.2.1, (hq.2.2.2.sift fun y hy => Or.inr (N y hy)).mono (by decide) (by decide)⟩⟩
theorem main_1_1 : Claimed_1_1 := comes_1 fun _ _ _ _ _ _ h hF => ⟨h.1, hF⟩
theorem main_1_2 : Claimed_1_2 := comes_1 fun _ _ _ _ _ _ h hF => ⟨h.2.1, hF⟩
end Jvm.Pilot.@@N@@
namespace Jvm.Pilot.@@N@@
open Jvm Jvm.ClassFile Sem Op Lib Jvm.Free Jvm.Stand Jvm.Pilot.@@N@@.Jvm.D
/-! MADE BY PROGRAM (witnessworld.py) out of the Statement's table words and the real class files: 18 classes; the members and pool entries that the words name. The judged class is class 1, her method 2. -/
namespace start1
open Jvm.ClassFile
def u (s : String) : CpInfo := .utf8 (stringToUtf16 s)
/-- a pool by its gaps: so many unusable entries, then the entry; so many at the end -/
def gap : Nat → List CpInfo → List CpInfo
  | 0, r => r
  | n + 1, r => .unusable :: gap n r
def poolList (es : List (Nat × CpInfo)) (last : Nat) : List CpInfo := es.foldr (fun e r => gap e.1 (e.2 :: r)) (gap last [])
def pool (es : List (Nat × CpInfo)) (last : Nat) : Array CpInfo := ⟨poolList es last⟩
def fileOf (pool : Array CpInfo) (this : Nat) (attrs : Array Attribute := #[]) (ms : Array MethodInfo := #[]) (fl : Nat := 33) (sup : Nat := 0) (ifs : Array Nat := #[]) (fds : Array FieldInfo := #[]) : ClassFile where
  minorVersion := 0
  majorVersion := 65
  constantPool := pool
  accessFlags := fl
  thisClass := this
  superClass := sup
  interfaces := ifs
  fields := fds
  methods := ms
  attributes := attrs
def plain (name : String) (sup : Option ClassId) : Class where
  name := name
  kind := .ordinary
  loader := none
  accessFlags := 33
  super := sup
  interfaces := #[]
  cf := none
  fields := #[]
  methods := #[]
  instanceTypes := #[]
  staticTypes := #[]
  resolved := #[]
  callSites := []
  init := .initialized
  statics := none
  mirror := none

def pool0 : Array CpInfo := pool [(5, u "<init>"), (0, u "()V"), (1, .class_ 10), (1, u "java/lang/Object")] 113

def k0c0 : Code := { maxStack := 0, maxLocals := 1, code := object_method_1_code, exceptionTable := #[], attributes := #[] }
def k0m0 : Method := { name := "<init>", desc := "()V", sig := { parameters := [], returnType := none }, accessFlags := 1, code := some k0c0 }
/-- java/lang/Object -/
def k0 : Class := { plain "java/lang/Object" none with
  accessFlags := 33
  interfaces := #[]
  cf := some (fileOf pool0 8 #[] #[{ accessFlags := 1, nameIndex := 5, descriptorIndex := 6, attributes := #[] }] 33 0 #[] #[])
  fields := #[]
  methods := #[k0m0]
  instanceTypes := #[]
  staticTypes := #[]
  resolved := Array.replicate 124 none
  statics := none }

def pool1 : Array CpInfo := pool [(2, .class_ 4), (1, u "java/lang/Object"), (0, u "<init>"), (0, u "()V"), (0, .class_ 8), (0, u "com/example/segmentwise/segmentwise/model/Location"), (0, .methodref 10 11), (0, .class_ 12), (0, .nameAndType 13 14), (0, u "com/example/segmentwise/segmentwise/model/LocationEqualsPinLaw"), (0, u "pos"), (0, u "(I)I"), (0, .methodref 7 16), (0, .nameAndType 5 17), (0, u "(IIII)V"), (0, .methodref 19 20), (0, .class_ 21), (0, .nameAndType 22 23), (0, u "java/lang/Integer"), (0, u "valueOf"), (0, u "(I)Ljava/lang/Integer;"), (0, .methodref 7 25), (0, .nameAndType 26 27), (0, u "equals"), (0, u "(Ljava/lang/Object;)Z"), (3, u "law"), (0, u "(IIIIII)Z")] 2

def k1m0 : Method := { name := "<init>", desc := "()V", sig := { parameters := [], returnType := none }, accessFlags := 1, code := none }
def k1c1 : Code := { maxStack := 2, maxLocals := 1, code := method_2_code, exceptionTable := #[], attributes := #[] }
def k1m1 : Method := { name := "pos", desc := "(I)I", sig := { parameters := [.int], returnType := some .int }, accessFlags := 10, code := some k1c1 }
def k1c2 : Code := { maxStack := 6, maxLocals := 21, code := code, exceptionTable := #[], attributes := #[] }
def k1m2 : Method := { name := "law", desc := "(IIIIII)Z", sig := { parameters := [.int, .int, .int, .int, .int, .int], returnType := some .boolean }, accessFlags := 9, code := some k1c2 }
/-- com/example/segmentwise/segmentwise/model/LocationEqualsPinLaw -/
def k1 : Class := { plain "com/example/segmentwise/segmentwise/model/LocationEqualsPinLaw" (some 0) with
  accessFlags := 49
  interfaces := #[]
  cf := some (fileOf pool1 10 #[] #[{ accessFlags := 1, nameIndex := 5, descriptorIndex := 6, attributes := #[] }, { accessFlags := 10, nameIndex := 13, descriptorIndex := 14, attributes := #[] }, { accessFlags := 9, nameIndex := 31, descriptorIndex := 32, attributes := #[] }] 49 2 #[] #[])
  fields := #[]
  methods := #[k1m0, k1m1, k1m2]
  instanceTypes := #[]
  staticTypes := #[]
  resolved := Array.replicate 35 none
  statics := none }

def pool2 : Array CpInfo := pool [(1, .methodref 2 3), (0, .class_ 4), (0, .nameAndType 5 6), (0, u "java/lang/Object"), (0, u "<init>"), (0, u "()V"), (0, .string 8), (0, u "segment position"), (0, .methodref 10 11), (0, .class_ 12), (0, .nameAndType 13 14), (0, u "com/example/segmentwise/segmentwise/model/Location"), (0, u "checkPosition"), (0, u "(Ljava/lang/String;I)I"), (0, .fieldref 10 16), (0, .nameAndType 17 18), (0, u "segmentPosition"), (0, u "I"), (0, .string 20), (0, u "element position"), (0, .fieldref 10 22), (0, .nameAndType 23 18), (0, u "elementPosition"), (0, .string 25), (0, u "element occurrence"), (0, .fieldref 10 27), (0, .nameAndType 28 18), (0, u "elementOccurrence"), (0, .string 30), (0, u "component position"), (0, .fieldref 10 32), (0, .nameAndType 33 18), (0, u "componentPosition"), (12, u "NOT_APPLICABLE"), (2, u "(IIII)V"), (8, u "equals"), (0, u "(Ljava/lang/Object;)Z")] 22

def k2c0 : Code := { maxStack := 3, maxLocals := 5, code := prog_25_method_1_code, exceptionTable := #[], attributes := #[] }
def k2m0 : Method := { name := "<init>", desc := "(IIII)V", sig := { parameters := [.int, .int, .int, .int], returnType := none }, accessFlags := 1, code := some k2c0 }
def k2c1 : Code := { maxStack := 4, maxLocals := 2, code := prog_25_method_2_code, exceptionTable := #[], attributes := #[] }
def k2m1 : Method := { name := "checkPosition", desc := "(Ljava/lang/String;I)I", sig := { parameters := [(.object "java/lang/String"), .int], returnType := some .int }, accessFlags := 10, code := some k2c1 }
def k2c2 : Code := { maxStack := 2, maxLocals := 3, code := prog_25_method_7_code, exceptionTable := #[], attributes := #[] }
def k2m2 : Method := { name := "equals", desc := "(Ljava/lang/Object;)Z", sig := { parameters := [(.object "java/lang/Object")], returnType := some .boolean }, accessFlags := 1, code := some k2c2 }
/-- com/example/segmentwise/segmentwise/model/Location -/
def k2 : Class := { plain "com/example/segmentwise/segmentwise/model/Location" (some 0) with
  accessFlags := 49
  interfaces := #[]
  cf := some (fileOf pool2 10 #[] #[{ accessFlags := 1, nameIndex := 5, descriptorIndex := 49, attributes := #[] }, { accessFlags := 10, nameIndex := 13, descriptorIndex := 14, attributes := #[] }, { accessFlags := 1, nameIndex := 58, descriptorIndex := 59, attributes := #[] }] 49 2 #[] #[{ accessFlags := 25, nameIndex := 46, descriptorIndex := 18, attributes := #[] }, { accessFlags := 18, nameIndex := 17, descriptorIndex := 18, attributes := #[] }, { accessFlags := 18, nameIndex := 23, descriptorIndex := 18, attributes := #[] }, { accessFlags := 18, nameIndex := 28, descriptorIndex := 18, attributes := #[] }, { accessFlags := 18, nameIndex := 33, descriptorIndex := 18, attributes := #[] }])
  fields := #[{ name := "NOT_APPLICABLE", type := .int, accessFlags := 25, slot := 0, constantValue := 0 }, { name := "segmentPosition", type := .int, accessFlags := 18, slot := 0, constantValue := 0 }, { name := "elementPosition", type := .int, accessFlags := 18, slot := 1, constantValue := 0 }, { name := "elementOccurrence", type := .int, accessFlags := 18, slot := 2, constantValue := 0 }, { name := "componentPosition", type := .int, accessFlags := 18, slot := 3, constantValue := 0 }]
  methods := #[k2m0, k2m1, k2m2]
  instanceTypes := #[.int, .int, .int, .int]
  staticTypes := #[.int]
  resolved := Array.replicate 82 none
  statics := none }

def pool3 : Array CpInfo := pool [(1, .class_ 2), (0, u "java/io/Serializable"), (0, .class_ 4), (0, u "java/lang/Object")] 2

/-- java/io/Serializable -/
def k3 : Class := { plain "java/io/Serializable" (some 0) with
  accessFlags := 1537
  interfaces := #[]
  cf := some (fileOf pool3 1 #[] #[] 1537 3 #[] #[])
  fields := #[]
  methods := #[]
  instanceTypes := #[]
  staticTypes := #[]
  resolved := Array.replicate 7 none
  statics := none }

def pool4 : Array CpInfo := pool [(1, .class_ 2), (0, u "java/lang/Comparable"), (0, .class_ 4), (0, u "java/lang/Object")] 7

/-- java/lang/Comparable -/
def k4 : Class := { plain "java/lang/Comparable" (some 0) with
  accessFlags := 1537
  interfaces := #[]
  cf := some (fileOf pool4 1 #[] #[] 1537 3 #[] #[])
  fields := #[]
  methods := #[]
  instanceTypes := #[]
  staticTypes := #[]
  resolved := Array.replicate 12 none
  statics := none }

def pool5 : Array CpInfo := pool [(2, .class_ 4), (1, u "java/lang/CharSequence"), (42, .class_ 48), (0, u "java/lang/CharSequence$1CodePointIterator"), (10, .class_ 60), (0, u "java/lang/CharSequence$1CharIterator"), (5, .class_ 67), (0, u "java/lang/Object")] 63

/-- java/lang/CharSequence -/
def k5 : Class := { plain "java/lang/CharSequence" (some 0) with
  accessFlags := 1537
  interfaces := #[]
  cf := some (fileOf pool5 2 #[.nestMembers #[47, 59]] #[] 1537 66 #[] #[])
  fields := #[]
  methods := #[]
  instanceTypes := #[]
  staticTypes := #[]
  resolved := Array.replicate 131 none
  statics := none }

def pool6 : Array CpInfo := pool [(1, .class_ 2), (0, u "java/lang/constant/Constable"), (0, .class_ 4), (0, u "java/lang/Object")] 6

/-- java/lang/constant/Constable -/
def k6 : Class := { plain "java/lang/constant/Constable" (some 0) with
  accessFlags := 1537
  interfaces := #[]
  cf := some (fileOf pool6 1 #[] #[] 1537 3 #[] #[])
  fields := #[]
  methods := #[]
  instanceTypes := #[]
  staticTypes := #[]
  resolved := Array.replicate 11 none
  statics := none }

def pool7 : Array CpInfo := pool [(1, .class_ 2), (0, u "java/lang/constant/ConstantDesc"), (0, .class_ 4), (0, u "java/lang/Object")] 32

/-- java/lang/constant/ConstantDesc -/
def k7 : Class := { plain "java/lang/constant/ConstantDesc" (some 0) with
  accessFlags := 1537
  interfaces := #[]
  cf := some (fileOf pool7 1 #[] #[] 1537 3 #[] #[])
  fields := #[]
  methods := #[]
  instanceTypes := #[]
  staticTypes := #[]
  resolved := Array.replicate 37 none
  statics := none }

def pool8 : Array CpInfo := pool [(2, .class_ 4), (1, u "java/lang/Object"), (0, u "<init>"), (0, u "()V"), (3, .class_ 12), (1, u "java/lang/String"), (0, u "value"), (0, u "[B"), (2, u "coder"), (0, u "B"), (2, u "hash"), (0, u "I"), (2, u "hashIsZero"), (0, u "Z"), (13, u "COMPACT_STRINGS"), (534, .class_ 576), (0, u "java/lang/CharSequence"), (22, u "CASE_INSENSITIVE_ORDER"), (0, u "Ljava/util/Comparator;"), (500, u "serialPersistentFields"), (0, u "[Ljava/io/ObjectStreamField;"), (0, .class_ 1104), (0, u "java/lang/String$CaseInsensitiveComparator"), (1, .class_ 1107), (0, u "java/io/Serializable"), (0, .class_ 1109), (0, u "java/lang/Comparable"), (0, .class_ 1111), (0, u "java/lang/constant/Constable"), (0, .class_ 1113), (0, u "java/lang/constant/ConstantDesc"), (2, u "serialVersionUID"), (0, u "J"), (3, u "REPL"), (0, u "C"), (2, u "LATIN1"), (1, u "UTF16")] 323

def k8m0 : Method := { name := "<init>", desc := "()V", sig := { parameters := [], returnType := none }, accessFlags := 1, code := none }
/-- java/lang/String -/
def k8 : Class := { plain "java/lang/String" (some 0) with
  accessFlags := 49
  interfaces := #[3, 4, 5, 6, 7]
  cf := some (fileOf pool8 10 #[.nestMembers #[1103]] #[{ accessFlags := 1, nameIndex := 5, descriptorIndex := 6, attributes := #[] }] 49 2 #[1106, 1108, 575, 1110, 1112] #[{ accessFlags := 18, nameIndex := 13, descriptorIndex := 14, attributes := #[] }, { accessFlags := 18, nameIndex := 17, descriptorIndex := 18, attributes := #[] }, { accessFlags := 2, nameIndex := 21, descriptorIndex := 22, attributes := #[] }, { accessFlags := 2, nameIndex := 25, descriptorIndex := 26, attributes := #[] }, { accessFlags := 26, nameIndex := 1116, descriptorIndex := 1117, attributes := #[] }, { accessFlags := 24, nameIndex := 40, descriptorIndex := 26, attributes := #[] }, { accessFlags := 26, nameIndex := 1101, descriptorIndex := 1102, attributes := #[] }, { accessFlags := 26, nameIndex := 1121, descriptorIndex := 1122, attributes := #[] }, { accessFlags := 25, nameIndex := 599, descriptorIndex := 600, attributes := #[] }, { accessFlags := 24, nameIndex := 1125, descriptorIndex := 18, attributes := #[] }, { accessFlags := 24, nameIndex := 1127, descriptorIndex := 18, attributes := #[] }])
  fields := #[{ name := "value", type := (.array .byte), accessFlags := 18, slot := 0, constantValue := 0 }, { name := "coder", type := .byte, accessFlags := 18, slot := 1, constantValue := 0 }, { name := "hash", type := .int, accessFlags := 2, slot := 2, constantValue := 0 }, { name := "hashIsZero", type := .boolean, accessFlags := 2, slot := 3, constantValue := 0 }, { name := "serialVersionUID", type := .long, accessFlags := 26, slot := 0, constantValue := 0 }, { name := "COMPACT_STRINGS", type := .boolean, accessFlags := 24, slot := 1, constantValue := 0 }, { name := "serialPersistentFields", type := (.array (.object "java/io/ObjectStreamField")), accessFlags := 26, slot := 2, constantValue := 0 }, { name := "REPL", type := .char, accessFlags := 26, slot := 3, constantValue := 0 }, { name := "CASE_INSENSITIVE_ORDER", type := (.object "java/util/Comparator"), accessFlags := 25, slot := 4, constantValue := 0 }, { name := "LATIN1", type := .byte, accessFlags := 24, slot := 5, constantValue := 0 }, { name := "UTF16", type := .byte, accessFlags := 24, slot := 6, constantValue := 0 }]
  methods := #[k8m0]
  instanceTypes := #[(.array .byte), .byte, .int, .boolean]
  staticTypes := #[.long, .boolean, (.array (.object "java/io/ObjectStreamField")), .char, (.object "java/util/Comparator"), .byte, .byte]
  resolved := Array.replicate 1451 none
  statics := none }

def pool9 : Array CpInfo := pool [(1, .methodref 2 3), (0, .class_ 4), (0, .nameAndType 5 6), (0, u "java/lang/Object"), (0, u "<init>"), (0, u "()V"), (1, .class_ 10), (1, u "java/lang/Number"), (2, .class_ 14), (0, u "java/io/Serializable"), (0, u "serialVersionUID"), (0, u "J")] 20

def k9c0 : Code := { maxStack := 1, maxLocals := 1, code := jdk_18_method_1_code, exceptionTable := #[], attributes := #[] }
def k9m0 : Method := { name := "<init>", desc := "()V", sig := { parameters := [], returnType := none }, accessFlags := 1, code := some k9c0 }
/-- java/lang/Number -/
def k9 : Class := { plain "java/lang/Number" (some 0) with
  accessFlags := 1057
  interfaces := #[3]
  cf := some (fileOf pool9 8 #[] #[{ accessFlags := 1, nameIndex := 5, descriptorIndex := 6, attributes := #[] }] 1057 2 #[13] #[{ accessFlags := 26, nameIndex := 15, descriptorIndex := 16, attributes := #[] }])
  fields := #[{ name := "serialVersionUID", type := .long, accessFlags := 26, slot := 0, constantValue := 0 }]
  methods := #[k9m0]
  instanceTypes := #[]
  staticTypes := #[.long]
  resolved := Array.replicate 37 none
  statics := none }

def pool10 : Array CpInfo := pool [(1, .class_ 2), (0, u "java/lang/Integer"), (16, u "digits"), (0, u "[C"), (46, u "<init>"), (17, u "DigitOnes"), (0, u "[B"), (2, u "DigitTens"), (10, .nameAndType 67 101), (0, u "()V"), (85, u "valueOf"), (0, u "(I)Ljava/lang/Integer;"), (0, .class_ 190), (0, u "java/lang/Integer$IntegerCache"), (0, .fieldref 189 192), (0, .nameAndType 193 194), (0, u "high"), (0, u "I"), (0, .fieldref 189 196), (0, .nameAndType 197 198), (0, u "cache"), (0, u "[Ljava/lang/Integer;"), (0, .methodref 1 200), (0, .nameAndType 67 201), (0, u "(I)V"), (0, .methodref 203 100), (0, .class_ 204), (0, u "java/lang/Number"), (0, .fieldref 1 206), (0, .nameAndType 207 194), (0, u "value"), (94, u "TYPE"), (0, u "Ljava/lang/Class;"), (0, .class_ 305), (0, u "java/lang/Comparable"), (0, .class_ 307), (0, u "java/lang/constant/Constable"), (0, .class_ 309), (0, u "java/lang/constant/ConstantDesc"), (0, u "MIN_VALUE"), (1, u "MAX_VALUE"), (3, u "SIZE"), (1, u "BYTES"), (1, u "serialVersionUID"), (0, u "J")] 131

def k10c0 : Code := { maxStack := 3, maxLocals := 1, code := jdk_33_method_22_code, exceptionTable := #[], attributes := #[] }
def k10m0 : Method := { name := "valueOf", desc := "(I)Ljava/lang/Integer;", sig := { parameters := [.int], returnType := some (.object "java/lang/Integer") }, accessFlags := 9, code := some k10c0 }
def k10c1 : Code := { maxStack := 2, maxLocals := 2, code := jdk_33_method_23_code, exceptionTable := #[], attributes := #[] }
def k10m1 : Method := { name := "<init>", desc := "(I)V", sig := { parameters := [.int], returnType := none }, accessFlags := 1, code := some k10c1 }
/-- java/lang/Integer -/
def k10 : Class := { plain "java/lang/Integer" (some 9) with
  accessFlags := 49
  interfaces := #[4, 6, 7]
  cf := some (fileOf pool10 1 #[.nestMembers #[189]] #[{ accessFlags := 9, nameIndex := 187, descriptorIndex := 188, attributes := #[] }, { accessFlags := 1, nameIndex := 67, descriptorIndex := 201, attributes := #[] }] 49 203 #[304, 306, 308] #[{ accessFlags := 25, nameIndex := 310, descriptorIndex := 194, attributes := #[] }, { accessFlags := 25, nameIndex := 312, descriptorIndex := 194, attributes := #[] }, { accessFlags := 25, nameIndex := 302, descriptorIndex := 303, attributes := #[] }, { accessFlags := 24, nameIndex := 19, descriptorIndex := 20, attributes := #[] }, { accessFlags := 24, nameIndex := 89, descriptorIndex := 86, attributes := #[] }, { accessFlags := 24, nameIndex := 85, descriptorIndex := 86, attributes := #[] }, { accessFlags := 18, nameIndex := 207, descriptorIndex := 194, attributes := #[] }, { accessFlags := 25, nameIndex := 316, descriptorIndex := 194, attributes := #[] }, { accessFlags := 25, nameIndex := 318, descriptorIndex := 194, attributes := #[] }, { accessFlags := 26, nameIndex := 320, descriptorIndex := 321, attributes := #[] }])
  fields := #[{ name := "MIN_VALUE", type := .int, accessFlags := 25, slot := 0, constantValue := 0 }, { name := "MAX_VALUE", type := .int, accessFlags := 25, slot := 1, constantValue := 0 }, { name := "TYPE", type := (.object "java/lang/Class"), accessFlags := 25, slot := 2, constantValue := 0 }, { name := "digits", type := (.array .char), accessFlags := 24, slot := 3, constantValue := 0 }, { name := "DigitTens", type := (.array .byte), accessFlags := 24, slot := 4, constantValue := 0 }, { name := "DigitOnes", type := (.array .byte), accessFlags := 24, slot := 5, constantValue := 0 }, { name := "value", type := .int, accessFlags := 18, slot := 0, constantValue := 0 }, { name := "SIZE", type := .int, accessFlags := 25, slot := 6, constantValue := 0 }, { name := "BYTES", type := .int, accessFlags := 25, slot := 7, constantValue := 0 }, { name := "serialVersionUID", type := .long, accessFlags := 26, slot := 8, constantValue := 0 }]
  methods := #[k10m0, k10m1]
  instanceTypes := #[.int]
  staticTypes := #[.int, .int, (.object "java/lang/Class"), (.array .char), (.array .byte), (.array .byte), .int, .int, .long]
  resolved := Array.replicate 453 none
  statics := none }

def pool11 : Array CpInfo := pool [(2, .class_ 4), (1, u "java/lang/Object"), (0, u "<init>"), (0, u "()V"), (0, .class_ 8), (0, u "java/lang/Integer"), (7, .class_ 18), (1, u "java/lang/Integer$IntegerCache"), (0, u "$assertionsDisabled"), (0, u "Z"), (26, u "high"), (0, u "I"), (8, u "archivedCache"), (0, u "[Ljava/lang/Integer;"), (12, u "cache"), (0, u "low")] 27

def k11m0 : Method := { name := "<init>", desc := "()V", sig := { parameters := [], returnType := none }, accessFlags := 2, code := none }
/-- java/lang/Integer$IntegerCache -/
def k11 : Class := { plain "java/lang/Integer$IntegerCache" (some 0) with
  accessFlags := 48
  interfaces := #[]
  cf := some (fileOf pool11 16 #[.nestHost 7] #[{ accessFlags := 2, nameIndex := 5, descriptorIndex := 6, attributes := #[] }] 48 2 #[] #[{ accessFlags := 24, nameIndex := 72, descriptorIndex := 48, attributes := #[] }, { accessFlags := 24, nameIndex := 47, descriptorIndex := 48, attributes := #[] }, { accessFlags := 24, nameIndex := 71, descriptorIndex := 58, attributes := #[] }, { accessFlags := 8, nameIndex := 57, descriptorIndex := 58, attributes := #[] }, { accessFlags := 4120, nameIndex := 19, descriptorIndex := 20, attributes := #[] }])
  fields := #[{ name := "low", type := .int, accessFlags := 24, slot := 0, constantValue := 0 }, { name := "high", type := .int, accessFlags := 24, slot := 1, constantValue := 0 }, { name := "cache", type := (.array (.object "java/lang/Integer")), accessFlags := 24, slot := 2, constantValue := 0 }, { name := "archivedCache", type := (.array (.object "java/lang/Integer")), accessFlags := 8, slot := 3, constantValue := 0 }, { name := "$assertionsDisabled", type := .boolean, accessFlags := 4120, slot := 4, constantValue := 0 }]
  methods := #[k11m0]
  instanceTypes := #[]
  staticTypes := #[.int, .int, (.array (.object "java/lang/Integer")), (.array (.object "java/lang/Integer")), .boolean]
  resolved := Array.replicate 100 none
  statics := some 0 }

def pool12 : Array CpInfo := pool [(1, u "java/lang/Cloneable"), (0, .class_ 1), (0, u "java/lang/Object"), (0, .class_ 3)] 3

/-- java/lang/Cloneable -/
def k12 : Class := { plain "java/lang/Cloneable" (some 0) with
  accessFlags := 1537
  interfaces := #[]
  cf := some (fileOf pool12 2 #[] #[] 1537 4 #[] #[])
  fields := #[]
  methods := #[]
  instanceTypes := #[]
  staticTypes := #[]
  resolved := Array.replicate 8 none
  statics := none }

/-- the primitive byte -/
def k13 : Class := { plain "byte" none with kind := .primitive 'B', accessFlags := 0x411 }
/-- [B -/
def k14 : Class := { plain "[B" (some 0) with kind := .array 13 .byte, interfaces := #[12, 3], accessFlags := 1041 }

/-- the primitive int -/
def k15 : Class := { plain "int" none with kind := .primitive 'I', accessFlags := 0x411 }
/-- [I -/
def k16 : Class := { plain "[I" (some 0) with kind := .array 15 .int, interfaces := #[12, 3], accessFlags := 1041 }

/-- [Ljava/lang/Integer; -/
def k17 : Class := { plain "[Ljava/lang/Integer;" (some 0) with kind := .array 10 (.object "java/lang/Integer"), interfaces := #[12, 3], accessFlags := 1041 }

def heap : Heap := #[{ cls := 11, slots := #[.int 0, .int 127, .ref 1, .null, .int 0], vm := .statics 11 },
  { cls := 17, slots := #[.ref 2, .ref 3, .ref 4, .ref 5, .ref 6, .ref 7, .ref 8, .ref 9, .ref 10, .ref 11, .ref 12, .ref 13, .ref 14, .ref 15, .ref 16, .ref 17, .ref 18, .ref 19, .ref 20, .ref 21, .ref 22, .ref 23, .ref 24, .ref 25, .ref 26, .ref 27, .ref 28, .ref 29, .ref 30, .ref 31, .ref 32, .ref 33, .ref 34, .ref 35, .ref 36, .ref 37, .ref 38, .ref 39, .ref 40, .ref 41, .ref 42, .ref 43, .ref 44, .ref 45, .ref 46, .ref 47, .ref 48, .ref 49, .ref 50, .ref 51, .ref 52, .ref 53, .ref 54, .ref 55, .ref 56, .ref 57, .ref 58, .ref 59, .ref 60, .ref 61, .ref 62, .ref 63, .ref 64, .ref 65, .ref 66, .ref 67, .ref 68, .ref 69, .ref 70, .ref 71, .ref 72, .ref 73, .ref 74, .ref 75, .ref 76, .ref 77, .ref 78, .ref 79, .ref 80, .ref 81, .ref 82, .ref 83, .ref 84, .ref 85, .ref 86, .ref 87, .ref 88, .ref 89, .ref 90, .ref 91, .ref 92, .ref 93, .ref 94, .ref 95, .ref 96, .ref 97, .ref 98, .ref 99, .ref 100, .ref 101, .ref 102, .ref 103, .ref 104, .ref 105, .ref 106, .ref 107, .ref 108, .ref 109, .ref 110, .ref 111, .ref 112, .ref 113, .ref 114, .ref 115, .ref 116, .ref 117, .ref 118, .ref 119, .ref 120, .ref 121, .ref 122, .ref 123, .ref 124, .ref 125, .ref 126, .ref 127, .ref 128, .ref 129, .ref 130, .ref 131, .ref 132, .ref 133, .ref 134, .ref 135, .ref 136, .ref 137, .ref 138, .ref 139, .ref 140, .ref 141, .ref 142, .ref 143, .ref 144, .ref 145, .ref 146, .ref 147, .ref 148, .ref 149, .ref 150, .ref 151, .ref 152, .ref 153, .ref 154, .ref 155, .ref 156, .ref 157, .ref 158, .ref 159, .ref 160, .ref 161, .ref 162, .ref 163, .ref 164, .ref 165, .ref 166, .ref 167, .ref 168, .ref 169, .ref 170, .ref 171, .ref 172, .ref 173, .ref 174, .ref 175, .ref 176, .ref 177, .ref 178, .ref 179, .ref 180, .ref 181, .ref 182, .ref 183, .ref 184, .ref 185, .ref 186, .ref 187, .ref 188, .ref 189, .ref 190, .ref 191, .ref 192, .ref 193, .ref 194, .ref 195, .ref 196, .ref 197, .ref 198, .ref 199, .ref 200, .ref 201, .ref 202, .ref 203, .ref 204, .ref 205, .ref 206, .ref 207, .ref 208, .ref 209, .ref 210, .ref 211, .ref 212, .ref 213, .ref 214, .ref 215, .ref 216, .ref 217, .ref 218, .ref 219, .ref 220, .ref 221, .ref 222, .ref 223, .ref 224, .ref 225, .ref 226, .ref 227, .ref 228, .ref 229, .ref 230, .ref 231, .ref 232, .ref 233, .ref 234, .ref 235, .ref 236, .ref 237, .ref 238, .ref 239, .ref 240, .ref 241, .ref 242, .ref 243, .ref 244, .ref 245, .ref 246, .ref 247, .ref 248, .ref 249, .ref 250, .ref 251, .ref 252, .ref 253, .ref 254, .ref 255, .ref 256, .ref 257], vm := .none },
  { cls := 10, slots := #[.int (-128)], vm := .none },
  { cls := 10, slots := #[.int (-127)], vm := .none },
  { cls := 10, slots := #[.int (-126)], vm := .none },
  { cls := 10, slots := #[.int (-125)], vm := .none },
  { cls := 10, slots := #[.int (-124)], vm := .none },
  { cls := 10, slots := #[.int (-123)], vm := .none },
  { cls := 10, slots := #[.int (-122)], vm := .none },
  { cls := 10, slots := #[.int (-121)], vm := .none },
  { cls := 10, slots := #[.int (-120)], vm := .none },
  { cls := 10, slots := #[.int (-119)], vm := .none },
  { cls := 10, slots := #[.int (-118)], vm := .none },
  { cls := 10, slots := #[.int (-117)], vm := .none },
  { cls := 10, slots := #[.int (-116)], vm := .none },
  { cls := 10, slots := #[.int (-115)], vm := .none },
  { cls := 10, slots := #[.int (-114)], vm := .none },
  { cls := 10, slots := #[.int (-113)], vm := .none },
  { cls := 10, slots := #[.int (-112)], vm := .none },
  { cls := 10, slots := #[.int (-111)], vm := .none },
  { cls := 10, slots := #[.int (-110)], vm := .none },
  { cls := 10, slots := #[.int (-109)], vm := .none },
  { cls := 10, slots := #[.int (-108)], vm := .none },
  { cls := 10, slots := #[.int (-107)], vm := .none },
  { cls := 10, slots := #[.int (-106)], vm := .none },
  { cls := 10, slots := #[.int (-105)], vm := .none },
  { cls := 10, slots := #[.int (-104)], vm := .none },
  { cls := 10, slots := #[.int (-103)], vm := .none },
  { cls := 10, slots := #[.int (-102)], vm := .none },
  { cls := 10, slots := #[.int (-101)], vm := .none },
  { cls := 10, slots := #[.int (-100)], vm := .none },
  { cls := 10, slots := #[.int (-99)], vm := .none },
  { cls := 10, slots := #[.int (-98)], vm := .none },
  { cls := 10, slots := #[.int (-97)], vm := .none },
  { cls := 10, slots := #[.int (-96)], vm := .none },
  { cls := 10, slots := #[.int (-95)], vm := .none },
  { cls := 10, slots := #[.int (-94)], vm := .none },
  { cls := 10, slots := #[.int (-93)], vm := .none },
  { cls := 10, slots := #[.int (-92)], vm := .none },
  { cls := 10, slots := #[.int (-91)], vm := .none },
  { cls := 10, slots := #[.int (-90)], vm := .none },
  { cls := 10, slots := #[.int (-89)], vm := .none },
  { cls := 10, slots := #[.int (-88)], vm := .none },
  { cls := 10, slots := #[.int (-87)], vm := .none },
  { cls := 10, slots := #[.int (-86)], vm := .none },
  { cls := 10, slots := #[.int (-85)], vm := .none },
  { cls := 10, slots := #[.int (-84)], vm := .none },
  { cls := 10, slots := #[.int (-83)], vm := .none },
  { cls := 10, slots := #[.int (-82)], vm := .none },
  { cls := 10, slots := #[.int (-81)], vm := .none },
  { cls := 10, slots := #[.int (-80)], vm := .none },
  { cls := 10, slots := #[.int (-79)], vm := .none },
  { cls := 10, slots := #[.int (-78)], vm := .none },
  { cls := 10, slots := #[.int (-77)], vm := .none },
  { cls := 10, slots := #[.int (-76)], vm := .none },
  { cls := 10, slots := #[.int (-75)], vm := .none },
  { cls := 10, slots := #[.int (-74)], vm := .none },
  { cls := 10, slots := #[.int (-73)], vm := .none },
  { cls := 10, slots := #[.int (-72)], vm := .none },
  { cls := 10, slots := #[.int (-71)], vm := .none },
  { cls := 10, slots := #[.int (-70)], vm := .none },
  { cls := 10, slots := #[.int (-69)], vm := .none },
  { cls := 10, slots := #[.int (-68)], vm := .none },
  { cls := 10, slots := #[.int (-67)], vm := .none },
  { cls := 10, slots := #[.int (-66)], vm := .none },
  { cls := 10, slots := #[.int (-65)], vm := .none },
  { cls := 10, slots := #[.int (-64)], vm := .none },
  { cls := 10, slots := #[.int (-63)], vm := .none },
  { cls := 10, slots := #[.int (-62)], vm := .none },
  { cls := 10, slots := #[.int (-61)], vm := .none },
  { cls := 10, slots := #[.int (-60)], vm := .none },
  { cls := 10, slots := #[.int (-59)], vm := .none },
  { cls := 10, slots := #[.int (-58)], vm := .none },
  { cls := 10, slots := #[.int (-57)], vm := .none },
  { cls := 10, slots := #[.int (-56)], vm := .none },
  { cls := 10, slots := #[.int (-55)], vm := .none },
  { cls := 10, slots := #[.int (-54)], vm := .none },
  { cls := 10, slots := #[.int (-53)], vm := .none },
  { cls := 10, slots := #[.int (-52)], vm := .none },
  { cls := 10, slots := #[.int (-51)], vm := .none },
  { cls := 10, slots := #[.int (-50)], vm := .none },
  { cls := 10, slots := #[.int (-49)], vm := .none },
  { cls := 10, slots := #[.int (-48)], vm := .none },
  { cls := 10, slots := #[.int (-47)], vm := .none },
  { cls := 10, slots := #[.int (-46)], vm := .none },
  { cls := 10, slots := #[.int (-45)], vm := .none },
  { cls := 10, slots := #[.int (-44)], vm := .none },
  { cls := 10, slots := #[.int (-43)], vm := .none },
  { cls := 10, slots := #[.int (-42)], vm := .none },
  { cls := 10, slots := #[.int (-41)], vm := .none },
  { cls := 10, slots := #[.int (-40)], vm := .none },
  { cls := 10, slots := #[.int (-39)], vm := .none },
  { cls := 10, slots := #[.int (-38)], vm := .none },
  { cls := 10, slots := #[.int (-37)], vm := .none },
  { cls := 10, slots := #[.int (-36)], vm := .none },
  { cls := 10, slots := #[.int (-35)], vm := .none },
  { cls := 10, slots := #[.int (-34)], vm := .none },
  { cls := 10, slots := #[.int (-33)], vm := .none },
  { cls := 10, slots := #[.int (-32)], vm := .none },
  { cls := 10, slots := #[.int (-31)], vm := .none },
  { cls := 10, slots := #[.int (-30)], vm := .none },
  { cls := 10, slots := #[.int (-29)], vm := .none },
  { cls := 10, slots := #[.int (-28)], vm := .none },
  { cls := 10, slots := #[.int (-27)], vm := .none },
  { cls := 10, slots := #[.int (-26)], vm := .none },
  { cls := 10, slots := #[.int (-25)], vm := .none },
  { cls := 10, slots := #[.int (-24)], vm := .none },
  { cls := 10, slots := #[.int (-23)], vm := .none },
  { cls := 10, slots := #[.int (-22)], vm := .none },
  { cls := 10, slots := #[.int (-21)], vm := .none },
  { cls := 10, slots := #[.int (-20)], vm := .none },
  { cls := 10, slots := #[.int (-19)], vm := .none },
  { cls := 10, slots := #[.int (-18)], vm := .none },
  { cls := 10, slots := #[.int (-17)], vm := .none },
  { cls := 10, slots := #[.int (-16)], vm := .none },
  { cls := 10, slots := #[.int (-15)], vm := .none },
  { cls := 10, slots := #[.int (-14)], vm := .none },
  { cls := 10, slots := #[.int (-13)], vm := .none },
  { cls := 10, slots := #[.int (-12)], vm := .none },
  { cls := 10, slots := #[.int (-11)], vm := .none },
  { cls := 10, slots := #[.int (-10)], vm := .none },
  { cls := 10, slots := #[.int (-9)], vm := .none },
  { cls := 10, slots := #[.int (-8)], vm := .none },
  { cls := 10, slots := #[.int (-7)], vm := .none },
  { cls := 10, slots := #[.int (-6)], vm := .none },
  { cls := 10, slots := #[.int (-5)], vm := .none },
  { cls := 10, slots := #[.int (-4)], vm := .none },
  { cls := 10, slots := #[.int (-3)], vm := .none },
  { cls := 10, slots := #[.int (-2)], vm := .none },
  { cls := 10, slots := #[.int (-1)], vm := .none },
  { cls := 10, slots := #[.int (0)], vm := .none },
  { cls := 10, slots := #[.int (1)], vm := .none },
  { cls := 10, slots := #[.int (2)], vm := .none },
  { cls := 10, slots := #[.int (3)], vm := .none },
  { cls := 10, slots := #[.int (4)], vm := .none },
  { cls := 10, slots := #[.int (5)], vm := .none },
  { cls := 10, slots := #[.int (6)], vm := .none },
  { cls := 10, slots := #[.int (7)], vm := .none },
  { cls := 10, slots := #[.int (8)], vm := .none },
  { cls := 10, slots := #[.int (9)], vm := .none },
  { cls := 10, slots := #[.int (10)], vm := .none },
  { cls := 10, slots := #[.int (11)], vm := .none },
  { cls := 10, slots := #[.int (12)], vm := .none },
  { cls := 10, slots := #[.int (13)], vm := .none },
  { cls := 10, slots := #[.int (14)], vm := .none },
  { cls := 10, slots := #[.int (15)], vm := .none },
  { cls := 10, slots := #[.int (16)], vm := .none },
  { cls := 10, slots := #[.int (17)], vm := .none },
  { cls := 10, slots := #[.int (18)], vm := .none },
  { cls := 10, slots := #[.int (19)], vm := .none },
  { cls := 10, slots := #[.int (20)], vm := .none },
  { cls := 10, slots := #[.int (21)], vm := .none },
  { cls := 10, slots := #[.int (22)], vm := .none },
  { cls := 10, slots := #[.int (23)], vm := .none },
  { cls := 10, slots := #[.int (24)], vm := .none },
  { cls := 10, slots := #[.int (25)], vm := .none },
  { cls := 10, slots := #[.int (26)], vm := .none },
  { cls := 10, slots := #[.int (27)], vm := .none },
  { cls := 10, slots := #[.int (28)], vm := .none },
  { cls := 10, slots := #[.int (29)], vm := .none },
  { cls := 10, slots := #[.int (30)], vm := .none },
  { cls := 10, slots := #[.int (31)], vm := .none },
  { cls := 10, slots := #[.int (32)], vm := .none },
  { cls := 10, slots := #[.int (33)], vm := .none },
  { cls := 10, slots := #[.int (34)], vm := .none },
  { cls := 10, slots := #[.int (35)], vm := .none },
  { cls := 10, slots := #[.int (36)], vm := .none },
  { cls := 10, slots := #[.int (37)], vm := .none },
  { cls := 10, slots := #[.int (38)], vm := .none },
  { cls := 10, slots := #[.int (39)], vm := .none },
  { cls := 10, slots := #[.int (40)], vm := .none },
  { cls := 10, slots := #[.int (41)], vm := .none },
  { cls := 10, slots := #[.int (42)], vm := .none },
  { cls := 10, slots := #[.int (43)], vm := .none },
  { cls := 10, slots := #[.int (44)], vm := .none },
  { cls := 10, slots := #[.int (45)], vm := .none },
  { cls := 10, slots := #[.int (46)], vm := .none },
  { cls := 10, slots := #[.int (47)], vm := .none },
  { cls := 10, slots := #[.int (48)], vm := .none },
  { cls := 10, slots := #[.int (49)], vm := .none },
  { cls := 10, slots := #[.int (50)], vm := .none },
  { cls := 10, slots := #[.int (51)], vm := .none },
  { cls := 10, slots := #[.int (52)], vm := .none },
  { cls := 10, slots := #[.int (53)], vm := .none },
  { cls := 10, slots := #[.int (54)], vm := .none },
  { cls := 10, slots := #[.int (55)], vm := .none },
  { cls := 10, slots := #[.int (56)], vm := .none },
  { cls := 10, slots := #[.int (57)], vm := .none },
  { cls := 10, slots := #[.int (58)], vm := .none },
  { cls := 10, slots := #[.int (59)], vm := .none },
  { cls := 10, slots := #[.int (60)], vm := .none },
  { cls := 10, slots := #[.int (61)], vm := .none },
  { cls := 10, slots := #[.int (62)], vm := .none },
  { cls := 10, slots := #[.int (63)], vm := .none },
  { cls := 10, slots := #[.int (64)], vm := .none },
  { cls := 10, slots := #[.int (65)], vm := .none },
  { cls := 10, slots := #[.int (66)], vm := .none },
  { cls := 10, slots := #[.int (67)], vm := .none },
  { cls := 10, slots := #[.int (68)], vm := .none },
  { cls := 10, slots := #[.int (69)], vm := .none },
  { cls := 10, slots := #[.int (70)], vm := .none },
  { cls := 10, slots := #[.int (71)], vm := .none },
  { cls := 10, slots := #[.int (72)], vm := .none },
  { cls := 10, slots := #[.int (73)], vm := .none },
  { cls := 10, slots := #[.int (74)], vm := .none },
  { cls := 10, slots := #[.int (75)], vm := .none },
  { cls := 10, slots := #[.int (76)], vm := .none },
  { cls := 10, slots := #[.int (77)], vm := .none },
  { cls := 10, slots := #[.int (78)], vm := .none },
  { cls := 10, slots := #[.int (79)], vm := .none },
  { cls := 10, slots := #[.int (80)], vm := .none },
  { cls := 10, slots := #[.int (81)], vm := .none },
  { cls := 10, slots := #[.int (82)], vm := .none },
  { cls := 10, slots := #[.int (83)], vm := .none },
  { cls := 10, slots := #[.int (84)], vm := .none },
  { cls := 10, slots := #[.int (85)], vm := .none },
  { cls := 10, slots := #[.int (86)], vm := .none },
  { cls := 10, slots := #[.int (87)], vm := .none },
  { cls := 10, slots := #[.int (88)], vm := .none },
  { cls := 10, slots := #[.int (89)], vm := .none },
  { cls := 10, slots := #[.int (90)], vm := .none },
  { cls := 10, slots := #[.int (91)], vm := .none },
  { cls := 10, slots := #[.int (92)], vm := .none },
  { cls := 10, slots := #[.int (93)], vm := .none },
  { cls := 10, slots := #[.int (94)], vm := .none },
  { cls := 10, slots := #[.int (95)], vm := .none },
  { cls := 10, slots := #[.int (96)], vm := .none },
  { cls := 10, slots := #[.int (97)], vm := .none },
  { cls := 10, slots := #[.int (98)], vm := .none },
  { cls := 10, slots := #[.int (99)], vm := .none },
  { cls := 10, slots := #[.int (100)], vm := .none },
  { cls := 10, slots := #[.int (101)], vm := .none },
  { cls := 10, slots := #[.int (102)], vm := .none },
  { cls := 10, slots := #[.int (103)], vm := .none },
  { cls := 10, slots := #[.int (104)], vm := .none },
  { cls := 10, slots := #[.int (105)], vm := .none },
  { cls := 10, slots := #[.int (106)], vm := .none },
  { cls := 10, slots := #[.int (107)], vm := .none },
  { cls := 10, slots := #[.int (108)], vm := .none },
  { cls := 10, slots := #[.int (109)], vm := .none },
  { cls := 10, slots := #[.int (110)], vm := .none },
  { cls := 10, slots := #[.int (111)], vm := .none },
  { cls := 10, slots := #[.int (112)], vm := .none },
  { cls := 10, slots := #[.int (113)], vm := .none },
  { cls := 10, slots := #[.int (114)], vm := .none },
  { cls := 10, slots := #[.int (115)], vm := .none },
  { cls := 10, slots := #[.int (116)], vm := .none },
  { cls := 10, slots := #[.int (117)], vm := .none },
  { cls := 10, slots := #[.int (118)], vm := .none },
  { cls := 10, slots := #[.int (119)], vm := .none },
  { cls := 10, slots := #[.int (120)], vm := .none },
  { cls := 10, slots := #[.int (121)], vm := .none },
  { cls := 10, slots := #[.int (122)], vm := .none },
  { cls := 10, slots := #[.int (123)], vm := .none },
  { cls := 10, slots := #[.int (124)], vm := .none },
  { cls := 10, slots := #[.int (125)], vm := .none },
  { cls := 10, slots := #[.int (126)], vm := .none },
  { cls := 10, slots := #[.int (127)], vm := .none }]
def classes : Array Class := #[k0, k1, k2, k3, k4, k5, k6, k7, k8, k9, k10, k11, k12, k13, k14, k15, k16, k17]
def interned : List (Array UInt16 × Addr) := []
def slotsUsed : Nat := 517
def theMethod : MethodId := ⟨1, 2⟩
def args0 : Array Value := #[.int 5, .int 6, .int 1, .int 1, .int 1, .int 1]
def aboutOver (below : List Frame) : State where
  vm := { classes := classes, interned := interned.toArray }
  heap := heap
  slotsUsed := slotsUsed
  threads := #[{ frames := .invoking theMethod args0 :: below }]
def below0 : List Frame := [.native { method := ⟨0, 0⟩, args := #[] }]
def about1 : State := aboutOver below0
def p0 : Program := .bare "" "" ""
def e0 : Env := launch0.env 0 0 0
theorem w_frames : about1.frames = Frame.invoking theMethod args0 :: below0 := rfl
set_option maxRecDepth 65536 in
theorem w_args : argsFit about1.vm theMethod args0 = true := by decide +kernel
set_option maxRecDepth 65536 in
theorem w_heap : heapFits about1 = true := by decide +kernel
set_option maxRecDepth 65536 in
theorem w_runnable : about1.curStatus? = some .runnable := by decide +kernel
set_option maxRecDepth 65536 in
theorem w_alone : about1.alone = true := by decide +kernel
set_option maxRecDepth 65536 in
theorem w_named : about1.methodNamed? x = some theMethod := by decide +kernel
set_option maxRecDepth 65536 in
theorem w_hears : about1.hears theMethod below0 = true := by decide +kernel
set_option maxRecDepth 65536 in
theorem w_ripe : about1.ripe theMethod args0 below0 = true := by decide +kernel
theorem w_running : about1.status = .running := rfl
set_option maxRecDepth 65536 in
theorem w_room : about1.hasRoom e0.platform room_1 = true :=
  launch0.hasRoom_least _ room_1 (by decide +kernel) (by decide +kernel) (by decide +kernel) (by decide +kernel) (by decide +kernel) (by decide +kernel)
theorem allAtoms_all (ts : List Jvm.Cond) (a : Array Jvm.Value) (st : Jvm.State) : (allAtoms ts).before a st = ts.all (fun c => c.before a st) := by
  induction ts with
  | nil => rfl
  | cons c t ih =>
    show (Jvm.Cond.and c (allAtoms t)).before a st = _
    rw [Jvm.Cond.before_and, ih, List.all_cons]
def words1 : List Jvm.Cond := Jvm.Cond.code x code maxLocals ret :: tables_1
/-- a 'code' word, met by the world's own term for the bytes: nothing is compared byte by byte -/
theorem code_word {y : MethodName} {bytes : ByteArray} {mx : Nat} {rt : Option FieldType} {a : Array Value} {s : State} {m : MethodId} {meth : Method} {c : Code} (h1 : s.methodNamed? y = some m) (h2 : s.vm.method? m = some meth) (h3 : meth.code = some c) (h4 : c.code = bytes)
    (h5 : (c.maxLocals == mx && c.exceptionTable.isEmpty && decide (c.maxStack ≤ mostOperands) && decide (meth.sig.returnType = rt) && !meth.locks && decide (parseMethodDescriptor y.desc = some meth.sig)) = true) : (Jvm.Cond.code y bytes mx rt).before a s = true := by
  simp only [Bool.and_eq_true, beq_iff_eq, Bool.not_eq_true', decide_eq_true_eq] at h5
  obtain ⟨⟨⟨⟨⟨g1, g2⟩, g3⟩, g4⟩, g5⟩, g6⟩ := h5
  simp [Cond.before, Cond.holds, Cond.value, h1, h2, h3, h4, g1, g2, g3, g4, g5, g6]
def isCode : Jvm.Cond → Bool
  | .code _ _ _ _ => true
  | _ => false
theorem all_split {L : List Jvm.Cond} {P : Jvm.Cond → Bool} (h1 : L.all (fun c => isCode c || P c) = true) (h2 : ∀ c ∈ L.filter isCode, P c = true) : L.all P = true := by
  refine List.all_eq_true.mpr fun c hc => ?_
  have h := List.all_eq_true.mp h1 c hc
  rcases Bool.eq_false_or_eq_true (isCode c) with hi | hi
  · exact h2 c (List.mem_filter.mpr ⟨hc, hi⟩)
  · simpa [hi] using h
set_option maxRecDepth 65536 in
theorem w_c0 : (Jvm.Cond.code x code maxLocals ret).before args0 about1 = true := code_word (m := ⟨1, 2⟩) (meth := k1m2) (c := k1c2) (by decide +kernel) rfl rfl rfl (by decide +kernel)
set_option maxRecDepth 65536 in
theorem w_c1 : (Jvm.Cond.code ({ cls := "com/example/segmentwise/segmentwise/model/LocationEqualsPinLaw", name := "pos", desc := "(I)I" } : Jvm.MethodName) method_2_code (1 : Nat) (Option.some Jvm.ClassFile.FieldType.int)).before args0 about1 = true := code_word (m := ⟨1, 1⟩) (meth := k1m1) (c := k1c1) (by decide +kernel) rfl rfl rfl (by decide +kernel)
set_option maxRecDepth 65536 in
theorem w_c2 : (Jvm.Cond.code ({ cls := "com/example/segmentwise/segmentwise/model/Location", name := "<init>", desc := "(IIII)V" } : Jvm.MethodName) prog_25_method_1_code (5 : Nat) (Option.none : Option Jvm.ClassFile.FieldType)).before args0 about1 = true := code_word (m := ⟨2, 0⟩) (meth := k2m0) (c := k2c0) (by decide +kernel) rfl rfl rfl (by decide +kernel)
set_option maxRecDepth 65536 in
theorem w_c3 : (Jvm.Cond.code ({ cls := "java/lang/Object", name := "<init>", desc := "()V" } : Jvm.MethodName) object_method_1_code (1 : Nat) (Option.none : Option Jvm.ClassFile.FieldType)).before args0 about1 = true := code_word (m := ⟨0, 0⟩) (meth := k0m0) (c := k0c0) (by decide +kernel) rfl rfl rfl (by decide +kernel)
set_option maxRecDepth 65536 in
theorem w_c4 : (Jvm.Cond.code ({ cls := "com/example/segmentwise/segmentwise/model/Location", name := "checkPosition", desc := "(Ljava/lang/String;I)I" } : Jvm.MethodName) prog_25_method_2_code (2 : Nat) (Option.some Jvm.ClassFile.FieldType.int)).before args0 about1 = true := code_word (m := ⟨2, 1⟩) (meth := k2m1) (c := k2c1) (by decide +kernel) rfl rfl rfl (by decide +kernel)
set_option maxRecDepth 65536 in
theorem w_c5 : (Jvm.Cond.code ({ cls := "java/lang/Integer", name := "valueOf", desc := "(I)Ljava/lang/Integer;" } : Jvm.MethodName) jdk_33_method_22_code (1 : Nat) (Option.some (Jvm.ClassFile.FieldType.object "java/lang/Integer"))).before args0 about1 = true := code_word (m := ⟨10, 0⟩) (meth := k10m0) (c := k10c0) (by decide +kernel) rfl rfl rfl (by decide +kernel)
set_option maxRecDepth 65536 in
theorem w_c6 : (Jvm.Cond.code ({ cls := "com/example/segmentwise/segmentwise/model/Location", name := "equals", desc := "(Ljava/lang/Object;)Z" } : Jvm.MethodName) prog_25_method_7_code (3 : Nat) (Option.some Jvm.ClassFile.FieldType.boolean)).before args0 about1 = true := code_word (m := ⟨2, 2⟩) (meth := k2m2) (c := k2c2) (by decide +kernel) rfl rfl rfl (by decide +kernel)
set_option maxRecDepth 65536 in
theorem w_c7 : (Jvm.Cond.code ({ cls := "java/lang/Integer", name := "<init>", desc := "(I)V" } : Jvm.MethodName) jdk_33_method_23_code (2 : Nat) (Option.none : Option Jvm.ClassFile.FieldType)).before args0 about1 = true := code_word (m := ⟨10, 1⟩) (meth := k10m1) (c := k10c1) (by decide +kernel) rfl rfl rfl (by decide +kernel)
set_option maxRecDepth 65536 in
theorem w_c8 : (Jvm.Cond.code ({ cls := "java/lang/Number", name := "<init>", desc := "()V" } : Jvm.MethodName) jdk_18_method_1_code (1 : Nat) (Option.none : Option Jvm.ClassFile.FieldType)).before args0 about1 = true := code_word (m := ⟨9, 0⟩) (meth := k9m0) (c := k9c0) (by decide +kernel) rfl rfl rfl (by decide +kernel)
def codes1 : List Jvm.Cond := [Jvm.Cond.code x code maxLocals ret, Jvm.Cond.code ({ cls := "com/example/segmentwise/segmentwise/model/LocationEqualsPinLaw", name := "pos", desc := "(I)I" } : Jvm.MethodName) method_2_code (1 : Nat) (Option.some Jvm.ClassFile.FieldType.int), Jvm.Cond.code ({ cls := "com/example/segmentwise/segmentwise/model/Location", name := "<init>", desc := "(IIII)V" } : Jvm.MethodName) prog_25_method_1_code (5 : Nat) (Option.none : Option Jvm.ClassFile.FieldType), Jvm.Cond.code ({ cls := "java/lang/Object", name := "<init>", desc := "()V" } : Jvm.MethodName) object_method_1_code (1 : Nat) (Option.none : Option Jvm.ClassFile.FieldType), Jvm.Cond.code ({ cls := "com/example/segmentwise/segmentwise/model/Location", name := "checkPosition", desc := "(Ljava/lang/String;I)I" } : Jvm.MethodName) prog_25_method_2_code (2 : Nat) (Option.some Jvm.ClassFile.FieldType.int), Jvm.Cond.code ({ cls := "java/lang/Integer", name := "valueOf", desc := "(I)Ljava/lang/Integer;" } : Jvm.MethodName) jdk_33_method_22_code (1 : Nat) (Option.some (Jvm.ClassFile.FieldType.object "java/lang/Integer")), Jvm.Cond.code ({ cls := "com/example/segmentwise/segmentwise/model/Location", name := "equals", desc := "(Ljava/lang/Object;)Z" } : Jvm.MethodName) prog_25_method_7_code (3 : Nat) (Option.some Jvm.ClassFile.FieldType.boolean), Jvm.Cond.code ({ cls := "java/lang/Integer", name := "<init>", desc := "(I)V" } : Jvm.MethodName) jdk_33_method_23_code (2 : Nat) (Option.none : Option Jvm.ClassFile.FieldType), Jvm.Cond.code ({ cls := "java/lang/Number", name := "<init>", desc := "()V" } : Jvm.MethodName) jdk_18_method_1_code (1 : Nat) (Option.none : Option Jvm.ClassFile.FieldType)]
set_option maxRecDepth 65536 in
theorem codes_eq : words1.filter isCode = codes1 := rfl
theorem w_codes : ∀ c ∈ words1.filter isCode, c.before args0 about1 = true := by
  rw [codes_eq]
  intro c hc
  simp only [codes1, List.mem_cons, List.not_mem_nil, or_false] at hc
  rcases hc with rfl | rfl | rfl | rfl | rfl | rfl | rfl | rfl | rfl
  · exact w_c0
  · exact w_c1
  · exact w_c2
  · exact w_c3
  · exact w_c4
  · exact w_c5
  · exact w_c6
  · exact w_c7
  · exact w_c8
set_option maxRecDepth 65536 in
theorem w_t1 : (words1.take 24).all (fun c => isCode c || c.before args0 about1) = true := by decide +kernel
set_option maxRecDepth 65536 in
theorem w_t2 : ((words1.drop 24).take 24).all (fun c => isCode c || c.before args0 about1) = true := by decide +kernel
set_option maxRecDepth 65536 in
theorem w_t3 : ((words1.drop 24).drop 24).all (fun c => isCode c || c.before args0 about1) = true := by decide +kernel
theorem w_tables : (allAtoms (Jvm.Cond.code x code maxLocals ret :: tables_1)).before args0 about1 = true := by
  rw [allAtoms_all]
  show words1.all (fun c => c.before args0 about1) = true
  refine all_split ?_ w_codes
  rw [← List.take_append_drop 24 words1, List.all_append, w_t1, ← List.take_append_drop 24 (words1.drop 24), List.all_append, w_t2, w_t3]
  rfl
set_option maxRecDepth 65536 in
theorem w_rest : rest_1_c.before args0 about1 = true := by decide +kernel
set_option maxRecDepth 65536 in
theorem w_case : (Jvm.Cond.and given_1 narrow_1).before args0 about1 = true := by decide +kernel
theorem w_applies : (headSpec (Jvm.Cond.code x code maxLocals ret :: tables_1) room_1).applies x e0.platform about1 = true :=
  (Spec.applies_iff w_frames).mpr ⟨w_running, w_runnable, w_alone, w_named, w_hears, w_ripe, w_room, w_tables⟩
theorem atStart : AtStart classFile x code maxLocals ret World_1 tables_1 room_1 Calls_1 rest_1 Pre_1 launch0 p0 e0 about1 theMethod args0 below0 :=
  ⟨lists_1, trivial, launch0.admits_env _ _ _, launch0.least_env, fairChoices_fair.cas, fairChoices_fair.clock, w_frames, w_args, w_heap, w_applies, trivial, w_rest, w_case⟩
end start1
theorem witness_1 : WitnessClaimed_1 := ⟨start1.p0, start1.e0, start1.about1, start1.theMethod, start1.args0, start1.below0, start1.atStart⟩
end Jvm.Pilot.@@N@@
