import JvmDerived
import JvmDerived.Pilot.@@N@@Statement
import JvmDerived.Pilot.@@N@@Code
set_option linter.unusedVariables false
set_option linter.unusedSimpArgs false
namespace Jvm.RoadKit
open Sem ClassFile Op Lib Jvm.Stand Jvm.Free Jvm.LawKit
section New
variable {p : Program} {l : Launch} {e : Env} {R : Room} {s : State} {m : MethodId} {args : Array Value} {below : List Frame} {meth : Method} {c : Code} {T : State} {locs : List Loc} {cells slots : Nat}
theorem retI (X : Stand p l e R s m args below meth c T locs cells slots) (hx : p.tables.exec = Jvm.exec) {pc : Nat} {Ls : Array Slot} {z : Int32} {rest : List Value} (hret : meth.sig.returnType = some .int) (hd : decode c.code pc = .ok (.ireturn, 1)) {fs : List Frame}
    (hl : ∀ (f : JFrame) (acts : List Action), f.method = m → f.locked = none → f.entered = [] → (doReturn e (T.setTop f) acts (some (.int z))).1 = T.setFrames fs) : Steps p.tables e below (T.setTop (mkF m pc Ls (.int z :: rest))) (T.setFrames fs) := by
  have hm' : T.vm.method? m = some meth := X.method'
  have hn : narrow .int (.int z) = .int z := rfl
  show Steps p.tables e below (T.setTop { method := m, pc := pc, locals := Ls, stack := _ :: rest, locked := none }) _
  jvm_step X.here [X.here.top, hx, hd, hm', hret, hn]
  first | (intro acts; rw [hl _ acts rfl rfl rfl]) | rw [hl _ _ rfl rfl rfl]
  exact Steps.refl _
end New
end Jvm.RoadKit
namespace Jvm.Pilot.@@N@@
open Jvm Jvm.ClassFile Sem Op Lib Jvm.Free Jvm.Stand Jvm.LawKit Jvm.RoadKit Bundle Jvm.Pilot.@@N@@.Jvm.D
/-- what a body leaves that writes nothing: its value, no place of the start's, the heap as it was -/
def QP (r : Value) (h0 : Heap) (n0 : Nat) (v : Option Value) (h : Heap) (L : List Loc) : Prop := v = some r ∧ Fr n0 L ∧ h = h0
/-- the same without the heap -/
def QL (r : Value) (n0 : Nat) (v : Option Value) (h : Heap) (L : List Loc) : Prop := v = some r ∧ Fr n0 L ∧ True
theorem own_ext_refl (h : Heap) : Ext h h := ⟨Nat.le_refl _, fun _ _ q => q⟩
theorem own_ext_trans {h h' h'' : Heap} (E : Ext h h') (E' : Ext h' h'') : Ext h h'' := ⟨Nat.le_trans E.1 E'.1, fun a c q => E'.2 a c (E.2 a c q)⟩
theorem own_extK {h h' h'' : Heap} {b : Addr} (E : Ext h h') (g : b = h.size) (K : Keep h' h'' [b]) : Ext h h'' := ⟨Nat.le_trans E.1 K.1, fun x c q => K.2.1 x c (E.2 x c q) fun z => by
  have e := List.mem_singleton.mp z
  have lt := (Array.getElem?_eq_some_iff.mp q).1
  rw [e, g] at lt
  exact Nat.lt_irrefl _ lt⟩
theorem own_extW {h h' h'' : Heap} {b : Addr} {sl : Nat} {v : Value} (E : Ext h h') (g : b = h.size) (W : Wr h' h'' b sl v) : Ext h h'' := own_extK E g (Keep.of_wr W)
theorem own_fldI {s : State} {args : Array Value} {t : Term} {a : Addr} {C n d : String} {k : Int32} (ev : t.eval args s none [] s = some (.ref a)) (h : (Jvm.Cond.eq (.field t C n d) (.int k)).value args s none s [] = some true) : Fld s s.heap a C n d (.int k) :=
  Fld.start ((fld_at ev).symm.trans (eqv_i (y := k) rfl h))
theorem own_fldJ {s : State} {args : Array Value} {t : Term} {a : Addr} {C n d : String} {k : Int64} (ev : t.eval args s none [] s = some (.ref a)) (h : (Jvm.Cond.eq (.field t C n d) (.long k)).value args s none s [] = some true) : Fld s s.heap a C n d (.long k) :=
  Fld.start ((fld_at ev).symm.trans (eqv_l (y := k) rfl h))
theorem own_ne {Z : State} {h : Heap} {a b : Addr} {C n d : String} {v w : Value} (F : Fld Z h a C n d v) (G : Fld Z h b C n d w) (q : v ≠ w) : a ≠ b := fun e => by
  subst e
  obtain ⟨c1, cf1, k1, i1, f1, h1, h2, -, -, -, -, h7⟩ := F
  obtain ⟨c2, cf2, k2, i2, f2, g1, g2, -, -, -, -, g7⟩ := G
  cases h1.symm.trans g1
  cases h2.symm.trans g2
  exact q (Option.some.inj (h7.symm.trans g7))
def own_nan (q : Int64) : Int64 := if (9223372036854 : Int64) < q then (9223372036854775807 : Int64) else (if q < (-9223372036854 : Int64) then (-9223372036854775808 : Int64) else (q * (1000000 : Int64)))
def own_min (x y : Int64) : Int64 := if y < x then y else x
theorem own_min_max (x : Int64) : own_min (9223372036854775807 : Int64) x = x := by
  unfold own_min
  split
  · rfl
  · rename_i h
    have q : ((9223372036854775807 : Int64)).toInt = 9223372036854775807 := by decide
    have := (rng64 x).2
    rw [Int64.lt_iff_toInt_lt, q] at h
    exact Int64.toInt_inj.mp (by rw [q]; omega)
theorem own_min_assoc (x y z : Int64) : own_min (own_min x y) z = own_min x (own_min y z) := by
  unfold own_min
  simp only [Int64.lt_iff_toInt_lt]
  repeat' split
  all_goals first | rfl | (exfalso; omega)
theorem own_sub4 (x a b c : Int64) : (x - a) - (b + c) = ((x - a) - b) - c := by
  generalize x - a = y
  apply Int64.toInt_inj.mp
  have h1 := c_lsub y (b + c)
  have h2 := c_ladd b c
  have h3 := c_lsub (y - b) c
  have h4 := c_lsub y b
  have r1 := rng64 (y - (b + c))
  have r2 := rng64 (y - b - c)
  omega
theorem own_k3 (x : Int32) : x &&& (3 : Int32) = (0 : Int32) ∨ x &&& (3 : Int32) = (1 : Int32) ∨ x &&& (3 : Int32) = (2 : Int32) ∨ x &&& (3 : Int32) = (3 : Int32) := by
  have q := c_mask x (3 : Int32) 2 (by decide) (by decide)
  generalize x &&& (3 : Int32) = k at *
  have hk : k.toInt = 0 ∨ k.toInt = 1 ∨ k.toInt = 2 ∨ k.toInt = 3 := by omega
  rcases hk with h | h | h | h
  · exact Or.inl (Int32.toInt_inj.mp (h.trans (by decide : (0 : Int) = (0 : Int32).toInt)))
  · exact Or.inr (Or.inl (Int32.toInt_inj.mp (h.trans (by decide : (1 : Int) = (1 : Int32).toInt))))
  · exact Or.inr (Or.inr (Or.inl (Int32.toInt_inj.mp (h.trans (by decide : (2 : Int) = (2 : Int32).toInt)))))
  · exact Or.inr (Or.inr (Or.inr (Int32.toInt_inj.mp (h.trans (by decide : (3 : Int) = (3 : Int32).toInt)))))
theorem own_staJ {s : State} {args : Array Value} {C n d : String} {k : Int64} (h : (Jvm.Cond.eq (.static C n d) (.long k)).value args s none s [] = some true) : (Term.static C n d).eval args s none [] s = some (.long k) := eqv_l (y := k) rfl h
theorem d1_0 : decode method_2_code 0 = .ok (.lload_n 0, 1) := by decide +kernel
theorem d1_1 : decode method_2_code 1 = .ok (.ldc2_w 7, 3) := by decide +kernel
theorem d1_4 : decode method_2_code 4 = .ok (.lcmp, 1) := by decide +kernel
theorem d1_5 : decode method_2_code 5 = .ok (.ifCond .le 7, 3) := by decide +kernel
theorem d1_12 : decode method_2_code 12 = .ok (.lload_n 0, 1) := by decide +kernel
theorem d1_13 : decode method_2_code 13 = .ok (.ldc2_w 13, 3) := by decide +kernel
theorem d1_16 : decode method_2_code 16 = .ok (.lcmp, 1) := by decide +kernel
theorem d1_17 : decode method_2_code 17 = .ok (.ifCond .ge 7, 3) := by decide +kernel
theorem d1_24 : decode method_2_code 24 = .ok (.lload_n 0, 1) := by decide +kernel
theorem d1_25 : decode method_2_code 25 = .ok (.ldc2_w 17, 3) := by decide +kernel
theorem d1_28 : decode method_2_code 28 = .ok (.lmul, 1) := by decide +kernel
theorem d1_29 : decode method_2_code 29 = .ok (.lreturn, 1) := by decide +kernel
theorem d1_20 : decode method_2_code 20 = .ok (.ldc2_w 15, 3) := by decide +kernel
theorem d1_23 : decode method_2_code 23 = .ok (.lreturn, 1) := by decide +kernel
theorem d1_8 : decode method_2_code 8 = .ok (.ldc2_w 11, 3) := by decide +kernel
theorem d1_11 : decode method_2_code 11 = .ok (.lreturn, 1) := by decide +kernel
theorem pnm_0 : plainName "com/example/portunus/portunus/MultiServerLockValidityNanosPinLaw" = true := by first | (simp [plainName, overriddenIn]; done) | decide +kernel
theorem ef_rm1 (m : MethodId) (qk : Int64) : entryFrame m #[(.long qk)] 2 = mkF m 0 #[.val (.long qk), .second] [] := by first | (simp [entryFrame, mkF, argsToLocals, Value.category]; done) | rfl
set_option maxRecDepth 65536 in
set_option maxHeartbeats 40000000 in
theorem rm1_tt (l : Launch) (Z : State) (a0 : Array Value) (hw : ∀ d ∈ tables_1, d.before a0 Z = true) (ws : List Jvm.Cond) (qk : Int64) (h0 : Heap) (n0 : Nat) (Z0 : n0 ≤ h0.size) (r : Int64) (hr0 : r = (qk * (1000000 : Int64))) (hc5 : ¬ ((9223372036854 : Int64) < qk)) (hc17 : ¬ (qk < (-9223372036854 : Int64))) :
    MetFree l (⟨"com/example/portunus/portunus/MultiServerLockValidityNanosPinLaw", "nanos", "(J)J"⟩ : MethodName) (head1 (Jvm.Cond.code (⟨"com/example/portunus/portunus/MultiServerLockValidityNanosPinLaw", "nanos", "(J)J"⟩ : MethodName) method_2_code 2 (some .long) :: ws) ({ frames := 0, cells := 0, slots := 0, locals := 0 } : Room)) (fun a U => a = #[(.long qk)] ∧ Z.Warmed39 U.vm ∧ U.heap = h0) (fun _ _ _ _ _ => True) (fun _ U o U' => ∃ v L, o = .returned v ∧ QP (.long r) h0 n0 v U'.heap L ∧ FrameEnd U o U' L ({ frames := 0, cells := 0, slots := 0, locals := 0 } : Room).cells ({ frames := 0, cells := 0, slots := 0, locals := 0 } : Room).slots) := by
  rw [hr0]
  refine MetFree.of_bodySF (plainFor_of_name pnm_0) hisR ?_
  intro p e s m args below meth c s₁ Bd hml0 hP hK
  obtain ⟨rfl, hZ, hh⟩ := hP
  have hx := Bd.exec
  have hby := Bd.bytes
  have hml : c.maxLocals = 2 := hml0
  have hown : s.vm.findClass "com/example/portunus/portunus/MultiServerLockValidityNanosPinLaw" = some m.cls := findClass_of_methodNamed Bd.named
  have hnm := (name_of_methodNamed Bd.named Bd.method).1
  have X0 : Stand p l e ({ frames := 0, cells := 0, slots := 0, locals := 0 } : Room) s m #[(.long qk)] below meth c s₁ [] 0 0 := Stand.of_body Bd
  have e0 : s₁.heap = h0 := by rw [← hh, Bd.state]; rfl
  have N0 := Fr.nil n0
  have pre0 : ∀ t, Steps p.tables e below (s₁.setTop (mkF m 0 #[.val (.long qk), .second] [])) t → Steps p.tables e below (s₁.setTop (entryFrame m #[(.long qk)] 2)) t := fun t k => castTop (ef_rm1 m qk) k
  obtain ⟨fs, hr, hrun, hended, hW, hsame⟩ := X0.leave (v := some (.long (qk * (1000000 : Int64)))) (fun h => by rw [Bd.returns] at h; cases h)
  refine ⟨_, _, pre0 _ ?_, hrun, hended, _, _, rfl, ?_, ⟨_, rfl⟩, hW, hsame.mono (by decide) (by decide)⟩
  · show Steps p.tables e below (s₁.setTop (mkF m 0 #[.val (.long qk), .second] [])) _
    refine XS.lloadN X0.here hx rfl (hb hby d1_0) rfl ?_
    show Steps p.tables e below (s₁.setTop (mkF m 1 #[.val (.long qk), .second] [(.long qk)])) _
    refine X0.ldc2Long hx hown (mvT hZ (hw _ (List.mem_of_getElem? (i := 5) rfl))) (g := (mkF m 1 #[.val (.long qk), .second] [(.long qk)])) rfl (hb hby d1_1) _ ?_
    show Steps p.tables e below (s₁.setTop (mkF m 4 #[.val (.long qk), .second] [(.long (9223372036854 : Int64)), (.long qk)])) _
    refine XS.lcmp X0.here hx rfl (hb hby d1_4) rfl ?_
    show Steps p.tables e below (s₁.setTop (mkF m 5 #[.val (.long qk), .second] [(.int (lcmpW qk (9223372036854 : Int64)))])) _
    refine XS.ifYes X0.here hx rfl (pc0 := 5) (pc' := 12) rfl (hb hby d1_5) rfl ((if0 _ _).trans (flt (fun q => hc5 ((lw_gt qk (9223372036854 : Int64)).mp q))).2.2.2) (by decide) (by decide) ?_
    show Steps p.tables e below (s₁.setTop (mkF m 12 #[.val (.long qk), .second] [])) _
    refine XS.lloadN X0.here hx rfl (hb hby d1_12) rfl ?_
    show Steps p.tables e below (s₁.setTop (mkF m 13 #[.val (.long qk), .second] [(.long qk)])) _
    refine X0.ldc2Long hx hown (mvT hZ (hw _ (List.mem_of_getElem? (i := 6) rfl))) (g := (mkF m 13 #[.val (.long qk), .second] [(.long qk)])) rfl (hb hby d1_13) _ ?_
    show Steps p.tables e below (s₁.setTop (mkF m 16 #[.val (.long qk), .second] [(.long (-9223372036854 : Int64)), (.long qk)])) _
    refine XS.lcmp X0.here hx rfl (hb hby d1_16) rfl ?_
    show Steps p.tables e below (s₁.setTop (mkF m 17 #[.val (.long qk), .second] [(.int (lcmpW qk (-9223372036854 : Int64)))])) _
    refine XS.ifYes X0.here hx rfl (pc0 := 17) (pc' := 24) rfl (hb hby d1_17) rfl ((if0 _ _).trans (flt (fun q => hc17 ((lw_lt qk (-9223372036854 : Int64)).mp q))).2.1) (by decide) (by decide) ?_
    show Steps p.tables e below (s₁.setTop (mkF m 24 #[.val (.long qk), .second] [])) _
    refine XS.lloadN X0.here hx rfl (hb hby d1_24) rfl ?_
    show Steps p.tables e below (s₁.setTop (mkF m 25 #[.val (.long qk), .second] [(.long qk)])) _
    refine X0.ldc2Long hx hown (mvT hZ (hw _ (List.mem_of_getElem? (i := 7) rfl))) (g := (mkF m 25 #[.val (.long qk), .second] [(.long qk)])) rfl (hb hby d1_25) _ ?_
    show Steps p.tables e below (s₁.setTop (mkF m 28 #[.val (.long qk), .second] [(.long (1000000 : Int64)), (.long qk)])) _
    refine XS.lmul X0.here hx rfl (hb hby d1_28) rfl ?_
    show Steps p.tables e below (s₁.setTop (mkF m 29 #[.val (.long qk), .second] [(.long (qk * (1000000 : Int64)))])) _
    exact retOut X0 hx Bd.returns rfl (Or.inr (Or.inl ⟨rfl, rfl, _, rfl⟩)) (hb hby d1_29) hr
  · show QP (.long (qk * (1000000 : Int64))) h0 n0 _ s₁.heap _
    rw [e0]
    exact ⟨rfl, N0, rfl⟩
set_option maxRecDepth 65536 in
set_option maxHeartbeats 40000000 in
theorem rm1_tf (l : Launch) (Z : State) (a0 : Array Value) (hw : ∀ d ∈ tables_1, d.before a0 Z = true) (ws : List Jvm.Cond) (qk : Int64) (h0 : Heap) (n0 : Nat) (Z0 : n0 ≤ h0.size) (r : Int64) (hr0 : r = (-9223372036854775808 : Int64)) (hc5 : ¬ ((9223372036854 : Int64) < qk)) (hc17 : qk < (-9223372036854 : Int64)) :
    MetFree l (⟨"com/example/portunus/portunus/MultiServerLockValidityNanosPinLaw", "nanos", "(J)J"⟩ : MethodName) (head1 (Jvm.Cond.code (⟨"com/example/portunus/portunus/MultiServerLockValidityNanosPinLaw", "nanos", "(J)J"⟩ : MethodName) method_2_code 2 (some .long) :: ws) ({ frames := 0, cells := 0, slots := 0, locals := 0 } : Room)) (fun a U => a = #[(.long qk)] ∧ Z.Warmed39 U.vm ∧ U.heap = h0) (fun _ _ _ _ _ => True) (fun _ U o U' => ∃ v L, o = .returned v ∧ QP (.long r) h0 n0 v U'.heap L ∧ FrameEnd U o U' L ({ frames := 0, cells := 0, slots := 0, locals := 0 } : Room).cells ({ frames := 0, cells := 0, slots := 0, locals := 0 } : Room).slots) := by
  rw [hr0]
  refine MetFree.of_bodySF (plainFor_of_name pnm_0) hisR ?_
  intro p e s m args below meth c s₁ Bd hml0 hP hK
  obtain ⟨rfl, hZ, hh⟩ := hP
  have hx := Bd.exec
  have hby := Bd.bytes
  have hml : c.maxLocals = 2 := hml0
  have hown : s.vm.findClass "com/example/portunus/portunus/MultiServerLockValidityNanosPinLaw" = some m.cls := findClass_of_methodNamed Bd.named
  have hnm := (name_of_methodNamed Bd.named Bd.method).1
  have X0 : Stand p l e ({ frames := 0, cells := 0, slots := 0, locals := 0 } : Room) s m #[(.long qk)] below meth c s₁ [] 0 0 := Stand.of_body Bd
  have e0 : s₁.heap = h0 := by rw [← hh, Bd.state]; rfl
  have N0 := Fr.nil n0
  have pre0 : ∀ t, Steps p.tables e below (s₁.setTop (mkF m 0 #[.val (.long qk), .second] [])) t → Steps p.tables e below (s₁.setTop (entryFrame m #[(.long qk)] 2)) t := fun t k => castTop (ef_rm1 m qk) k
  obtain ⟨fs, hr, hrun, hended, hW, hsame⟩ := X0.leave (v := some (.long (-9223372036854775808 : Int64))) (fun h => by rw [Bd.returns] at h; cases h)
  refine ⟨_, _, pre0 _ ?_, hrun, hended, _, _, rfl, ?_, ⟨_, rfl⟩, hW, hsame.mono (by decide) (by decide)⟩
  · show Steps p.tables e below (s₁.setTop (mkF m 0 #[.val (.long qk), .second] [])) _
    refine XS.lloadN X0.here hx rfl (hb hby d1_0) rfl ?_
    show Steps p.tables e below (s₁.setTop (mkF m 1 #[.val (.long qk), .second] [(.long qk)])) _
    refine X0.ldc2Long hx hown (mvT hZ (hw _ (List.mem_of_getElem? (i := 5) rfl))) (g := (mkF m 1 #[.val (.long qk), .second] [(.long qk)])) rfl (hb hby d1_1) _ ?_
    show Steps p.tables e below (s₁.setTop (mkF m 4 #[.val (.long qk), .second] [(.long (9223372036854 : Int64)), (.long qk)])) _
    refine XS.lcmp X0.here hx rfl (hb hby d1_4) rfl ?_
    show Steps p.tables e below (s₁.setTop (mkF m 5 #[.val (.long qk), .second] [(.int (lcmpW qk (9223372036854 : Int64)))])) _
    refine XS.ifYes X0.here hx rfl (pc0 := 5) (pc' := 12) rfl (hb hby d1_5) rfl ((if0 _ _).trans (flt (fun q => hc5 ((lw_gt qk (9223372036854 : Int64)).mp q))).2.2.2) (by decide) (by decide) ?_
    show Steps p.tables e below (s₁.setTop (mkF m 12 #[.val (.long qk), .second] [])) _
    refine XS.lloadN X0.here hx rfl (hb hby d1_12) rfl ?_
    show Steps p.tables e below (s₁.setTop (mkF m 13 #[.val (.long qk), .second] [(.long qk)])) _
    refine X0.ldc2Long hx hown (mvT hZ (hw _ (List.mem_of_getElem? (i := 6) rfl))) (g := (mkF m 13 #[.val (.long qk), .second] [(.long qk)])) rfl (hb hby d1_13) _ ?_
    show Steps p.tables e below (s₁.setTop (mkF m 16 #[.val (.long qk), .second] [(.long (-9223372036854 : Int64)), (.long qk)])) _
    refine XS.lcmp X0.here hx rfl (hb hby d1_16) rfl ?_
    show Steps p.tables e below (s₁.setTop (mkF m 17 #[.val (.long qk), .second] [(.int (lcmpW qk (-9223372036854 : Int64)))])) _
    refine XS.ifNo X0.here hx rfl (hb hby d1_17) rfl ((if0 _ _).trans (tlt ((lw_lt qk (-9223372036854 : Int64)).mpr hc17)).2.1) ?_
    show Steps p.tables e below (s₁.setTop (mkF m 20 #[.val (.long qk), .second] [])) _
    refine X0.ldc2Long hx hown (mvT hZ (hw _ (List.mem_of_getElem? (i := 8) rfl))) (g := (mkF m 20 #[.val (.long qk), .second] [])) rfl (hb hby d1_20) _ ?_
    show Steps p.tables e below (s₁.setTop (mkF m 23 #[.val (.long qk), .second] [(.long (-9223372036854775808 : Int64))])) _
    exact retOut X0 hx Bd.returns rfl (Or.inr (Or.inl ⟨rfl, rfl, _, rfl⟩)) (hb hby d1_23) hr
  · show QP (.long (-9223372036854775808 : Int64)) h0 n0 _ s₁.heap _
    rw [e0]
    exact ⟨rfl, N0, rfl⟩
set_option maxRecDepth 65536 in
set_option maxHeartbeats 40000000 in
theorem rm1_f (l : Launch) (Z : State) (a0 : Array Value) (hw : ∀ d ∈ tables_1, d.before a0 Z = true) (ws : List Jvm.Cond) (qk : Int64) (h0 : Heap) (n0 : Nat) (Z0 : n0 ≤ h0.size) (r : Int64) (hr0 : r = (9223372036854775807 : Int64)) (hc5 : (9223372036854 : Int64) < qk) :
    MetFree l (⟨"com/example/portunus/portunus/MultiServerLockValidityNanosPinLaw", "nanos", "(J)J"⟩ : MethodName) (head1 (Jvm.Cond.code (⟨"com/example/portunus/portunus/MultiServerLockValidityNanosPinLaw", "nanos", "(J)J"⟩ : MethodName) method_2_code 2 (some .long) :: ws) ({ frames := 0, cells := 0, slots := 0, locals := 0 } : Room)) (fun a U => a = #[(.long qk)] ∧ Z.Warmed39 U.vm ∧ U.heap = h0) (fun _ _ _ _ _ => True) (fun _ U o U' => ∃ v L, o = .returned v ∧ QP (.long r) h0 n0 v U'.heap L ∧ FrameEnd U o U' L ({ frames := 0, cells := 0, slots := 0, locals := 0 } : Room).cells ({ frames := 0, cells := 0, slots := 0, locals := 0 } : Room).slots) := by
  rw [hr0]
  refine MetFree.of_bodySF (plainFor_of_name pnm_0) hisR ?_
  intro p e s m args below meth c s₁ Bd hml0 hP hK
  obtain ⟨rfl, hZ, hh⟩ := hP
  have hx := Bd.exec
  have hby := Bd.bytes
  have hml : c.maxLocals = 2 := hml0
  have hown : s.vm.findClass "com/example/portunus/portunus/MultiServerLockValidityNanosPinLaw" = some m.cls := findClass_of_methodNamed Bd.named
  have hnm := (name_of_methodNamed Bd.named Bd.method).1
  have X0 : Stand p l e ({ frames := 0, cells := 0, slots := 0, locals := 0 } : Room) s m #[(.long qk)] below meth c s₁ [] 0 0 := Stand.of_body Bd
  have e0 : s₁.heap = h0 := by rw [← hh, Bd.state]; rfl
  have N0 := Fr.nil n0
  have pre0 : ∀ t, Steps p.tables e below (s₁.setTop (mkF m 0 #[.val (.long qk), .second] [])) t → Steps p.tables e below (s₁.setTop (entryFrame m #[(.long qk)] 2)) t := fun t k => castTop (ef_rm1 m qk) k
  obtain ⟨fs, hr, hrun, hended, hW, hsame⟩ := X0.leave (v := some (.long (9223372036854775807 : Int64))) (fun h => by rw [Bd.returns] at h; cases h)
  refine ⟨_, _, pre0 _ ?_, hrun, hended, _, _, rfl, ?_, ⟨_, rfl⟩, hW, hsame.mono (by decide) (by decide)⟩
  · show Steps p.tables e below (s₁.setTop (mkF m 0 #[.val (.long qk), .second] [])) _
    refine XS.lloadN X0.here hx rfl (hb hby d1_0) rfl ?_
    show Steps p.tables e below (s₁.setTop (mkF m 1 #[.val (.long qk), .second] [(.long qk)])) _
    refine X0.ldc2Long hx hown (mvT hZ (hw _ (List.mem_of_getElem? (i := 5) rfl))) (g := (mkF m 1 #[.val (.long qk), .second] [(.long qk)])) rfl (hb hby d1_1) _ ?_
    show Steps p.tables e below (s₁.setTop (mkF m 4 #[.val (.long qk), .second] [(.long (9223372036854 : Int64)), (.long qk)])) _
    refine XS.lcmp X0.here hx rfl (hb hby d1_4) rfl ?_
    show Steps p.tables e below (s₁.setTop (mkF m 5 #[.val (.long qk), .second] [(.int (lcmpW qk (9223372036854 : Int64)))])) _
    refine XS.ifNo X0.here hx rfl (hb hby d1_5) rfl ((if0 _ _).trans (tlt ((lw_gt qk (9223372036854 : Int64)).mpr hc5)).2.2.2) ?_
    show Steps p.tables e below (s₁.setTop (mkF m 8 #[.val (.long qk), .second] [])) _
    refine X0.ldc2Long hx hown (mvT hZ (hw _ (List.mem_of_getElem? (i := 36) rfl))) (g := (mkF m 8 #[.val (.long qk), .second] [])) rfl (hb hby d1_8) _ ?_
    show Steps p.tables e below (s₁.setTop (mkF m 11 #[.val (.long qk), .second] [(.long (9223372036854775807 : Int64))])) _
    exact retOut X0 hx Bd.returns rfl (Or.inr (Or.inl ⟨rfl, rfl, _, rfl⟩)) (hb hby d1_11) hr
  · show QP (.long (9223372036854775807 : Int64)) h0 n0 _ s₁.heap _
    rw [e0]
    exact ⟨rfl, N0, rfl⟩
set_option maxRecDepth 65536 in
set_option maxHeartbeats 40000000 in
theorem rm1 (l : Launch) (Z : State) (a0 : Array Value) (hw : ∀ d ∈ tables_1, d.before a0 Z = true) (ws : List Jvm.Cond) (qk : Int64) (h0 : Heap) (n0 : Nat) (Z0 : n0 ≤ h0.size) (r : Int64) (hr0 : r = (if (9223372036854 : Int64) < qk then (9223372036854775807 : Int64) else (if qk < (-9223372036854 : Int64) then (-9223372036854775808 : Int64) else (qk * (1000000 : Int64))))) :
    MetFree l (⟨"com/example/portunus/portunus/MultiServerLockValidityNanosPinLaw", "nanos", "(J)J"⟩ : MethodName) (head1 (Jvm.Cond.code (⟨"com/example/portunus/portunus/MultiServerLockValidityNanosPinLaw", "nanos", "(J)J"⟩ : MethodName) method_2_code 2 (some .long) :: ws) ({ frames := 0, cells := 0, slots := 0, locals := 0 } : Room)) (fun a U => a = #[(.long qk)] ∧ Z.Warmed39 U.vm ∧ U.heap = h0) (fun _ _ _ _ _ => True) (fun _ U o U' => ∃ v L, o = .returned v ∧ QP (.long r) h0 n0 v U'.heap L ∧ FrameEnd U o U' L ({ frames := 0, cells := 0, slots := 0, locals := 0 } : Room).cells ({ frames := 0, cells := 0, slots := 0, locals := 0 } : Room).slots) := by
  by_cases hc5 : (9223372036854 : Int64) < qk
  · exact rm1_f l Z a0 hw ws qk h0 n0 Z0 r (hr0.trans (if_pos hc5)) hc5
  · by_cases hc17 : qk < (-9223372036854 : Int64)
    · exact rm1_tf l Z a0 hw ws qk h0 n0 Z0 r ((hr0.trans (if_neg hc5)).trans (if_pos hc17)) hc5 hc17
    · exact rm1_tt l Z a0 hw ws qk h0 n0 Z0 r ((hr0.trans (if_neg hc5)).trans (if_neg hc17)) hc5 hc17
theorem d2_0 : decode jdk_29_method_70_code 0 = .ok (.lload_n 0, 1) := by decide +kernel
theorem d2_1 : decode jdk_29_method_70_code 1 = .ok (.lload_n 2, 1) := by decide +kernel
theorem d2_2 : decode jdk_29_method_70_code 2 = .ok (.lcmp, 1) := by decide +kernel
theorem d2_3 : decode jdk_29_method_70_code 3 = .ok (.ifCond .gt 7, 3) := by decide +kernel
theorem d2_10 : decode jdk_29_method_70_code 10 = .ok (.lload_n 2, 1) := by decide +kernel
theorem d2_11 : decode jdk_29_method_70_code 11 = .ok (.lreturn, 1) := by decide +kernel
theorem d2_6 : decode jdk_29_method_70_code 6 = .ok (.lload_n 0, 1) := by decide +kernel
theorem d2_7 : decode jdk_29_method_70_code 7 = .ok (.goto 4, 3) := by decide +kernel
theorem ef_rm2 (m : MethodId) (qx : Int64) (qy : Int64) : entryFrame m #[(.long qx), (.long qy)] 4 = mkF m 0 #[.val (.long qx), .second, .val (.long qy), .second] [] := by first | (simp [entryFrame, mkF, argsToLocals, Value.category]; done) | rfl
set_option maxRecDepth 65536 in
set_option maxHeartbeats 40000000 in
theorem rm2_t (l : Launch) (Z : State) (a0 : Array Value) (hw : ∀ d ∈ tables_1, d.before a0 Z = true) (ws : List Jvm.Cond) (qx : Int64) (qy : Int64) (h0 : Heap) (n0 : Nat) (Z0 : n0 ≤ h0.size) (r : Int64) (hr0 : r = qy) (hc3 : qy < qx) :
    MetFree l (⟨"java/lang/Math", "min", "(JJ)J"⟩ : MethodName) (head1 (Jvm.Cond.code (⟨"java/lang/Math", "min", "(JJ)J"⟩ : MethodName) jdk_29_method_70_code 4 (some .long) :: ws) ({ frames := 0, cells := 0, slots := 0, locals := 0 } : Room)) (fun a U => a = #[(.long qx), (.long qy)] ∧ Z.Warmed39 U.vm ∧ U.heap = h0) (fun _ _ _ _ _ => True) (fun _ U o U' => ∃ v L, o = .returned v ∧ QP (.long r) h0 n0 v U'.heap L ∧ FrameEnd U o U' L ({ frames := 0, cells := 0, slots := 0, locals := 0 } : Room).cells ({ frames := 0, cells := 0, slots := 0, locals := 0 } : Room).slots) := by
  rw [hr0]
  refine MetFree.of_bodySF (Jvm.Free.JP.mathPlain rfl (by decide +kernel)) hisR ?_
  intro p e s m args below meth c s₁ Bd hml0 hP hK
  obtain ⟨rfl, hZ, hh⟩ := hP
  have hx := Bd.exec
  have hby := Bd.bytes
  have hml : c.maxLocals = 4 := hml0
  have hown : s.vm.findClass "java/lang/Math" = some m.cls := findClass_of_methodNamed Bd.named
  have hnm := (name_of_methodNamed Bd.named Bd.method).1
  have X0 : Stand p l e ({ frames := 0, cells := 0, slots := 0, locals := 0 } : Room) s m #[(.long qx), (.long qy)] below meth c s₁ [] 0 0 := Stand.of_body Bd
  have e0 : s₁.heap = h0 := by rw [← hh, Bd.state]; rfl
  have N0 := Fr.nil n0
  have pre0 : ∀ t, Steps p.tables e below (s₁.setTop (mkF m 0 #[.val (.long qx), .second, .val (.long qy), .second] [])) t → Steps p.tables e below (s₁.setTop (entryFrame m #[(.long qx), (.long qy)] 4)) t := fun t k => castTop (ef_rm2 m qx qy) k
  obtain ⟨fs, hr, hrun, hended, hW, hsame⟩ := X0.leave (v := some (.long qy)) (fun h => by rw [Bd.returns] at h; cases h)
  refine ⟨_, _, pre0 _ ?_, hrun, hended, _, _, rfl, ?_, ⟨_, rfl⟩, hW, hsame.mono (by decide) (by decide)⟩
  · show Steps p.tables e below (s₁.setTop (mkF m 0 #[.val (.long qx), .second, .val (.long qy), .second] [])) _
    refine XS.lloadN X0.here hx rfl (hb hby d2_0) rfl ?_
    show Steps p.tables e below (s₁.setTop (mkF m 1 #[.val (.long qx), .second, .val (.long qy), .second] [(.long qx)])) _
    refine XS.lloadN X0.here hx rfl (hb hby d2_1) rfl ?_
    show Steps p.tables e below (s₁.setTop (mkF m 2 #[.val (.long qx), .second, .val (.long qy), .second] [(.long qy), (.long qx)])) _
    refine XS.lcmp X0.here hx rfl (hb hby d2_2) rfl ?_
    show Steps p.tables e below (s₁.setTop (mkF m 3 #[.val (.long qx), .second, .val (.long qy), .second] [(.int (lcmpW qx qy))])) _
    refine XS.ifYes X0.here hx rfl (pc0 := 3) (pc' := 10) rfl (hb hby d2_3) rfl ((if0 _ _).trans (tlt ((lw_gt qx qy).mpr hc3)).2.2.1) (by decide) (by decide) ?_
    show Steps p.tables e below (s₁.setTop (mkF m 10 #[.val (.long qx), .second, .val (.long qy), .second] [])) _
    refine XS.lloadN X0.here hx rfl (hb hby d2_10) rfl ?_
    show Steps p.tables e below (s₁.setTop (mkF m 11 #[.val (.long qx), .second, .val (.long qy), .second] [(.long qy)])) _
    exact retOut X0 hx Bd.returns rfl (Or.inr (Or.inl ⟨rfl, rfl, _, rfl⟩)) (hb hby d2_11) hr
  · show QP (.long qy) h0 n0 _ s₁.heap _
    rw [e0]
    exact ⟨rfl, N0, rfl⟩
set_option maxRecDepth 65536 in
set_option maxHeartbeats 40000000 in
theorem rm2_f (l : Launch) (Z : State) (a0 : Array Value) (hw : ∀ d ∈ tables_1, d.before a0 Z = true) (ws : List Jvm.Cond) (qx : Int64) (qy : Int64) (h0 : Heap) (n0 : Nat) (Z0 : n0 ≤ h0.size) (r : Int64) (hr0 : r = qx) (hc3 : ¬ (qy < qx)) :
    MetFree l (⟨"java/lang/Math", "min", "(JJ)J"⟩ : MethodName) (head1 (Jvm.Cond.code (⟨"java/lang/Math", "min", "(JJ)J"⟩ : MethodName) jdk_29_method_70_code 4 (some .long) :: ws) ({ frames := 0, cells := 0, slots := 0, locals := 0 } : Room)) (fun a U => a = #[(.long qx), (.long qy)] ∧ Z.Warmed39 U.vm ∧ U.heap = h0) (fun _ _ _ _ _ => True) (fun _ U o U' => ∃ v L, o = .returned v ∧ QP (.long r) h0 n0 v U'.heap L ∧ FrameEnd U o U' L ({ frames := 0, cells := 0, slots := 0, locals := 0 } : Room).cells ({ frames := 0, cells := 0, slots := 0, locals := 0 } : Room).slots) := by
  rw [hr0]
  refine MetFree.of_bodySF (Jvm.Free.JP.mathPlain rfl (by decide +kernel)) hisR ?_
  intro p e s m args below meth c s₁ Bd hml0 hP hK
  obtain ⟨rfl, hZ, hh⟩ := hP
  have hx := Bd.exec
  have hby := Bd.bytes
  have hml : c.maxLocals = 4 := hml0
  have hown : s.vm.findClass "java/lang/Math" = some m.cls := findClass_of_methodNamed Bd.named
  have hnm := (name_of_methodNamed Bd.named Bd.method).1
  have X0 : Stand p l e ({ frames := 0, cells := 0, slots := 0, locals := 0 } : Room) s m #[(.long qx), (.long qy)] below meth c s₁ [] 0 0 := Stand.of_body Bd
  have e0 : s₁.heap = h0 := by rw [← hh, Bd.state]; rfl
  have N0 := Fr.nil n0
  have pre0 : ∀ t, Steps p.tables e below (s₁.setTop (mkF m 0 #[.val (.long qx), .second, .val (.long qy), .second] [])) t → Steps p.tables e below (s₁.setTop (entryFrame m #[(.long qx), (.long qy)] 4)) t := fun t k => castTop (ef_rm2 m qx qy) k
  obtain ⟨fs, hr, hrun, hended, hW, hsame⟩ := X0.leave (v := some (.long qx)) (fun h => by rw [Bd.returns] at h; cases h)
  refine ⟨_, _, pre0 _ ?_, hrun, hended, _, _, rfl, ?_, ⟨_, rfl⟩, hW, hsame.mono (by decide) (by decide)⟩
  · show Steps p.tables e below (s₁.setTop (mkF m 0 #[.val (.long qx), .second, .val (.long qy), .second] [])) _
    refine XS.lloadN X0.here hx rfl (hb hby d2_0) rfl ?_
    show Steps p.tables e below (s₁.setTop (mkF m 1 #[.val (.long qx), .second, .val (.long qy), .second] [(.long qx)])) _
    refine XS.lloadN X0.here hx rfl (hb hby d2_1) rfl ?_
    show Steps p.tables e below (s₁.setTop (mkF m 2 #[.val (.long qx), .second, .val (.long qy), .second] [(.long qy), (.long qx)])) _
    refine XS.lcmp X0.here hx rfl (hb hby d2_2) rfl ?_
    show Steps p.tables e below (s₁.setTop (mkF m 3 #[.val (.long qx), .second, .val (.long qy), .second] [(.int (lcmpW qx qy))])) _
    refine XS.ifNo X0.here hx rfl (hb hby d2_3) rfl ((if0 _ _).trans (flt (fun q => hc3 ((lw_gt qx qy).mp q))).2.2.1) ?_
    show Steps p.tables e below (s₁.setTop (mkF m 6 #[.val (.long qx), .second, .val (.long qy), .second] [])) _
    refine XS.lloadN X0.here hx rfl (hb hby d2_6) rfl ?_
    show Steps p.tables e below (s₁.setTop (mkF m 7 #[.val (.long qx), .second, .val (.long qy), .second] [(.long qx)])) _
    refine XS.goto X0.here hx rfl (pc0 := 7) (pc' := 11) rfl (hb hby d2_7) (by decide) (by decide) ?_
    show Steps p.tables e below (s₁.setTop (mkF m 11 #[.val (.long qx), .second, .val (.long qy), .second] [(.long qx)])) _
    exact retOut X0 hx Bd.returns rfl (Or.inr (Or.inl ⟨rfl, rfl, _, rfl⟩)) (hb hby d2_11) hr
  · show QP (.long qx) h0 n0 _ s₁.heap _
    rw [e0]
    exact ⟨rfl, N0, rfl⟩
set_option maxRecDepth 65536 in
set_option maxHeartbeats 40000000 in
theorem rm2 (l : Launch) (Z : State) (a0 : Array Value) (hw : ∀ d ∈ tables_1, d.before a0 Z = true) (ws : List Jvm.Cond) (qx : Int64) (qy : Int64) (h0 : Heap) (n0 : Nat) (Z0 : n0 ≤ h0.size) (r : Int64) (hr0 : r = (if qy < qx then qy else qx)) :
    MetFree l (⟨"java/lang/Math", "min", "(JJ)J"⟩ : MethodName) (head1 (Jvm.Cond.code (⟨"java/lang/Math", "min", "(JJ)J"⟩ : MethodName) jdk_29_method_70_code 4 (some .long) :: ws) ({ frames := 0, cells := 0, slots := 0, locals := 0 } : Room)) (fun a U => a = #[(.long qx), (.long qy)] ∧ Z.Warmed39 U.vm ∧ U.heap = h0) (fun _ _ _ _ _ => True) (fun _ U o U' => ∃ v L, o = .returned v ∧ QP (.long r) h0 n0 v U'.heap L ∧ FrameEnd U o U' L ({ frames := 0, cells := 0, slots := 0, locals := 0 } : Room).cells ({ frames := 0, cells := 0, slots := 0, locals := 0 } : Room).slots) := by
  by_cases hc3 : qy < qx
  · exact rm2_t l Z a0 hw ws qx qy h0 n0 Z0 r (hr0.trans (if_pos hc3)) hc3
  · exact rm2_f l Z a0 hw ws qx qy h0 n0 Z0 r (hr0.trans (if_neg hc3)) hc3
theorem d4_0 : decode jdk_2799_method_7_code 0 = .ok (.aload_n 0, 1) := by decide +kernel
theorem d4_1 : decode jdk_2799_method_7_code 1 = .ok (.getfield 44, 3) := by decide +kernel
theorem d4_4 : decode jdk_2799_method_7_code 4 = .ok (.dup2, 1) := by decide +kernel
theorem d4_5 : decode jdk_2799_method_7_code 5 = .ok (.lstore_n 3, 1) := by decide +kernel
theorem d4_6 : decode jdk_2799_method_7_code 6 = .ok (.lconst 1, 1) := by decide +kernel
theorem d4_7 : decode jdk_2799_method_7_code 7 = .ok (.lcmp, 1) := by decide +kernel
theorem d4_8 : decode jdk_2799_method_7_code 8 = .ok (.ifCond .ne 5, 3) := by decide +kernel
theorem d4_13 : decode jdk_2799_method_7_code 13 = .ok (.lload_n 1, 1) := by decide +kernel
theorem d4_14 : decode jdk_2799_method_7_code 14 = .ok (.aload_n 0, 1) := by decide +kernel
theorem d4_15 : decode jdk_2799_method_7_code 15 = .ok (.getfield 52, 3) := by decide +kernel
theorem d4_18 : decode jdk_2799_method_7_code 18 = .ok (.dup2, 1) := by decide +kernel
theorem d4_19 : decode jdk_2799_method_7_code 19 = .ok (.lstore 5, 2) := by decide +kernel
theorem d4_21 : decode jdk_2799_method_7_code 21 = .ok (.lcmp, 1) := by decide +kernel
theorem d4_22 : decode jdk_2799_method_7_code 22 = .ok (.ifCond .le 7, 3) := by decide +kernel
theorem d4_29 : decode jdk_2799_method_7_code 29 = .ok (.lload_n 1, 1) := by decide +kernel
theorem d4_30 : decode jdk_2799_method_7_code 30 = .ok (.lload 5, 2) := by decide +kernel
theorem d4_32 : decode jdk_2799_method_7_code 32 = .ok (.lneg, 1) := by decide +kernel
theorem d4_33 : decode jdk_2799_method_7_code 33 = .ok (.lcmp, 1) := by decide +kernel
theorem d4_34 : decode jdk_2799_method_7_code 34 = .ok (.ifCond .ge 7, 3) := by decide +kernel
theorem d4_41 : decode jdk_2799_method_7_code 41 = .ok (.lload_n 1, 1) := by decide +kernel
theorem d4_42 : decode jdk_2799_method_7_code 42 = .ok (.lload_n 3, 1) := by decide +kernel
theorem d4_43 : decode jdk_2799_method_7_code 43 = .ok (.lmul, 1) := by decide +kernel
theorem d4_44 : decode jdk_2799_method_7_code 44 = .ok (.lreturn, 1) := by decide +kernel
theorem d4_37 : decode jdk_2799_method_7_code 37 = .ok (.ldc2_w 80, 3) := by decide +kernel
theorem d4_40 : decode jdk_2799_method_7_code 40 = .ok (.lreturn, 1) := by decide +kernel
theorem d4_25 : decode jdk_2799_method_7_code 25 = .ok (.ldc2_w 50, 3) := by decide +kernel
theorem d4_28 : decode jdk_2799_method_7_code 28 = .ok (.lreturn, 1) := by decide +kernel
theorem pnm_1 : plainName "java/util/concurrent/TimeUnit" = true := by first | (simp [plainName, overriddenIn]; done) | decide +kernel
theorem ef_rm4 (m : MethodId) (ak : Addr) (qk : Int64) : entryFrame m #[(.ref ak), (.long qk)] 7 = mkF m 0 #[.val (.ref ak), .val (.long qk), .second, .unset, .unset, .unset, .unset] [] := by first | (simp [entryFrame, mkF, argsToLocals, Value.category]; done) | rfl
set_option maxRecDepth 65536 in
set_option maxHeartbeats 40000000 in
theorem rm4_tt (l : Launch) (Z : State) (a0 : Array Value) (hw : ∀ d ∈ tables_1, d.before a0 Z = true) (ws : List Jvm.Cond) (ak : Addr) (qk : Int64) (h0 : Heap) (n0 : Nat) (Z0 : n0 ≤ h0.size) (F_scale : Fld Z h0 ak "java/util/concurrent/TimeUnit" "scale" "J" (.long (1000000 : Int64))) (F_max : Fld Z h0 ak "java/util/concurrent/TimeUnit" "maxNanos" "J" (.long (9223372036854 : Int64))) (r : Int64) (hr0 : r = (qk * (1000000 : Int64))) (hc22 : ¬ ((9223372036854 : Int64) < qk)) (hc34 : ¬ (qk < (-(9223372036854 : Int64)))) :
    MetFree l (⟨"java/util/concurrent/TimeUnit", "toNanos", "(J)J"⟩ : MethodName) (head1 (Jvm.Cond.code (⟨"java/util/concurrent/TimeUnit", "toNanos", "(J)J"⟩ : MethodName) jdk_2799_method_7_code 7 (some .long) :: ws) ({ frames := 0, cells := 0, slots := 0, locals := 0 } : Room)) (fun a U => a = #[(.ref ak), (.long qk)] ∧ Z.Warmed39 U.vm ∧ U.heap = h0) (fun _ _ _ _ _ => True) (fun _ U o U' => ∃ v L, o = .returned v ∧ QP (.long r) h0 n0 v U'.heap L ∧ FrameEnd U o U' L ({ frames := 0, cells := 0, slots := 0, locals := 0 } : Room).cells ({ frames := 0, cells := 0, slots := 0, locals := 0 } : Room).slots) := by
  rw [hr0]
  refine MetFree.of_bodySF (plainFor_of_name pnm_1) hisR ?_
  intro p e s m args below meth c s₁ Bd hml0 hP hK
  obtain ⟨rfl, hZ, hh⟩ := hP
  have hx := Bd.exec
  have hby := Bd.bytes
  have hml : c.maxLocals = 7 := hml0
  have hown : s.vm.findClass "java/util/concurrent/TimeUnit" = some m.cls := findClass_of_methodNamed Bd.named
  have hnm := (name_of_methodNamed Bd.named Bd.method).1
  have X0 : Stand p l e ({ frames := 0, cells := 0, slots := 0, locals := 0 } : Room) s m #[(.ref ak), (.long qk)] below meth c s₁ [] 0 0 := Stand.of_body Bd
  have e0 : s₁.heap = h0 := by rw [← hh, Bd.state]; rfl
  have N0 := Fr.nil n0
  have pre0 : ∀ t, Steps p.tables e below (s₁.setTop (mkF m 0 #[.val (.ref ak), .val (.long qk), .second, .unset, .unset, .unset, .unset] [])) t → Steps p.tables e below (s₁.setTop (entryFrame m #[(.ref ak), (.long qk)] 7)) t := fun t k => castTop (ef_rm4 m ak qk) k
  obtain ⟨T1, X1, e1, st1⟩ := getF X0 hx hZ hown (host := "") (Or.inl (hw _ (List.mem_of_getElem? (i := 27) rfl))) Via.refl e0 F_scale (g := (mkF m 1 #[.val (.ref ak), .val (.long qk), .second, .unset, .unset, .unset, .unset] [(.ref ak)])) rfl rfl (hb hby d4_1)
  obtain ⟨T2, X2, e2, st2⟩ := getF X1 hx hZ hown (host := "") (Or.inl (hw _ (List.mem_of_getElem? (i := 29) rfl))) Via.refl e1 F_max (g := (mkF m 15 #[.val (.ref ak), .val (.long qk), .second, .val (.long (1000000 : Int64)), .second, .unset, .unset] [(.ref ak), (.long qk)])) rfl rfl (hb hby d4_15)
  obtain ⟨fs, hr, hrun, hended, hW, hsame⟩ := X2.leave (v := some (.long (qk * (1000000 : Int64)))) (fun h => by rw [Bd.returns] at h; cases h)
  refine ⟨_, _, pre0 _ ?_, hrun, hended, _, _, rfl, ?_, ⟨_, rfl⟩, hW, hsame.mono (by decide) (by decide)⟩
  · show Steps p.tables e below (s₁.setTop (mkF m 0 #[.val (.ref ak), .val (.long qk), .second, .unset, .unset, .unset, .unset] [])) _
    refine XS.aloadN X0.here hx rfl (hb hby d4_0) rfl rfl ?_
    show Steps p.tables e below (s₁.setTop (mkF m 1 #[.val (.ref ak), .val (.long qk), .second, .unset, .unset, .unset, .unset] [(.ref ak)])) _
    refine st1 _ ?_
    show Steps p.tables e below (T1.setTop (mkF m 4 #[.val (.ref ak), .val (.long qk), .second, .unset, .unset, .unset, .unset] [(.long (1000000 : Int64))])) _
    refine Jvm.Free.XT.dup2L X1.here hx rfl (hb hby d4_4) rfl ?_
    show Steps p.tables e below (T1.setTop (mkF m 5 #[.val (.ref ak), .val (.long qk), .second, .unset, .unset, .unset, .unset] [(.long (1000000 : Int64)), (.long (1000000 : Int64))])) _
    refine XS.lstoreN X1.here hx rfl (hb hby d4_5) rfl (l' := #[.val (.ref ak), .val (.long qk), .second, .val (.long (1000000 : Int64)), .second, .unset, .unset]) rfl ?_
    show Steps p.tables e below (T1.setTop (mkF m 6 #[.val (.ref ak), .val (.long qk), .second, .val (.long (1000000 : Int64)), .second, .unset, .unset] [(.long (1000000 : Int64))])) _
    refine XS.lconst X1.here hx rfl (hb hby d4_6) ?_
    show Steps p.tables e below (T1.setTop (mkF m 7 #[.val (.ref ak), .val (.long qk), .second, .val (.long (1000000 : Int64)), .second, .unset, .unset] [(.long (1 : Int64)), (.long (1000000 : Int64))])) _
    refine XS.lcmp X1.here hx rfl (hb hby d4_7) rfl ?_
    show Steps p.tables e below (T1.setTop (mkF m 8 #[.val (.ref ak), .val (.long qk), .second, .val (.long (1000000 : Int64)), .second, .unset, .unset] [(.int (lcmpW (1000000 : Int64) (1 : Int64)))])) _
    refine XS.ifYes X1.here hx rfl (pc0 := 8) (pc' := 13) rfl (hb hby d4_8) rfl ((if0 _ _).trans (feq (fun q => (by decide : ¬ ((1000000 : Int64) = (1 : Int64))) ((lw_eq (1000000 : Int64) (1 : Int64)).mp q))).2) (by decide) (by decide) ?_
    show Steps p.tables e below (T1.setTop (mkF m 13 #[.val (.ref ak), .val (.long qk), .second, .val (.long (1000000 : Int64)), .second, .unset, .unset] [])) _
    refine XS.lloadN X1.here hx rfl (hb hby d4_13) rfl ?_
    show Steps p.tables e below (T1.setTop (mkF m 14 #[.val (.ref ak), .val (.long qk), .second, .val (.long (1000000 : Int64)), .second, .unset, .unset] [(.long qk)])) _
    refine XS.aloadN X1.here hx rfl (hb hby d4_14) rfl rfl ?_
    show Steps p.tables e below (T1.setTop (mkF m 15 #[.val (.ref ak), .val (.long qk), .second, .val (.long (1000000 : Int64)), .second, .unset, .unset] [(.ref ak), (.long qk)])) _
    refine st2 _ ?_
    show Steps p.tables e below (T2.setTop (mkF m 18 #[.val (.ref ak), .val (.long qk), .second, .val (.long (1000000 : Int64)), .second, .unset, .unset] [(.long (9223372036854 : Int64)), (.long qk)])) _
    refine Jvm.Free.XT.dup2L X2.here hx rfl (hb hby d4_18) rfl ?_
    show Steps p.tables e below (T2.setTop (mkF m 19 #[.val (.ref ak), .val (.long qk), .second, .val (.long (1000000 : Int64)), .second, .unset, .unset] [(.long (9223372036854 : Int64)), (.long (9223372036854 : Int64)), (.long qk)])) _
    refine XS.lstore X2.here hx rfl (hb hby d4_19) rfl (l' := #[.val (.ref ak), .val (.long qk), .second, .val (.long (1000000 : Int64)), .second, .val (.long (9223372036854 : Int64)), .second]) rfl ?_
    show Steps p.tables e below (T2.setTop (mkF m 21 #[.val (.ref ak), .val (.long qk), .second, .val (.long (1000000 : Int64)), .second, .val (.long (9223372036854 : Int64)), .second] [(.long (9223372036854 : Int64)), (.long qk)])) _
    refine XS.lcmp X2.here hx rfl (hb hby d4_21) rfl ?_
    show Steps p.tables e below (T2.setTop (mkF m 22 #[.val (.ref ak), .val (.long qk), .second, .val (.long (1000000 : Int64)), .second, .val (.long (9223372036854 : Int64)), .second] [(.int (lcmpW qk (9223372036854 : Int64)))])) _
    refine XS.ifYes X2.here hx rfl (pc0 := 22) (pc' := 29) rfl (hb hby d4_22) rfl ((if0 _ _).trans (flt (fun q => hc22 ((lw_gt qk (9223372036854 : Int64)).mp q))).2.2.2) (by decide) (by decide) ?_
    show Steps p.tables e below (T2.setTop (mkF m 29 #[.val (.ref ak), .val (.long qk), .second, .val (.long (1000000 : Int64)), .second, .val (.long (9223372036854 : Int64)), .second] [])) _
    refine XS.lloadN X2.here hx rfl (hb hby d4_29) rfl ?_
    show Steps p.tables e below (T2.setTop (mkF m 30 #[.val (.ref ak), .val (.long qk), .second, .val (.long (1000000 : Int64)), .second, .val (.long (9223372036854 : Int64)), .second] [(.long qk)])) _
    refine XS.lload X2.here hx rfl (hb hby d4_30) rfl ?_
    show Steps p.tables e below (T2.setTop (mkF m 32 #[.val (.ref ak), .val (.long qk), .second, .val (.long (1000000 : Int64)), .second, .val (.long (9223372036854 : Int64)), .second] [(.long (9223372036854 : Int64)), (.long qk)])) _
    refine XS.lneg X2.here hx rfl (hb hby d4_32) rfl ?_
    show Steps p.tables e below (T2.setTop (mkF m 33 #[.val (.ref ak), .val (.long qk), .second, .val (.long (1000000 : Int64)), .second, .val (.long (9223372036854 : Int64)), .second] [(.long (-(9223372036854 : Int64))), (.long qk)])) _
    refine XS.lcmp X2.here hx rfl (hb hby d4_33) rfl ?_
    show Steps p.tables e below (T2.setTop (mkF m 34 #[.val (.ref ak), .val (.long qk), .second, .val (.long (1000000 : Int64)), .second, .val (.long (9223372036854 : Int64)), .second] [(.int (lcmpW qk (-(9223372036854 : Int64))))])) _
    refine XS.ifYes X2.here hx rfl (pc0 := 34) (pc' := 41) rfl (hb hby d4_34) rfl ((if0 _ _).trans (flt (fun q => hc34 ((lw_lt qk (-(9223372036854 : Int64))).mp q))).2.1) (by decide) (by decide) ?_
    show Steps p.tables e below (T2.setTop (mkF m 41 #[.val (.ref ak), .val (.long qk), .second, .val (.long (1000000 : Int64)), .second, .val (.long (9223372036854 : Int64)), .second] [])) _
    refine XS.lloadN X2.here hx rfl (hb hby d4_41) rfl ?_
    show Steps p.tables e below (T2.setTop (mkF m 42 #[.val (.ref ak), .val (.long qk), .second, .val (.long (1000000 : Int64)), .second, .val (.long (9223372036854 : Int64)), .second] [(.long qk)])) _
    refine XS.lloadN X2.here hx rfl (hb hby d4_42) rfl ?_
    show Steps p.tables e below (T2.setTop (mkF m 43 #[.val (.ref ak), .val (.long qk), .second, .val (.long (1000000 : Int64)), .second, .val (.long (9223372036854 : Int64)), .second] [(.long (1000000 : Int64)), (.long qk)])) _
    refine XS.lmul X2.here hx rfl (hb hby d4_43) rfl ?_
    show Steps p.tables e below (T2.setTop (mkF m 44 #[.val (.ref ak), .val (.long qk), .second, .val (.long (1000000 : Int64)), .second, .val (.long (9223372036854 : Int64)), .second] [(.long (qk * (1000000 : Int64)))])) _
    exact retOut X2 hx Bd.returns rfl (Or.inr (Or.inl ⟨rfl, rfl, _, rfl⟩)) (hb hby d4_44) hr
  · show QP (.long (qk * (1000000 : Int64))) h0 n0 _ T2.heap _
    rw [e2]
    exact ⟨rfl, N0, rfl⟩
set_option maxRecDepth 65536 in
set_option maxHeartbeats 40000000 in
theorem rm4_tf (l : Launch) (Z : State) (a0 : Array Value) (hw : ∀ d ∈ tables_1, d.before a0 Z = true) (ws : List Jvm.Cond) (ak : Addr) (qk : Int64) (h0 : Heap) (n0 : Nat) (Z0 : n0 ≤ h0.size) (F_scale : Fld Z h0 ak "java/util/concurrent/TimeUnit" "scale" "J" (.long (1000000 : Int64))) (F_max : Fld Z h0 ak "java/util/concurrent/TimeUnit" "maxNanos" "J" (.long (9223372036854 : Int64))) (r : Int64) (hr0 : r = (-9223372036854775808 : Int64)) (hc22 : ¬ ((9223372036854 : Int64) < qk)) (hc34 : qk < (-(9223372036854 : Int64))) :
    MetFree l (⟨"java/util/concurrent/TimeUnit", "toNanos", "(J)J"⟩ : MethodName) (head1 (Jvm.Cond.code (⟨"java/util/concurrent/TimeUnit", "toNanos", "(J)J"⟩ : MethodName) jdk_2799_method_7_code 7 (some .long) :: ws) ({ frames := 0, cells := 0, slots := 0, locals := 0 } : Room)) (fun a U => a = #[(.ref ak), (.long qk)] ∧ Z.Warmed39 U.vm ∧ U.heap = h0) (fun _ _ _ _ _ => True) (fun _ U o U' => ∃ v L, o = .returned v ∧ QP (.long r) h0 n0 v U'.heap L ∧ FrameEnd U o U' L ({ frames := 0, cells := 0, slots := 0, locals := 0 } : Room).cells ({ frames := 0, cells := 0, slots := 0, locals := 0 } : Room).slots) := by
  rw [hr0]
  refine MetFree.of_bodySF (plainFor_of_name pnm_1) hisR ?_
  intro p e s m args below meth c s₁ Bd hml0 hP hK
  obtain ⟨rfl, hZ, hh⟩ := hP
  have hx := Bd.exec
  have hby := Bd.bytes
  have hml : c.maxLocals = 7 := hml0
  have hown : s.vm.findClass "java/util/concurrent/TimeUnit" = some m.cls := findClass_of_methodNamed Bd.named
  have hnm := (name_of_methodNamed Bd.named Bd.method).1
  have X0 : Stand p l e ({ frames := 0, cells := 0, slots := 0, locals := 0 } : Room) s m #[(.ref ak), (.long qk)] below meth c s₁ [] 0 0 := Stand.of_body Bd
  have e0 : s₁.heap = h0 := by rw [← hh, Bd.state]; rfl
  have N0 := Fr.nil n0
  have pre0 : ∀ t, Steps p.tables e below (s₁.setTop (mkF m 0 #[.val (.ref ak), .val (.long qk), .second, .unset, .unset, .unset, .unset] [])) t → Steps p.tables e below (s₁.setTop (entryFrame m #[(.ref ak), (.long qk)] 7)) t := fun t k => castTop (ef_rm4 m ak qk) k
  obtain ⟨T1, X1, e1, st1⟩ := getF X0 hx hZ hown (host := "") (Or.inl (hw _ (List.mem_of_getElem? (i := 27) rfl))) Via.refl e0 F_scale (g := (mkF m 1 #[.val (.ref ak), .val (.long qk), .second, .unset, .unset, .unset, .unset] [(.ref ak)])) rfl rfl (hb hby d4_1)
  obtain ⟨T2, X2, e2, st2⟩ := getF X1 hx hZ hown (host := "") (Or.inl (hw _ (List.mem_of_getElem? (i := 29) rfl))) Via.refl e1 F_max (g := (mkF m 15 #[.val (.ref ak), .val (.long qk), .second, .val (.long (1000000 : Int64)), .second, .unset, .unset] [(.ref ak), (.long qk)])) rfl rfl (hb hby d4_15)
  obtain ⟨fs, hr, hrun, hended, hW, hsame⟩ := X2.leave (v := some (.long (-9223372036854775808 : Int64))) (fun h => by rw [Bd.returns] at h; cases h)
  refine ⟨_, _, pre0 _ ?_, hrun, hended, _, _, rfl, ?_, ⟨_, rfl⟩, hW, hsame.mono (by decide) (by decide)⟩
  · show Steps p.tables e below (s₁.setTop (mkF m 0 #[.val (.ref ak), .val (.long qk), .second, .unset, .unset, .unset, .unset] [])) _
    refine XS.aloadN X0.here hx rfl (hb hby d4_0) rfl rfl ?_
    show Steps p.tables e below (s₁.setTop (mkF m 1 #[.val (.ref ak), .val (.long qk), .second, .unset, .unset, .unset, .unset] [(.ref ak)])) _
    refine st1 _ ?_
    show Steps p.tables e below (T1.setTop (mkF m 4 #[.val (.ref ak), .val (.long qk), .second, .unset, .unset, .unset, .unset] [(.long (1000000 : Int64))])) _
    refine Jvm.Free.XT.dup2L X1.here hx rfl (hb hby d4_4) rfl ?_
    show Steps p.tables e below (T1.setTop (mkF m 5 #[.val (.ref ak), .val (.long qk), .second, .unset, .unset, .unset, .unset] [(.long (1000000 : Int64)), (.long (1000000 : Int64))])) _
    refine XS.lstoreN X1.here hx rfl (hb hby d4_5) rfl (l' := #[.val (.ref ak), .val (.long qk), .second, .val (.long (1000000 : Int64)), .second, .unset, .unset]) rfl ?_
    show Steps p.tables e below (T1.setTop (mkF m 6 #[.val (.ref ak), .val (.long qk), .second, .val (.long (1000000 : Int64)), .second, .unset, .unset] [(.long (1000000 : Int64))])) _
    refine XS.lconst X1.here hx rfl (hb hby d4_6) ?_
    show Steps p.tables e below (T1.setTop (mkF m 7 #[.val (.ref ak), .val (.long qk), .second, .val (.long (1000000 : Int64)), .second, .unset, .unset] [(.long (1 : Int64)), (.long (1000000 : Int64))])) _
    refine XS.lcmp X1.here hx rfl (hb hby d4_7) rfl ?_
    show Steps p.tables e below (T1.setTop (mkF m 8 #[.val (.ref ak), .val (.long qk), .second, .val (.long (1000000 : Int64)), .second, .unset, .unset] [(.int (lcmpW (1000000 : Int64) (1 : Int64)))])) _
    refine XS.ifYes X1.here hx rfl (pc0 := 8) (pc' := 13) rfl (hb hby d4_8) rfl ((if0 _ _).trans (feq (fun q => (by decide : ¬ ((1000000 : Int64) = (1 : Int64))) ((lw_eq (1000000 : Int64) (1 : Int64)).mp q))).2) (by decide) (by decide) ?_
    show Steps p.tables e below (T1.setTop (mkF m 13 #[.val (.ref ak), .val (.long qk), .second, .val (.long (1000000 : Int64)), .second, .unset, .unset] [])) _
    refine XS.lloadN X1.here hx rfl (hb hby d4_13) rfl ?_
    show Steps p.tables e below (T1.setTop (mkF m 14 #[.val (.ref ak), .val (.long qk), .second, .val (.long (1000000 : Int64)), .second, .unset, .unset] [(.long qk)])) _
    refine XS.aloadN X1.here hx rfl (hb hby d4_14) rfl rfl ?_
    show Steps p.tables e below (T1.setTop (mkF m 15 #[.val (.ref ak), .val (.long qk), .second, .val (.long (1000000 : Int64)), .second, .unset, .unset] [(.ref ak), (.long qk)])) _
    refine st2 _ ?_
    show Steps p.tables e below (T2.setTop (mkF m 18 #[.val (.ref ak), .val (.long qk), .second, .val (.long (1000000 : Int64)), .second, .unset, .unset] [(.long (9223372036854 : Int64)), (.long qk)])) _
    refine Jvm.Free.XT.dup2L X2.here hx rfl (hb hby d4_18) rfl ?_
    show Steps p.tables e below (T2.setTop (mkF m 19 #[.val (.ref ak), .val (.long qk), .second, .val (.long (1000000 : Int64)), .second, .unset, .unset] [(.long (9223372036854 : Int64)), (.long (9223372036854 : Int64)), (.long qk)])) _
    refine XS.lstore X2.here hx rfl (hb hby d4_19) rfl (l' := #[.val (.ref ak), .val (.long qk), .second, .val (.long (1000000 : Int64)), .second, .val (.long (9223372036854 : Int64)), .second]) rfl ?_
    show Steps p.tables e below (T2.setTop (mkF m 21 #[.val (.ref ak), .val (.long qk), .second, .val (.long (1000000 : Int64)), .second, .val (.long (9223372036854 : Int64)), .second] [(.long (9223372036854 : Int64)), (.long qk)])) _
    refine XS.lcmp X2.here hx rfl (hb hby d4_21) rfl ?_
    show Steps p.tables e below (T2.setTop (mkF m 22 #[.val (.ref ak), .val (.long qk), .second, .val (.long (1000000 : Int64)), .second, .val (.long (9223372036854 : Int64)), .second] [(.int (lcmpW qk (9223372036854 : Int64)))])) _
    refine XS.ifYes X2.here hx rfl (pc0 := 22) (pc' := 29) rfl (hb hby d4_22) rfl ((if0 _ _).trans (flt (fun q => hc22 ((lw_gt qk (9223372036854 : Int64)).mp q))).2.2.2) (by decide) (by decide) ?_
    show Steps p.tables e below (T2.setTop (mkF m 29 #[.val (.ref ak), .val (.long qk), .second, .val (.long (1000000 : Int64)), .second, .val (.long (9223372036854 : Int64)), .second] [])) _
    refine XS.lloadN X2.here hx rfl (hb hby d4_29) rfl ?_
    show Steps p.tables e below (T2.setTop (mkF m 30 #[.val (.ref ak), .val (.long qk), .second, .val (.long (1000000 : Int64)), .second, .val (.long (9223372036854 : Int64)), .second] [(.long qk)])) _
    refine XS.lload X2.here hx rfl (hb hby d4_30) rfl ?_
    show Steps p.tables e below (T2.setTop (mkF m 32 #[.val (.ref ak), .val (.long qk), .second, .val (.long (1000000 : Int64)), .second, .val (.long (9223372036854 : Int64)), .second] [(.long (9223372036854 : Int64)), (.long qk)])) _
    refine XS.lneg X2.here hx rfl (hb hby d4_32) rfl ?_
    show Steps p.tables e below (T2.setTop (mkF m 33 #[.val (.ref ak), .val (.long qk), .second, .val (.long (1000000 : Int64)), .second, .val (.long (9223372036854 : Int64)), .second] [(.long (-(9223372036854 : Int64))), (.long qk)])) _
    refine XS.lcmp X2.here hx rfl (hb hby d4_33) rfl ?_
    show Steps p.tables e below (T2.setTop (mkF m 34 #[.val (.ref ak), .val (.long qk), .second, .val (.long (1000000 : Int64)), .second, .val (.long (9223372036854 : Int64)), .second] [(.int (lcmpW qk (-(9223372036854 : Int64))))])) _
    refine XS.ifNo X2.here hx rfl (hb hby d4_34) rfl ((if0 _ _).trans (tlt ((lw_lt qk (-(9223372036854 : Int64))).mpr hc34)).2.1) ?_
    show Steps p.tables e below (T2.setTop (mkF m 37 #[.val (.ref ak), .val (.long qk), .second, .val (.long (1000000 : Int64)), .second, .val (.long (9223372036854 : Int64)), .second] [])) _
    refine X2.ldc2Long hx hown (mvT hZ (hw _ (List.mem_of_getElem? (i := 32) rfl))) (g := (mkF m 37 #[.val (.ref ak), .val (.long qk), .second, .val (.long (1000000 : Int64)), .second, .val (.long (9223372036854 : Int64)), .second] [])) rfl (hb hby d4_37) _ ?_
    show Steps p.tables e below (T2.setTop (mkF m 40 #[.val (.ref ak), .val (.long qk), .second, .val (.long (1000000 : Int64)), .second, .val (.long (9223372036854 : Int64)), .second] [(.long (-9223372036854775808 : Int64))])) _
    exact retOut X2 hx Bd.returns rfl (Or.inr (Or.inl ⟨rfl, rfl, _, rfl⟩)) (hb hby d4_40) hr
  · show QP (.long (-9223372036854775808 : Int64)) h0 n0 _ T2.heap _
    rw [e2]
    exact ⟨rfl, N0, rfl⟩
set_option maxRecDepth 65536 in
set_option maxHeartbeats 40000000 in
theorem rm4_f (l : Launch) (Z : State) (a0 : Array Value) (hw : ∀ d ∈ tables_1, d.before a0 Z = true) (ws : List Jvm.Cond) (ak : Addr) (qk : Int64) (h0 : Heap) (n0 : Nat) (Z0 : n0 ≤ h0.size) (F_scale : Fld Z h0 ak "java/util/concurrent/TimeUnit" "scale" "J" (.long (1000000 : Int64))) (F_max : Fld Z h0 ak "java/util/concurrent/TimeUnit" "maxNanos" "J" (.long (9223372036854 : Int64))) (r : Int64) (hr0 : r = (9223372036854775807 : Int64)) (hc22 : (9223372036854 : Int64) < qk) :
    MetFree l (⟨"java/util/concurrent/TimeUnit", "toNanos", "(J)J"⟩ : MethodName) (head1 (Jvm.Cond.code (⟨"java/util/concurrent/TimeUnit", "toNanos", "(J)J"⟩ : MethodName) jdk_2799_method_7_code 7 (some .long) :: ws) ({ frames := 0, cells := 0, slots := 0, locals := 0 } : Room)) (fun a U => a = #[(.ref ak), (.long qk)] ∧ Z.Warmed39 U.vm ∧ U.heap = h0) (fun _ _ _ _ _ => True) (fun _ U o U' => ∃ v L, o = .returned v ∧ QP (.long r) h0 n0 v U'.heap L ∧ FrameEnd U o U' L ({ frames := 0, cells := 0, slots := 0, locals := 0 } : Room).cells ({ frames := 0, cells := 0, slots := 0, locals := 0 } : Room).slots) := by
  rw [hr0]
  refine MetFree.of_bodySF (plainFor_of_name pnm_1) hisR ?_
  intro p e s m args below meth c s₁ Bd hml0 hP hK
  obtain ⟨rfl, hZ, hh⟩ := hP
  have hx := Bd.exec
  have hby := Bd.bytes
  have hml : c.maxLocals = 7 := hml0
  have hown : s.vm.findClass "java/util/concurrent/TimeUnit" = some m.cls := findClass_of_methodNamed Bd.named
  have hnm := (name_of_methodNamed Bd.named Bd.method).1
  have X0 : Stand p l e ({ frames := 0, cells := 0, slots := 0, locals := 0 } : Room) s m #[(.ref ak), (.long qk)] below meth c s₁ [] 0 0 := Stand.of_body Bd
  have e0 : s₁.heap = h0 := by rw [← hh, Bd.state]; rfl
  have N0 := Fr.nil n0
  have pre0 : ∀ t, Steps p.tables e below (s₁.setTop (mkF m 0 #[.val (.ref ak), .val (.long qk), .second, .unset, .unset, .unset, .unset] [])) t → Steps p.tables e below (s₁.setTop (entryFrame m #[(.ref ak), (.long qk)] 7)) t := fun t k => castTop (ef_rm4 m ak qk) k
  obtain ⟨T1, X1, e1, st1⟩ := getF X0 hx hZ hown (host := "") (Or.inl (hw _ (List.mem_of_getElem? (i := 27) rfl))) Via.refl e0 F_scale (g := (mkF m 1 #[.val (.ref ak), .val (.long qk), .second, .unset, .unset, .unset, .unset] [(.ref ak)])) rfl rfl (hb hby d4_1)
  obtain ⟨T2, X2, e2, st2⟩ := getF X1 hx hZ hown (host := "") (Or.inl (hw _ (List.mem_of_getElem? (i := 29) rfl))) Via.refl e1 F_max (g := (mkF m 15 #[.val (.ref ak), .val (.long qk), .second, .val (.long (1000000 : Int64)), .second, .unset, .unset] [(.ref ak), (.long qk)])) rfl rfl (hb hby d4_15)
  obtain ⟨fs, hr, hrun, hended, hW, hsame⟩ := X2.leave (v := some (.long (9223372036854775807 : Int64))) (fun h => by rw [Bd.returns] at h; cases h)
  refine ⟨_, _, pre0 _ ?_, hrun, hended, _, _, rfl, ?_, ⟨_, rfl⟩, hW, hsame.mono (by decide) (by decide)⟩
  · show Steps p.tables e below (s₁.setTop (mkF m 0 #[.val (.ref ak), .val (.long qk), .second, .unset, .unset, .unset, .unset] [])) _
    refine XS.aloadN X0.here hx rfl (hb hby d4_0) rfl rfl ?_
    show Steps p.tables e below (s₁.setTop (mkF m 1 #[.val (.ref ak), .val (.long qk), .second, .unset, .unset, .unset, .unset] [(.ref ak)])) _
    refine st1 _ ?_
    show Steps p.tables e below (T1.setTop (mkF m 4 #[.val (.ref ak), .val (.long qk), .second, .unset, .unset, .unset, .unset] [(.long (1000000 : Int64))])) _
    refine Jvm.Free.XT.dup2L X1.here hx rfl (hb hby d4_4) rfl ?_
    show Steps p.tables e below (T1.setTop (mkF m 5 #[.val (.ref ak), .val (.long qk), .second, .unset, .unset, .unset, .unset] [(.long (1000000 : Int64)), (.long (1000000 : Int64))])) _
    refine XS.lstoreN X1.here hx rfl (hb hby d4_5) rfl (l' := #[.val (.ref ak), .val (.long qk), .second, .val (.long (1000000 : Int64)), .second, .unset, .unset]) rfl ?_
    show Steps p.tables e below (T1.setTop (mkF m 6 #[.val (.ref ak), .val (.long qk), .second, .val (.long (1000000 : Int64)), .second, .unset, .unset] [(.long (1000000 : Int64))])) _
    refine XS.lconst X1.here hx rfl (hb hby d4_6) ?_
    show Steps p.tables e below (T1.setTop (mkF m 7 #[.val (.ref ak), .val (.long qk), .second, .val (.long (1000000 : Int64)), .second, .unset, .unset] [(.long (1 : Int64)), (.long (1000000 : Int64))])) _
    refine XS.lcmp X1.here hx rfl (hb hby d4_7) rfl ?_
    show Steps p.tables e below (T1.setTop (mkF m 8 #[.val (.ref ak), .val (.long qk), .second, .val (.long (1000000 : Int64)), .second, .unset, .unset] [(.int (lcmpW (1000000 : Int64) (1 : Int64)))])) _
    refine XS.ifYes X1.here hx rfl (pc0 := 8) (pc' := 13) rfl (hb hby d4_8) rfl ((if0 _ _).trans (feq (fun q => (by decide : ¬ ((1000000 : Int64) = (1 : Int64))) ((lw_eq (1000000 : Int64) (1 : Int64)).mp q))).2) (by decide) (by decide) ?_
    show Steps p.tables e below (T1.setTop (mkF m 13 #[.val (.ref ak), .val (.long qk), .second, .val (.long (1000000 : Int64)), .second, .unset, .unset] [])) _
    refine XS.lloadN X1.here hx rfl (hb hby d4_13) rfl ?_
    show Steps p.tables e below (T1.setTop (mkF m 14 #[.val (.ref ak), .val (.long qk), .second, .val (.long (1000000 : Int64)), .second, .unset, .unset] [(.long qk)])) _
    refine XS.aloadN X1.here hx rfl (hb hby d4_14) rfl rfl ?_
    show Steps p.tables e below (T1.setTop (mkF m 15 #[.val (.ref ak), .val (.long qk), .second, .val (.long (1000000 : Int64)), .second, .unset, .unset] [(.ref ak), (.long qk)])) _
    refine st2 _ ?_
    show Steps p.tables e below (T2.setTop (mkF m 18 #[.val (.ref ak), .val (.long qk), .second, .val (.long (1000000 : Int64)), .second, .unset, .unset] [(.long (9223372036854 : Int64)), (.long qk)])) _
    refine Jvm.Free.XT.dup2L X2.here hx rfl (hb hby d4_18) rfl ?_
    show Steps p.tables e below (T2.setTop (mkF m 19 #[.val (.ref ak), .val (.long qk), .second, .val (.long (1000000 : Int64)), .second, .unset, .unset] [(.long (9223372036854 : Int64)), (.long (9223372036854 : Int64)), (.long qk)])) _
    refine XS.lstore X2.here hx rfl (hb hby d4_19) rfl (l' := #[.val (.ref ak), .val (.long qk), .second, .val (.long (1000000 : Int64)), .second, .val (.long (9223372036854 : Int64)), .second]) rfl ?_
    show Steps p.tables e below (T2.setTop (mkF m 21 #[.val (.ref ak), .val (.long qk), .second, .val (.long (1000000 : Int64)), .second, .val (.long (9223372036854 : Int64)), .second] [(.long (9223372036854 : Int64)), (.long qk)])) _
    refine XS.lcmp X2.here hx rfl (hb hby d4_21) rfl ?_
    show Steps p.tables e below (T2.setTop (mkF m 22 #[.val (.ref ak), .val (.long qk), .second, .val (.long (1000000 : Int64)), .second, .val (.long (9223372036854 : Int64)), .second] [(.int (lcmpW qk (9223372036854 : Int64)))])) _
    refine XS.ifNo X2.here hx rfl (hb hby d4_22) rfl ((if0 _ _).trans (tlt ((lw_gt qk (9223372036854 : Int64)).mpr hc22)).2.2.2) ?_
    show Steps p.tables e below (T2.setTop (mkF m 25 #[.val (.ref ak), .val (.long qk), .second, .val (.long (1000000 : Int64)), .second, .val (.long (9223372036854 : Int64)), .second] [])) _
    refine X2.ldc2Long hx hown (mvT hZ (hw _ (List.mem_of_getElem? (i := 37) rfl))) (g := (mkF m 25 #[.val (.ref ak), .val (.long qk), .second, .val (.long (1000000 : Int64)), .second, .val (.long (9223372036854 : Int64)), .second] [])) rfl (hb hby d4_25) _ ?_
    show Steps p.tables e below (T2.setTop (mkF m 28 #[.val (.ref ak), .val (.long qk), .second, .val (.long (1000000 : Int64)), .second, .val (.long (9223372036854 : Int64)), .second] [(.long (9223372036854775807 : Int64))])) _
    exact retOut X2 hx Bd.returns rfl (Or.inr (Or.inl ⟨rfl, rfl, _, rfl⟩)) (hb hby d4_28) hr
  · show QP (.long (9223372036854775807 : Int64)) h0 n0 _ T2.heap _
    rw [e2]
    exact ⟨rfl, N0, rfl⟩
set_option maxRecDepth 65536 in
set_option maxHeartbeats 40000000 in
theorem rm4 (l : Launch) (Z : State) (a0 : Array Value) (hw : ∀ d ∈ tables_1, d.before a0 Z = true) (ws : List Jvm.Cond) (ak : Addr) (qk : Int64) (h0 : Heap) (n0 : Nat) (Z0 : n0 ≤ h0.size) (F_scale : Fld Z h0 ak "java/util/concurrent/TimeUnit" "scale" "J" (.long (1000000 : Int64))) (F_max : Fld Z h0 ak "java/util/concurrent/TimeUnit" "maxNanos" "J" (.long (9223372036854 : Int64))) (r : Int64) (hr0 : r = (if (9223372036854 : Int64) < qk then (9223372036854775807 : Int64) else (if qk < (-(9223372036854 : Int64)) then (-9223372036854775808 : Int64) else (qk * (1000000 : Int64))))) :
    MetFree l (⟨"java/util/concurrent/TimeUnit", "toNanos", "(J)J"⟩ : MethodName) (head1 (Jvm.Cond.code (⟨"java/util/concurrent/TimeUnit", "toNanos", "(J)J"⟩ : MethodName) jdk_2799_method_7_code 7 (some .long) :: ws) ({ frames := 0, cells := 0, slots := 0, locals := 0 } : Room)) (fun a U => a = #[(.ref ak), (.long qk)] ∧ Z.Warmed39 U.vm ∧ U.heap = h0) (fun _ _ _ _ _ => True) (fun _ U o U' => ∃ v L, o = .returned v ∧ QP (.long r) h0 n0 v U'.heap L ∧ FrameEnd U o U' L ({ frames := 0, cells := 0, slots := 0, locals := 0 } : Room).cells ({ frames := 0, cells := 0, slots := 0, locals := 0 } : Room).slots) := by
  by_cases hc22 : (9223372036854 : Int64) < qk
  · exact rm4_f l Z a0 hw ws ak qk h0 n0 Z0 F_scale F_max r (hr0.trans (if_pos hc22)) hc22
  · by_cases hc34 : qk < (-(9223372036854 : Int64))
    · exact rm4_tf l Z a0 hw ws ak qk h0 n0 Z0 F_scale F_max r ((hr0.trans (if_neg hc22)).trans (if_pos hc34)) hc22 hc34
    · exact rm4_tt l Z a0 hw ws ak qk h0 n0 Z0 F_scale F_max r ((hr0.trans (if_neg hc22)).trans (if_neg hc34)) hc22 hc34
theorem d3_0 : decode prog_15_method_10_code 0 = .ok (.ldc2_w 285, 3) := by decide +kernel
theorem d3_3 : decode prog_15_method_10_code 3 = .ok (.lstore_n 3, 1) := by decide +kernel
theorem d3_4 : decode prog_15_method_10_code 4 = .ok (.aload_n 0, 1) := by decide +kernel
theorem d3_5 : decode prog_15_method_10_code 5 = .ok (.astore 5, 2) := by decide +kernel
theorem d3_7 : decode prog_15_method_10_code 7 = .ok (.aload 5, 2) := by decide +kernel
theorem d3_9 : decode prog_15_method_10_code 9 = .ok (.arraylength, 1) := by decide +kernel
theorem d3_10 : decode prog_15_method_10_code 10 = .ok (.istore 6, 2) := by decide +kernel
theorem d3_12 : decode prog_15_method_10_code 12 = .ok (.iconst 0, 1) := by decide +kernel
theorem d3_13 : decode prog_15_method_10_code 13 = .ok (.istore 7, 2) := by decide +kernel
theorem d3_15 : decode prog_15_method_10_code 15 = .ok (.iload 7, 2) := by decide +kernel
theorem d3_17 : decode prog_15_method_10_code 17 = .ok (.iload 6, 2) := by decide +kernel
theorem d3_19 : decode prog_15_method_10_code 19 = .ok (.if_icmp .ge 29, 3) := by decide +kernel
theorem d3_48 : decode prog_15_method_10_code 48 = .ok (.lload_n 3, 1) := by decide +kernel
theorem d3_49 : decode prog_15_method_10_code 49 = .ok (.ldc2_w 294, 3) := by decide +kernel
theorem d3_52 : decode prog_15_method_10_code 52 = .ok (.ldiv, 1) := by decide +kernel
theorem d3_53 : decode prog_15_method_10_code 53 = .ok (.getstatic 296, 3) := by decide +kernel
theorem d3_56 : decode prog_15_method_10_code 56 = .ok (.ladd, 1) := by decide +kernel
theorem d3_57 : decode prog_15_method_10_code 57 = .ok (.lstore 5, 2) := by decide +kernel
theorem d3_59 : decode prog_15_method_10_code 59 = .ok (.lload_n 3, 1) := by decide +kernel
theorem d3_60 : decode prog_15_method_10_code 60 = .ok (.lload_n 1, 1) := by decide +kernel
theorem d3_61 : decode prog_15_method_10_code 61 = .ok (.lsub, 1) := by decide +kernel
theorem d3_62 : decode prog_15_method_10_code 62 = .ok (.lload 5, 2) := by decide +kernel
theorem d3_64 : decode prog_15_method_10_code 64 = .ok (.lsub, 1) := by decide +kernel
theorem d3_65 : decode prog_15_method_10_code 65 = .ok (.lreturn, 1) := by decide +kernel
theorem pnm_2 : plainName "com/example/portunus/portunus/MultiServerLock" = true := by first | (simp [plainName, overriddenIn]; done) | decide +kernel
theorem ef_rm3_0 (m : MethodId) (a1 : Addr) (qt : Int64) : entryFrame m #[(.ref a1), (.long qt)] 10 = mkF m 0 #[.val (.ref a1), .val (.long qt), .second, .unset, .unset, .unset, .unset, .unset, .unset, .unset] [] := by first | (simp [entryFrame, mkF, argsToLocals, Value.category]; done) | rfl
set_option maxRecDepth 65536 in
set_option maxHeartbeats 40000000 in
theorem rm3_0 (l : Launch) (Z : State) (a0 : Array Value) (hw : ∀ d ∈ tables_1, d.before a0 Z = true) (ws : List Jvm.Cond) (a1 : Addr) (qt : Int64) (kc : ClassId) (w_MS : Addr) (h0 : Heap) (n0 : Nat) (Z0 : n0 ≤ h0.size) (V_a : Arv Z h0 a1 kc .long (0 : Int32) [] (.long (0 : Int64))) (S_MS : Sta Z h0 "java/util/concurrent/TimeUnit" "MILLISECONDS" "Ljava/util/concurrent/TimeUnit;" (.ref w_MS)) (E_MS : Exa Z h0 w_MS "java/util/concurrent/TimeUnit") (F_scale : Fld Z h0 w_MS "java/util/concurrent/TimeUnit" "scale" "J" (.long (1000000 : Int64))) (F_max : Fld Z h0 w_MS "java/util/concurrent/TimeUnit" "maxNanos" "J" (.long (9223372036854 : Int64))) (S_RND : Sta Z h0 "com/example/portunus/portunus/MultiServerLock" "ROUNDING_NANOS" "J" (.long (2000000 : Int64))) (r : Int64) (hr0 : r = (((9223372036854775807 : Int64) - qt) - (((9223372036854775807 : Int64) / (100 : Int64)) + (2000000 : Int64)))) :
    MetFree l (⟨"com/example/portunus/portunus/MultiServerLock", "validityNanos", "([JJ)J"⟩ : MethodName) (head1 (Jvm.Cond.code (⟨"com/example/portunus/portunus/MultiServerLock", "validityNanos", "([JJ)J"⟩ : MethodName) prog_15_method_10_code 10 (some .long) :: ws) ({ frames := 0, cells := 0, slots := 0, locals := 0 } : Room)) (fun a U => a = #[(.ref a1), (.long qt)] ∧ Z.Warmed39 U.vm ∧ U.heap = h0) (fun _ _ _ _ _ => True) (fun _ U o U' => ∃ v L, o = .returned v ∧ QP (.long r) h0 n0 v U'.heap L ∧ FrameEnd U o U' L ({ frames := 0, cells := 0, slots := 0, locals := 0 } : Room).cells ({ frames := 0, cells := 0, slots := 0, locals := 0 } : Room).slots) := by
  rw [hr0]
  refine MetFree.of_bodySF (plainFor_of_name pnm_2) hisR ?_
  intro p e s m args below meth c s₁ Bd hml0 hP hK
  obtain ⟨rfl, hZ, hh⟩ := hP
  have hx := Bd.exec
  have hby := Bd.bytes
  have hml : c.maxLocals = 10 := hml0
  have hown : s.vm.findClass "com/example/portunus/portunus/MultiServerLock" = some m.cls := findClass_of_methodNamed Bd.named
  have hnm := (name_of_methodNamed Bd.named Bd.method).1
  have X0 : Stand p l e ({ frames := 0, cells := 0, slots := 0, locals := 0 } : Room) s m #[(.ref a1), (.long qt)] below meth c s₁ [] 0 0 := Stand.of_body Bd
  have e0 : s₁.heap = h0 := by rw [← hh, Bd.state]; rfl
  have N0 := Fr.nil n0
  have pre0 : ∀ t, Steps p.tables e below (s₁.setTop (mkF m 0 #[.val (.ref a1), .val (.long qt), .second, .unset, .unset, .unset, .unset, .unset, .unset, .unset] [])) t → Steps p.tables e below (s₁.setTop (entryFrame m #[(.ref a1), (.long qt)] 10)) t := fun t k => castTop (ef_rm3_0 m a1 qt) k
  obtain ⟨cl_a1_9_1, Ar_a1_9_1, -, S_a1_9_1, N_a1_9_1, -, -⟩ := id V_a
  obtain ⟨T2, X2, e2, st2⟩ := getS2 X0 hx hZ hown (host := "") (Or.inl (hw _ (List.mem_of_getElem? (i := 34) rfl))) Via.refl e0 S_RND (g := (mkF m 53 #[.val (.ref a1), .val (.long qt), .second, .val (.long (9223372036854775807 : Int64)), .second, .val (.ref a1), .val (.int (0 : Int32)), .val (.int (0 : Int32)), .unset, .unset] [(.long ((9223372036854775807 : Int64) / (100 : Int64)))])) rfl (hb hby d3_53)
  obtain ⟨fs, hr, hrun, hended, hW, hsame⟩ := X2.leave (v := some (.long (((9223372036854775807 : Int64) - qt) - (((9223372036854775807 : Int64) / (100 : Int64)) + (2000000 : Int64))))) (fun h => by rw [Bd.returns] at h; cases h)
  refine ⟨_, _, pre0 _ ?_, hrun, hended, _, _, rfl, ?_, ⟨_, rfl⟩, hW, hsame.mono (by decide) (by decide)⟩
  · show Steps p.tables e below (s₁.setTop (mkF m 0 #[.val (.ref a1), .val (.long qt), .second, .unset, .unset, .unset, .unset, .unset, .unset, .unset] [])) _
    refine X0.ldc2Long hx hown (mvT hZ (hw _ (List.mem_of_getElem? (i := 19) rfl))) (g := (mkF m 0 #[.val (.ref a1), .val (.long qt), .second, .unset, .unset, .unset, .unset, .unset, .unset, .unset] [])) rfl (hb hby d3_0) _ ?_
    show Steps p.tables e below (s₁.setTop (mkF m 3 #[.val (.ref a1), .val (.long qt), .second, .unset, .unset, .unset, .unset, .unset, .unset, .unset] [(.long (9223372036854775807 : Int64))])) _
    refine XS.lstoreN X0.here hx rfl (hb hby d3_3) rfl (l' := #[.val (.ref a1), .val (.long qt), .second, .val (.long (9223372036854775807 : Int64)), .second, .unset, .unset, .unset, .unset, .unset]) rfl ?_
    show Steps p.tables e below (s₁.setTop (mkF m 4 #[.val (.ref a1), .val (.long qt), .second, .val (.long (9223372036854775807 : Int64)), .second, .unset, .unset, .unset, .unset, .unset] [])) _
    refine XS.aloadN X0.here hx rfl (hb hby d3_4) rfl rfl ?_
    show Steps p.tables e below (s₁.setTop (mkF m 5 #[.val (.ref a1), .val (.long qt), .second, .val (.long (9223372036854775807 : Int64)), .second, .unset, .unset, .unset, .unset, .unset] [(.ref a1)])) _
    refine XS.astore X0.here hx rfl (hb hby d3_5) rfl rfl (l' := #[.val (.ref a1), .val (.long qt), .second, .val (.long (9223372036854775807 : Int64)), .second, .val (.ref a1), .unset, .unset, .unset, .unset]) rfl ?_
    show Steps p.tables e below (s₁.setTop (mkF m 7 #[.val (.ref a1), .val (.long qt), .second, .val (.long (9223372036854775807 : Int64)), .second, .val (.ref a1), .unset, .unset, .unset, .unset] [])) _
    refine XS.aload X0.here hx rfl (hb hby d3_7) rfl rfl ?_
    show Steps p.tables e below (s₁.setTop (mkF m 9 #[.val (.ref a1), .val (.long qt), .second, .val (.long (9223372036854775807 : Int64)), .second, .val (.ref a1), .unset, .unset, .unset, .unset] [(.ref a1)])) _
    refine X0.arraylength hx (by rw [e0]; exact Ar_a1_9_1.1) (State.isArrayOf_alike hZ.alike Ar_a1_9_1.2.1) (g := (mkF m 9 #[.val (.ref a1), .val (.long qt), .second, .val (.long (9223372036854775807 : Int64)), .second, .val (.ref a1), .unset, .unset, .unset, .unset] [(.ref a1)])) rfl rfl (hb hby d3_9) _ ?_
    rw [len_of S_a1_9_1 N_a1_9_1]
    show Steps p.tables e below (s₁.setTop (mkF m 10 #[.val (.ref a1), .val (.long qt), .second, .val (.long (9223372036854775807 : Int64)), .second, .val (.ref a1), .unset, .unset, .unset, .unset] [(.int (0 : Int32))])) _
    refine XS.istore X0.here hx rfl (hb hby d3_10) rfl (l' := #[.val (.ref a1), .val (.long qt), .second, .val (.long (9223372036854775807 : Int64)), .second, .val (.ref a1), .val (.int (0 : Int32)), .unset, .unset, .unset]) rfl ?_
    show Steps p.tables e below (s₁.setTop (mkF m 12 #[.val (.ref a1), .val (.long qt), .second, .val (.long (9223372036854775807 : Int64)), .second, .val (.ref a1), .val (.int (0 : Int32)), .unset, .unset, .unset] [])) _
    refine XS.iconst X0.here hx rfl (hb hby d3_12) ?_
    show Steps p.tables e below (s₁.setTop (mkF m 13 #[.val (.ref a1), .val (.long qt), .second, .val (.long (9223372036854775807 : Int64)), .second, .val (.ref a1), .val (.int (0 : Int32)), .unset, .unset, .unset] [(.int (0 : Int32))])) _
    refine XS.istore X0.here hx rfl (hb hby d3_13) rfl (l' := #[.val (.ref a1), .val (.long qt), .second, .val (.long (9223372036854775807 : Int64)), .second, .val (.ref a1), .val (.int (0 : Int32)), .val (.int (0 : Int32)), .unset, .unset]) rfl ?_
    show Steps p.tables e below (s₁.setTop (mkF m 15 #[.val (.ref a1), .val (.long qt), .second, .val (.long (9223372036854775807 : Int64)), .second, .val (.ref a1), .val (.int (0 : Int32)), .val (.int (0 : Int32)), .unset, .unset] [])) _
    refine XS.iload X0.here hx rfl (hb hby d3_15) rfl ?_
    show Steps p.tables e below (s₁.setTop (mkF m 17 #[.val (.ref a1), .val (.long qt), .second, .val (.long (9223372036854775807 : Int64)), .second, .val (.ref a1), .val (.int (0 : Int32)), .val (.int (0 : Int32)), .unset, .unset] [(.int (0 : Int32))])) _
    refine XS.iload X0.here hx rfl (hb hby d3_17) rfl ?_
    show Steps p.tables e below (s₁.setTop (mkF m 19 #[.val (.ref a1), .val (.long qt), .second, .val (.long (9223372036854775807 : Int64)), .second, .val (.ref a1), .val (.int (0 : Int32)), .val (.int (0 : Int32)), .unset, .unset] [(.int (0 : Int32)), (.int (0 : Int32))])) _
    refine XS.icmpYes X0.here hx rfl (pc0 := 19) (pc' := 48) rfl (hb hby d3_19) rfl (flt (by decide : ¬ ((0 : Int32) < (0 : Int32)))).2.1 (by decide) (by decide) ?_
    show Steps p.tables e below (s₁.setTop (mkF m 48 #[.val (.ref a1), .val (.long qt), .second, .val (.long (9223372036854775807 : Int64)), .second, .val (.ref a1), .val (.int (0 : Int32)), .val (.int (0 : Int32)), .unset, .unset] [])) _
    refine XS.lloadN X0.here hx rfl (hb hby d3_48) rfl ?_
    show Steps p.tables e below (s₁.setTop (mkF m 49 #[.val (.ref a1), .val (.long qt), .second, .val (.long (9223372036854775807 : Int64)), .second, .val (.ref a1), .val (.int (0 : Int32)), .val (.int (0 : Int32)), .unset, .unset] [(.long (9223372036854775807 : Int64))])) _
    refine X0.ldc2Long hx hown (mvT hZ (hw _ (List.mem_of_getElem? (i := 33) rfl))) (g := (mkF m 49 #[.val (.ref a1), .val (.long qt), .second, .val (.long (9223372036854775807 : Int64)), .second, .val (.ref a1), .val (.int (0 : Int32)), .val (.int (0 : Int32)), .unset, .unset] [(.long (9223372036854775807 : Int64))])) rfl (hb hby d3_49) _ ?_
    show Steps p.tables e below (s₁.setTop (mkF m 52 #[.val (.ref a1), .val (.long qt), .second, .val (.long (9223372036854775807 : Int64)), .second, .val (.ref a1), .val (.int (0 : Int32)), .val (.int (0 : Int32)), .unset, .unset] [(.long (100 : Int64)), (.long (9223372036854775807 : Int64))])) _
    refine XS.ldiv X0.here hx rfl (hb hby d3_52) rfl (by decide) ?_
    show Steps p.tables e below (s₁.setTop (mkF m 53 #[.val (.ref a1), .val (.long qt), .second, .val (.long (9223372036854775807 : Int64)), .second, .val (.ref a1), .val (.int (0 : Int32)), .val (.int (0 : Int32)), .unset, .unset] [(.long ((9223372036854775807 : Int64) / (100 : Int64)))])) _
    refine st2 _ ?_
    show Steps p.tables e below (T2.setTop (mkF m 56 #[.val (.ref a1), .val (.long qt), .second, .val (.long (9223372036854775807 : Int64)), .second, .val (.ref a1), .val (.int (0 : Int32)), .val (.int (0 : Int32)), .unset, .unset] [(.long (2000000 : Int64)), (.long ((9223372036854775807 : Int64) / (100 : Int64)))])) _
    refine XS.ladd X2.here hx rfl (hb hby d3_56) rfl ?_
    show Steps p.tables e below (T2.setTop (mkF m 57 #[.val (.ref a1), .val (.long qt), .second, .val (.long (9223372036854775807 : Int64)), .second, .val (.ref a1), .val (.int (0 : Int32)), .val (.int (0 : Int32)), .unset, .unset] [(.long (((9223372036854775807 : Int64) / (100 : Int64)) + (2000000 : Int64)))])) _
    refine XS.lstore X2.here hx rfl (hb hby d3_57) rfl (l' := #[.val (.ref a1), .val (.long qt), .second, .val (.long (9223372036854775807 : Int64)), .second, .val (.long (((9223372036854775807 : Int64) / (100 : Int64)) + (2000000 : Int64))), .second, .val (.int (0 : Int32)), .unset, .unset]) rfl ?_
    show Steps p.tables e below (T2.setTop (mkF m 59 #[.val (.ref a1), .val (.long qt), .second, .val (.long (9223372036854775807 : Int64)), .second, .val (.long (((9223372036854775807 : Int64) / (100 : Int64)) + (2000000 : Int64))), .second, .val (.int (0 : Int32)), .unset, .unset] [])) _
    refine XS.lloadN X2.here hx rfl (hb hby d3_59) rfl ?_
    show Steps p.tables e below (T2.setTop (mkF m 60 #[.val (.ref a1), .val (.long qt), .second, .val (.long (9223372036854775807 : Int64)), .second, .val (.long (((9223372036854775807 : Int64) / (100 : Int64)) + (2000000 : Int64))), .second, .val (.int (0 : Int32)), .unset, .unset] [(.long (9223372036854775807 : Int64))])) _
    refine XS.lloadN X2.here hx rfl (hb hby d3_60) rfl ?_
    show Steps p.tables e below (T2.setTop (mkF m 61 #[.val (.ref a1), .val (.long qt), .second, .val (.long (9223372036854775807 : Int64)), .second, .val (.long (((9223372036854775807 : Int64) / (100 : Int64)) + (2000000 : Int64))), .second, .val (.int (0 : Int32)), .unset, .unset] [(.long qt), (.long (9223372036854775807 : Int64))])) _
    refine XS.lsub X2.here hx rfl (hb hby d3_61) rfl ?_
    show Steps p.tables e below (T2.setTop (mkF m 62 #[.val (.ref a1), .val (.long qt), .second, .val (.long (9223372036854775807 : Int64)), .second, .val (.long (((9223372036854775807 : Int64) / (100 : Int64)) + (2000000 : Int64))), .second, .val (.int (0 : Int32)), .unset, .unset] [(.long ((9223372036854775807 : Int64) - qt))])) _
    refine XS.lload X2.here hx rfl (hb hby d3_62) rfl ?_
    show Steps p.tables e below (T2.setTop (mkF m 64 #[.val (.ref a1), .val (.long qt), .second, .val (.long (9223372036854775807 : Int64)), .second, .val (.long (((9223372036854775807 : Int64) / (100 : Int64)) + (2000000 : Int64))), .second, .val (.int (0 : Int32)), .unset, .unset] [(.long (((9223372036854775807 : Int64) / (100 : Int64)) + (2000000 : Int64))), (.long ((9223372036854775807 : Int64) - qt))])) _
    refine XS.lsub X2.here hx rfl (hb hby d3_64) rfl ?_
    show Steps p.tables e below (T2.setTop (mkF m 65 #[.val (.ref a1), .val (.long qt), .second, .val (.long (9223372036854775807 : Int64)), .second, .val (.long (((9223372036854775807 : Int64) / (100 : Int64)) + (2000000 : Int64))), .second, .val (.int (0 : Int32)), .unset, .unset] [(.long (((9223372036854775807 : Int64) - qt) - (((9223372036854775807 : Int64) / (100 : Int64)) + (2000000 : Int64))))])) _
    exact retOut X2 hx Bd.returns rfl (Or.inr (Or.inl ⟨rfl, rfl, _, rfl⟩)) (hb hby d3_65) hr
  · show QP (.long (((9223372036854775807 : Int64) - qt) - (((9223372036854775807 : Int64) / (100 : Int64)) + (2000000 : Int64)))) h0 n0 _ T2.heap _
    rw [e2]
    exact ⟨rfl, N0, rfl⟩
theorem d3_22 : decode prog_15_method_10_code 22 = .ok (.aload 5, 2) := by decide +kernel
theorem d3_24 : decode prog_15_method_10_code 24 = .ok (.iload 7, 2) := by decide +kernel
theorem d3_26 : decode prog_15_method_10_code 26 = .ok (.laload, 1) := by decide +kernel
theorem d3_27 : decode prog_15_method_10_code 27 = .ok (.lstore 8, 2) := by decide +kernel
theorem d3_29 : decode prog_15_method_10_code 29 = .ok (.lload_n 3, 1) := by decide +kernel
theorem d3_30 : decode prog_15_method_10_code 30 = .ok (.getstatic 287, 3) := by decide +kernel
theorem d3_33 : decode prog_15_method_10_code 33 = .ok (.lload 8, 2) := by decide +kernel
theorem d3_35 : decode prog_15_method_10_code 35 = .ok (.invokevirtual 290, 3) := by decide +kernel
theorem pdm_0 : parseMethodDescriptor "(J)J" = some ⟨[.long], some .long⟩ := by decide +kernel
theorem d3_38 : decode prog_15_method_10_code 38 = .ok (.invokestatic 134, 3) := by decide +kernel
theorem pdm_1 : parseMethodDescriptor "(JJ)J" = some ⟨[.long, .long], some .long⟩ := by decide +kernel
theorem d3_41 : decode prog_15_method_10_code 41 = .ok (.lstore_n 3, 1) := by decide +kernel
theorem d3_42 : decode prog_15_method_10_code 42 = .ok (.iinc 7 1, 3) := by decide +kernel
theorem d3_45 : decode prog_15_method_10_code 45 = .ok (.goto (-30), 3) := by decide +kernel
theorem ef_rm3_1 (m : MethodId) (a1 : Addr) (qt : Int64) : entryFrame m #[(.ref a1), (.long qt)] 10 = mkF m 0 #[.val (.ref a1), .val (.long qt), .second, .unset, .unset, .unset, .unset, .unset, .unset, .unset] [] := by first | (simp [entryFrame, mkF, argsToLocals, Value.category]; done) | rfl
set_option maxRecDepth 65536 in
set_option maxHeartbeats 40000000 in
theorem rm3_1 (l : Launch) (Z : State) (a0 : Array Value) (hw : ∀ d ∈ tables_1, d.before a0 Z = true) (ws : List Jvm.Cond) (a1 : Addr) (qt : Int64) (x0 : Int64) (kc : ClassId) (w_MS : Addr) (h0 : Heap) (n0 : Nat) (Z0 : n0 ≤ h0.size) (V_a : Arv Z h0 a1 kc .long (1 : Int32) [(.long x0)] (.long (0 : Int64))) (S_MS : Sta Z h0 "java/util/concurrent/TimeUnit" "MILLISECONDS" "Ljava/util/concurrent/TimeUnit;" (.ref w_MS)) (E_MS : Exa Z h0 w_MS "java/util/concurrent/TimeUnit") (F_scale : Fld Z h0 w_MS "java/util/concurrent/TimeUnit" "scale" "J" (.long (1000000 : Int64))) (F_max : Fld Z h0 w_MS "java/util/concurrent/TimeUnit" "maxNanos" "J" (.long (9223372036854 : Int64))) (S_RND : Sta Z h0 "com/example/portunus/portunus/MultiServerLock" "ROUNDING_NANOS" "J" (.long (2000000 : Int64))) (r : Int64) (hr0 : r = (((own_min (9223372036854775807 : Int64) (own_nan x0)) - qt) - (((own_min (9223372036854775807 : Int64) (own_nan x0)) / (100 : Int64)) + (2000000 : Int64)))) :
    MetFree l (⟨"com/example/portunus/portunus/MultiServerLock", "validityNanos", "([JJ)J"⟩ : MethodName) (head1 (Jvm.Cond.code (⟨"com/example/portunus/portunus/MultiServerLock", "validityNanos", "([JJ)J"⟩ : MethodName) prog_15_method_10_code 10 (some .long) :: ws) ({ frames := 1, cells := 0, slots := 0, locals := 20 } : Room)) (fun a U => a = #[(.ref a1), (.long qt)] ∧ Z.Warmed39 U.vm ∧ U.heap = h0) (fun _ _ _ _ _ => True) (fun _ U o U' => ∃ v L, o = .returned v ∧ QP (.long r) h0 n0 v U'.heap L ∧ FrameEnd U o U' L ({ frames := 1, cells := 0, slots := 0, locals := 20 } : Room).cells ({ frames := 1, cells := 0, slots := 0, locals := 20 } : Room).slots) := by
  rw [hr0]
  refine MetFree.of_bodySF (plainFor_of_name pnm_2) hisR ?_
  intro p e s m args below meth c s₁ Bd hml0 hP hK
  obtain ⟨rfl, hZ, hh⟩ := hP
  have hx := Bd.exec
  have hby := Bd.bytes
  have hml : c.maxLocals = 10 := hml0
  have hown : s.vm.findClass "com/example/portunus/portunus/MultiServerLock" = some m.cls := findClass_of_methodNamed Bd.named
  have hnm := (name_of_methodNamed Bd.named Bd.method).1
  have X0 : Stand p l e ({ frames := 1, cells := 0, slots := 0, locals := 20 } : Room) s m #[(.ref a1), (.long qt)] below meth c s₁ [] 0 0 := Stand.of_body Bd
  have e0 : s₁.heap = h0 := by rw [← hh, Bd.state]; rfl
  have N0 := Fr.nil n0
  have pre0 : ∀ t, Steps p.tables e below (s₁.setTop (mkF m 0 #[.val (.ref a1), .val (.long qt), .second, .unset, .unset, .unset, .unset, .unset, .unset, .unset] [])) t → Steps p.tables e below (s₁.setTop (entryFrame m #[(.ref a1), (.long qt)] 10)) t := fun t k => castTop (ef_rm3_1 m a1 qt) k
  obtain ⟨cl_a1_9_1, Ar_a1_9_1, -, S_a1_9_1, N_a1_9_1, -, -⟩ := id V_a
  obtain ⟨cl_a1_26_2, Ar_a1_26_2, q_a1_26_2, S_a1_26_2, N_a1_26_2, H_a1_26_2, G_a1_26_2⟩ := id V_a
  have hin_a1_26_2 : ¬ ((0 : Int32) < 0 ∨ cl_a1_26_2.slots.size ≤ ((0 : Int32)).toNatClampNeg) := inb_of S_a1_26_2 ⟨by decide, by decide⟩
  have hat_a1_26_2 : cl_a1_26_2.slots[((0 : Int32)).toNatClampNeg]? = some (.long x0) := Has.at H_a1_26_2 hin_a1_26_2 rfl
  obtain ⟨T3, X3, e3, st3⟩ := getS2 X0 hx hZ hown (host := "") (Or.inl (hw _ (List.mem_of_getElem? (i := 20) rfl))) Via.refl e0 S_MS (g := (mkF m 30 #[.val (.ref a1), .val (.long qt), .second, .val (.long (9223372036854775807 : Int64)), .second, .val (.ref a1), .val (.int (1 : Int32)), .val (.int (0 : Int32)), .val (.long x0), .second] [(.long (9223372036854775807 : Int64))])) rfl (hb hby d3_30)
  obtain ⟨cq4, kq4, q4a, q4b, q4c⟩ := isOf hZ e3 E_MS
  obtain ⟨_, _, ⟨T4, L4, k4, n4⟩, -, X4, ⟨Lc4, hQ4, l4, y4, z4⟩, st4⟩ := X3.virtualBack hx (y := (⟨"java/util/concurrent/TimeUnit", "toNanos", "(J)J"⟩ : MethodName)) (z := (⟨"java/util/concurrent/TimeUnit", "toNanos", "(J)J"⟩ : MethodName)) hown (mvT hZ (hw _ (List.mem_of_getElem? (i := 22) rfl))) (mvT hZ (hw _ (List.mem_of_getElem? (i := 23) rfl))) (notFace_of_selects (args := #[]) (mvT hZ (hw _ (List.mem_of_getElem? (i := 25) rfl)))) (mvT hZ (hw _ (List.mem_of_getElem? (i := 25) rfl))) (mvT hZ (hw _ (List.mem_of_getElem? (i := 24) rfl))) (by decide) (backOf (W := 2) (rm4 l Z a0 hw [] w_MS x0 h0 n0 Z0 F_scale F_max (own_nan x0) rfl) hZ (hw _ (List.mem_of_getElem? (i := 26) rfl)) (hw _ (List.mem_of_getElem? (i := 21) rfl)) (by decide) (by decide)) q4a q4c (g := (mkF m 35 #[.val (.ref a1), .val (.long qt), .second, .val (.long (9223372036854775807 : Int64)), .second, .val (.ref a1), .val (.int (1 : Int32)), .val (.int (0 : Int32)), .val (.long x0), .second] [(.long x0), (.ref w_MS), (.long (9223372036854775807 : Int64))])) rfl (by rw [hml]; rfl) (Steps.refl _) (argsL := [(.long x0)]) (rest := [(.long (9223372036854775807 : Int64))]) (lenOf pdm_0 rfl) rfl (by show 2 * 0 + _ ≤ _; exact Nat.le_of_eq rfl) (hb hby d3_35) (fun _ _ => ⟨rfl, e3, (by decide : 0 + 0 ≤ _), (by decide : 0 + 0 ≤ _)⟩)
  dsimp only [Pt.U, Pt.locs, Pt.cells, Pt.slots] at X4 l4 y4 z4 st4 hQ4
  subst l4 y4 z4
  obtain ⟨rfl, N4q, e4⟩ := hQ4
  have N4 := Fr.app N0 N4q
  obtain ⟨_, _, ⟨T5, L5, k5, n5⟩, -, X5, ⟨Lc5, hQ5, l5, y5, z5⟩, st5⟩ := Jvm.LawKit.callS X4 hx (y := (⟨"java/lang/Math", "min", "(JJ)J"⟩ : MethodName)) hown (mvT hZ (hw _ (List.mem_of_getElem? (i := 31) rfl))) (mvT hZ (hw _ (List.mem_of_getElem? (i := 10) rfl))) (mvT hZ (hw _ (List.mem_of_getElem? (i := 11) rfl))) (mvT hZ (hw _ (List.mem_of_getElem? (i := 12) rfl))) (by decide) (backOf (W := 0) (rm2 l Z a0 hw [] (9223372036854775807 : Int64) (own_nan x0) h0 n0 Z0 (own_min (9223372036854775807 : Int64) (own_nan x0)) rfl) hZ (hw _ (List.mem_of_getElem? (i := 12) rfl)) (hw _ (List.mem_of_getElem? (i := 11) rfl)) (by decide) (by decide)) (g := (mkF m 38 #[.val (.ref a1), .val (.long qt), .second, .val (.long (9223372036854775807 : Int64)), .second, .val (.ref a1), .val (.int (1 : Int32)), .val (.int (0 : Int32)), .val (.long x0), .second] [(.long (own_nan x0)), (.long (9223372036854775807 : Int64))])) rfl (by rw [hml]; rfl) (argsL := [(.long (9223372036854775807 : Int64)), (.long (own_nan x0))]) (rest := []) (lenOf pdm_1 rfl) rfl (by show 2 * 0 + _ ≤ _; exact Nat.le_of_eq rfl) (hb hby d3_38) (fun _ _ => ⟨rfl, e4, (by decide : 0 + 0 ≤ _), (by decide : 0 + 0 ≤ _)⟩)
  dsimp only [Pt.U, Pt.locs, Pt.cells, Pt.slots] at X5 l5 y5 z5 st5 hQ5
  subst l5 y5 z5
  obtain ⟨rfl, N5q, e5⟩ := hQ5
  have N5 := Fr.app N4 N5q
  obtain ⟨T6, X6, e6, st6⟩ := getS2 X5 hx hZ hown (host := "") (Or.inl (hw _ (List.mem_of_getElem? (i := 34) rfl))) Via.refl e5 S_RND (g := (mkF m 53 #[.val (.ref a1), .val (.long qt), .second, .val (.long (own_min (9223372036854775807 : Int64) (own_nan x0))), .second, .val (.ref a1), .val (.int (1 : Int32)), .val (.int (1 : Int32)), .val (.long x0), .second] [(.long ((own_min (9223372036854775807 : Int64) (own_nan x0)) / (100 : Int64)))])) rfl (hb hby d3_53)
  obtain ⟨fs, hr, hrun, hended, hW, hsame⟩ := X6.leave (v := some (.long (((own_min (9223372036854775807 : Int64) (own_nan x0)) - qt) - (((own_min (9223372036854775807 : Int64) (own_nan x0)) / (100 : Int64)) + (2000000 : Int64))))) (fun h => by rw [Bd.returns] at h; cases h)
  refine ⟨_, _, pre0 _ ?_, hrun, hended, _, _, rfl, ?_, ⟨_, rfl⟩, hW, hsame.mono (by decide) (by decide)⟩
  · show Steps p.tables e below (s₁.setTop (mkF m 0 #[.val (.ref a1), .val (.long qt), .second, .unset, .unset, .unset, .unset, .unset, .unset, .unset] [])) _
    refine X0.ldc2Long hx hown (mvT hZ (hw _ (List.mem_of_getElem? (i := 19) rfl))) (g := (mkF m 0 #[.val (.ref a1), .val (.long qt), .second, .unset, .unset, .unset, .unset, .unset, .unset, .unset] [])) rfl (hb hby d3_0) _ ?_
    show Steps p.tables e below (s₁.setTop (mkF m 3 #[.val (.ref a1), .val (.long qt), .second, .unset, .unset, .unset, .unset, .unset, .unset, .unset] [(.long (9223372036854775807 : Int64))])) _
    refine XS.lstoreN X0.here hx rfl (hb hby d3_3) rfl (l' := #[.val (.ref a1), .val (.long qt), .second, .val (.long (9223372036854775807 : Int64)), .second, .unset, .unset, .unset, .unset, .unset]) rfl ?_
    show Steps p.tables e below (s₁.setTop (mkF m 4 #[.val (.ref a1), .val (.long qt), .second, .val (.long (9223372036854775807 : Int64)), .second, .unset, .unset, .unset, .unset, .unset] [])) _
    refine XS.aloadN X0.here hx rfl (hb hby d3_4) rfl rfl ?_
    show Steps p.tables e below (s₁.setTop (mkF m 5 #[.val (.ref a1), .val (.long qt), .second, .val (.long (9223372036854775807 : Int64)), .second, .unset, .unset, .unset, .unset, .unset] [(.ref a1)])) _
    refine XS.astore X0.here hx rfl (hb hby d3_5) rfl rfl (l' := #[.val (.ref a1), .val (.long qt), .second, .val (.long (9223372036854775807 : Int64)), .second, .val (.ref a1), .unset, .unset, .unset, .unset]) rfl ?_
    show Steps p.tables e below (s₁.setTop (mkF m 7 #[.val (.ref a1), .val (.long qt), .second, .val (.long (9223372036854775807 : Int64)), .second, .val (.ref a1), .unset, .unset, .unset, .unset] [])) _
    refine XS.aload X0.here hx rfl (hb hby d3_7) rfl rfl ?_
    show Steps p.tables e below (s₁.setTop (mkF m 9 #[.val (.ref a1), .val (.long qt), .second, .val (.long (9223372036854775807 : Int64)), .second, .val (.ref a1), .unset, .unset, .unset, .unset] [(.ref a1)])) _
    refine X0.arraylength hx (by rw [e0]; exact Ar_a1_9_1.1) (State.isArrayOf_alike hZ.alike Ar_a1_9_1.2.1) (g := (mkF m 9 #[.val (.ref a1), .val (.long qt), .second, .val (.long (9223372036854775807 : Int64)), .second, .val (.ref a1), .unset, .unset, .unset, .unset] [(.ref a1)])) rfl rfl (hb hby d3_9) _ ?_
    rw [len_of S_a1_9_1 N_a1_9_1]
    show Steps p.tables e below (s₁.setTop (mkF m 10 #[.val (.ref a1), .val (.long qt), .second, .val (.long (9223372036854775807 : Int64)), .second, .val (.ref a1), .unset, .unset, .unset, .unset] [(.int (1 : Int32))])) _
    refine XS.istore X0.here hx rfl (hb hby d3_10) rfl (l' := #[.val (.ref a1), .val (.long qt), .second, .val (.long (9223372036854775807 : Int64)), .second, .val (.ref a1), .val (.int (1 : Int32)), .unset, .unset, .unset]) rfl ?_
    show Steps p.tables e below (s₁.setTop (mkF m 12 #[.val (.ref a1), .val (.long qt), .second, .val (.long (9223372036854775807 : Int64)), .second, .val (.ref a1), .val (.int (1 : Int32)), .unset, .unset, .unset] [])) _
    refine XS.iconst X0.here hx rfl (hb hby d3_12) ?_
    show Steps p.tables e below (s₁.setTop (mkF m 13 #[.val (.ref a1), .val (.long qt), .second, .val (.long (9223372036854775807 : Int64)), .second, .val (.ref a1), .val (.int (1 : Int32)), .unset, .unset, .unset] [(.int (0 : Int32))])) _
    refine XS.istore X0.here hx rfl (hb hby d3_13) rfl (l' := #[.val (.ref a1), .val (.long qt), .second, .val (.long (9223372036854775807 : Int64)), .second, .val (.ref a1), .val (.int (1 : Int32)), .val (.int (0 : Int32)), .unset, .unset]) rfl ?_
    show Steps p.tables e below (s₁.setTop (mkF m 15 #[.val (.ref a1), .val (.long qt), .second, .val (.long (9223372036854775807 : Int64)), .second, .val (.ref a1), .val (.int (1 : Int32)), .val (.int (0 : Int32)), .unset, .unset] [])) _
    refine XS.iload X0.here hx rfl (hb hby d3_15) rfl ?_
    show Steps p.tables e below (s₁.setTop (mkF m 17 #[.val (.ref a1), .val (.long qt), .second, .val (.long (9223372036854775807 : Int64)), .second, .val (.ref a1), .val (.int (1 : Int32)), .val (.int (0 : Int32)), .unset, .unset] [(.int (0 : Int32))])) _
    refine XS.iload X0.here hx rfl (hb hby d3_17) rfl ?_
    show Steps p.tables e below (s₁.setTop (mkF m 19 #[.val (.ref a1), .val (.long qt), .second, .val (.long (9223372036854775807 : Int64)), .second, .val (.ref a1), .val (.int (1 : Int32)), .val (.int (0 : Int32)), .unset, .unset] [(.int (1 : Int32)), (.int (0 : Int32))])) _
    refine XS.icmpNo X0.here hx rfl (hb hby d3_19) rfl (tlt (by decide : (0 : Int32) < (1 : Int32))).2.1 ?_
    show Steps p.tables e below (s₁.setTop (mkF m 22 #[.val (.ref a1), .val (.long qt), .second, .val (.long (9223372036854775807 : Int64)), .second, .val (.ref a1), .val (.int (1 : Int32)), .val (.int (0 : Int32)), .unset, .unset] [])) _
    refine XS.aload X0.here hx rfl (hb hby d3_22) rfl rfl ?_
    show Steps p.tables e below (s₁.setTop (mkF m 24 #[.val (.ref a1), .val (.long qt), .second, .val (.long (9223372036854775807 : Int64)), .second, .val (.ref a1), .val (.int (1 : Int32)), .val (.int (0 : Int32)), .unset, .unset] [(.ref a1)])) _
    refine XS.iload X0.here hx rfl (hb hby d3_24) rfl ?_
    show Steps p.tables e below (s₁.setTop (mkF m 26 #[.val (.ref a1), .val (.long qt), .second, .val (.long (9223372036854775807 : Int64)), .second, .val (.ref a1), .val (.int (1 : Int32)), .val (.int (0 : Int32)), .unset, .unset] [(.int (0 : Int32)), (.ref a1)])) _
    refine X0.laload hx (j := (0 : Int32)) (v := (.long x0)) (by rw [e0]; exact Ar_a1_26_2.1) (State.isArrayOf_alike hZ.alike Ar_a1_26_2.2.1) Ar_a1_26_2.2.2 hin_a1_26_2 hat_a1_26_2 (g := (mkF m 26 #[.val (.ref a1), .val (.long qt), .second, .val (.long (9223372036854775807 : Int64)), .second, .val (.ref a1), .val (.int (1 : Int32)), .val (.int (0 : Int32)), .unset, .unset] [(.int (0 : Int32)), (.ref a1)])) rfl rfl (hb hby d3_26) _ ?_
    show Steps p.tables e below (s₁.setTop (mkF m 27 #[.val (.ref a1), .val (.long qt), .second, .val (.long (9223372036854775807 : Int64)), .second, .val (.ref a1), .val (.int (1 : Int32)), .val (.int (0 : Int32)), .unset, .unset] [(.long x0)])) _
    refine XS.lstore X0.here hx rfl (hb hby d3_27) rfl (l' := #[.val (.ref a1), .val (.long qt), .second, .val (.long (9223372036854775807 : Int64)), .second, .val (.ref a1), .val (.int (1 : Int32)), .val (.int (0 : Int32)), .val (.long x0), .second]) rfl ?_
    show Steps p.tables e below (s₁.setTop (mkF m 29 #[.val (.ref a1), .val (.long qt), .second, .val (.long (9223372036854775807 : Int64)), .second, .val (.ref a1), .val (.int (1 : Int32)), .val (.int (0 : Int32)), .val (.long x0), .second] [])) _
    refine XS.lloadN X0.here hx rfl (hb hby d3_29) rfl ?_
    show Steps p.tables e below (s₁.setTop (mkF m 30 #[.val (.ref a1), .val (.long qt), .second, .val (.long (9223372036854775807 : Int64)), .second, .val (.ref a1), .val (.int (1 : Int32)), .val (.int (0 : Int32)), .val (.long x0), .second] [(.long (9223372036854775807 : Int64))])) _
    refine st3 _ ?_
    show Steps p.tables e below (T3.setTop (mkF m 33 #[.val (.ref a1), .val (.long qt), .second, .val (.long (9223372036854775807 : Int64)), .second, .val (.ref a1), .val (.int (1 : Int32)), .val (.int (0 : Int32)), .val (.long x0), .second] [(.ref w_MS), (.long (9223372036854775807 : Int64))])) _
    refine XS.lload X3.here hx rfl (hb hby d3_33) rfl ?_
    show Steps p.tables e below (T3.setTop (mkF m 35 #[.val (.ref a1), .val (.long qt), .second, .val (.long (9223372036854775807 : Int64)), .second, .val (.ref a1), .val (.int (1 : Int32)), .val (.int (0 : Int32)), .val (.long x0), .second] [(.long x0), (.ref w_MS), (.long (9223372036854775807 : Int64))])) _
    refine st4.trans ?_
    show Steps p.tables e below (T4.setTop (mkF m 38 #[.val (.ref a1), .val (.long qt), .second, .val (.long (9223372036854775807 : Int64)), .second, .val (.ref a1), .val (.int (1 : Int32)), .val (.int (0 : Int32)), .val (.long x0), .second] [(.long (own_nan x0)), (.long (9223372036854775807 : Int64))])) _
    refine st5 _ ?_
    show Steps p.tables e below (T5.setTop (mkF m 41 #[.val (.ref a1), .val (.long qt), .second, .val (.long (9223372036854775807 : Int64)), .second, .val (.ref a1), .val (.int (1 : Int32)), .val (.int (0 : Int32)), .val (.long x0), .second] [(.long (own_min (9223372036854775807 : Int64) (own_nan x0)))])) _
    refine XS.lstoreN X5.here hx rfl (hb hby d3_41) rfl (l' := #[.val (.ref a1), .val (.long qt), .second, .val (.long (own_min (9223372036854775807 : Int64) (own_nan x0))), .second, .val (.ref a1), .val (.int (1 : Int32)), .val (.int (0 : Int32)), .val (.long x0), .second]) rfl ?_
    show Steps p.tables e below (T5.setTop (mkF m 42 #[.val (.ref a1), .val (.long qt), .second, .val (.long (own_min (9223372036854775807 : Int64) (own_nan x0))), .second, .val (.ref a1), .val (.int (1 : Int32)), .val (.int (0 : Int32)), .val (.long x0), .second] [])) _
    refine XS.iinc X5.here hx rfl (hb hby d3_42) rfl (l' := #[.val (.ref a1), .val (.long qt), .second, .val (.long (own_min (9223372036854775807 : Int64) (own_nan x0))), .second, .val (.ref a1), .val (.int (1 : Int32)), .val (.int (1 : Int32)), .val (.long x0), .second]) rfl ?_
    show Steps p.tables e below (T5.setTop (mkF m 45 #[.val (.ref a1), .val (.long qt), .second, .val (.long (own_min (9223372036854775807 : Int64) (own_nan x0))), .second, .val (.ref a1), .val (.int (1 : Int32)), .val (.int (1 : Int32)), .val (.long x0), .second] [])) _
    refine XS.goto X5.here hx rfl (pc0 := 45) (pc' := 15) rfl (hb hby d3_45) (by decide) (by decide) ?_
    show Steps p.tables e below (T5.setTop (mkF m 15 #[.val (.ref a1), .val (.long qt), .second, .val (.long (own_min (9223372036854775807 : Int64) (own_nan x0))), .second, .val (.ref a1), .val (.int (1 : Int32)), .val (.int (1 : Int32)), .val (.long x0), .second] [])) _
    refine XS.iload X5.here hx rfl (hb hby d3_15) rfl ?_
    show Steps p.tables e below (T5.setTop (mkF m 17 #[.val (.ref a1), .val (.long qt), .second, .val (.long (own_min (9223372036854775807 : Int64) (own_nan x0))), .second, .val (.ref a1), .val (.int (1 : Int32)), .val (.int (1 : Int32)), .val (.long x0), .second] [(.int (1 : Int32))])) _
    refine XS.iload X5.here hx rfl (hb hby d3_17) rfl ?_
    show Steps p.tables e below (T5.setTop (mkF m 19 #[.val (.ref a1), .val (.long qt), .second, .val (.long (own_min (9223372036854775807 : Int64) (own_nan x0))), .second, .val (.ref a1), .val (.int (1 : Int32)), .val (.int (1 : Int32)), .val (.long x0), .second] [(.int (1 : Int32)), (.int (1 : Int32))])) _
    refine XS.icmpYes X5.here hx rfl (pc0 := 19) (pc' := 48) rfl (hb hby d3_19) rfl (flt (by decide : ¬ ((1 : Int32) < (1 : Int32)))).2.1 (by decide) (by decide) ?_
    show Steps p.tables e below (T5.setTop (mkF m 48 #[.val (.ref a1), .val (.long qt), .second, .val (.long (own_min (9223372036854775807 : Int64) (own_nan x0))), .second, .val (.ref a1), .val (.int (1 : Int32)), .val (.int (1 : Int32)), .val (.long x0), .second] [])) _
    refine XS.lloadN X5.here hx rfl (hb hby d3_48) rfl ?_
    show Steps p.tables e below (T5.setTop (mkF m 49 #[.val (.ref a1), .val (.long qt), .second, .val (.long (own_min (9223372036854775807 : Int64) (own_nan x0))), .second, .val (.ref a1), .val (.int (1 : Int32)), .val (.int (1 : Int32)), .val (.long x0), .second] [(.long (own_min (9223372036854775807 : Int64) (own_nan x0)))])) _
    refine X5.ldc2Long hx hown (mvT hZ (hw _ (List.mem_of_getElem? (i := 33) rfl))) (g := (mkF m 49 #[.val (.ref a1), .val (.long qt), .second, .val (.long (own_min (9223372036854775807 : Int64) (own_nan x0))), .second, .val (.ref a1), .val (.int (1 : Int32)), .val (.int (1 : Int32)), .val (.long x0), .second] [(.long (own_min (9223372036854775807 : Int64) (own_nan x0)))])) rfl (hb hby d3_49) _ ?_
    show Steps p.tables e below (T5.setTop (mkF m 52 #[.val (.ref a1), .val (.long qt), .second, .val (.long (own_min (9223372036854775807 : Int64) (own_nan x0))), .second, .val (.ref a1), .val (.int (1 : Int32)), .val (.int (1 : Int32)), .val (.long x0), .second] [(.long (100 : Int64)), (.long (own_min (9223372036854775807 : Int64) (own_nan x0)))])) _
    refine XS.ldiv X5.here hx rfl (hb hby d3_52) rfl (by decide) ?_
    show Steps p.tables e below (T5.setTop (mkF m 53 #[.val (.ref a1), .val (.long qt), .second, .val (.long (own_min (9223372036854775807 : Int64) (own_nan x0))), .second, .val (.ref a1), .val (.int (1 : Int32)), .val (.int (1 : Int32)), .val (.long x0), .second] [(.long ((own_min (9223372036854775807 : Int64) (own_nan x0)) / (100 : Int64)))])) _
    refine st6 _ ?_
    show Steps p.tables e below (T6.setTop (mkF m 56 #[.val (.ref a1), .val (.long qt), .second, .val (.long (own_min (9223372036854775807 : Int64) (own_nan x0))), .second, .val (.ref a1), .val (.int (1 : Int32)), .val (.int (1 : Int32)), .val (.long x0), .second] [(.long (2000000 : Int64)), (.long ((own_min (9223372036854775807 : Int64) (own_nan x0)) / (100 : Int64)))])) _
    refine XS.ladd X6.here hx rfl (hb hby d3_56) rfl ?_
    show Steps p.tables e below (T6.setTop (mkF m 57 #[.val (.ref a1), .val (.long qt), .second, .val (.long (own_min (9223372036854775807 : Int64) (own_nan x0))), .second, .val (.ref a1), .val (.int (1 : Int32)), .val (.int (1 : Int32)), .val (.long x0), .second] [(.long (((own_min (9223372036854775807 : Int64) (own_nan x0)) / (100 : Int64)) + (2000000 : Int64)))])) _
    refine XS.lstore X6.here hx rfl (hb hby d3_57) rfl (l' := #[.val (.ref a1), .val (.long qt), .second, .val (.long (own_min (9223372036854775807 : Int64) (own_nan x0))), .second, .val (.long (((own_min (9223372036854775807 : Int64) (own_nan x0)) / (100 : Int64)) + (2000000 : Int64))), .second, .val (.int (1 : Int32)), .val (.long x0), .second]) rfl ?_
    show Steps p.tables e below (T6.setTop (mkF m 59 #[.val (.ref a1), .val (.long qt), .second, .val (.long (own_min (9223372036854775807 : Int64) (own_nan x0))), .second, .val (.long (((own_min (9223372036854775807 : Int64) (own_nan x0)) / (100 : Int64)) + (2000000 : Int64))), .second, .val (.int (1 : Int32)), .val (.long x0), .second] [])) _
    refine XS.lloadN X6.here hx rfl (hb hby d3_59) rfl ?_
    show Steps p.tables e below (T6.setTop (mkF m 60 #[.val (.ref a1), .val (.long qt), .second, .val (.long (own_min (9223372036854775807 : Int64) (own_nan x0))), .second, .val (.long (((own_min (9223372036854775807 : Int64) (own_nan x0)) / (100 : Int64)) + (2000000 : Int64))), .second, .val (.int (1 : Int32)), .val (.long x0), .second] [(.long (own_min (9223372036854775807 : Int64) (own_nan x0)))])) _
    refine XS.lloadN X6.here hx rfl (hb hby d3_60) rfl ?_
    show Steps p.tables e below (T6.setTop (mkF m 61 #[.val (.ref a1), .val (.long qt), .second, .val (.long (own_min (9223372036854775807 : Int64) (own_nan x0))), .second, .val (.long (((own_min (9223372036854775807 : Int64) (own_nan x0)) / (100 : Int64)) + (2000000 : Int64))), .second, .val (.int (1 : Int32)), .val (.long x0), .second] [(.long qt), (.long (own_min (9223372036854775807 : Int64) (own_nan x0)))])) _
    refine XS.lsub X6.here hx rfl (hb hby d3_61) rfl ?_
    show Steps p.tables e below (T6.setTop (mkF m 62 #[.val (.ref a1), .val (.long qt), .second, .val (.long (own_min (9223372036854775807 : Int64) (own_nan x0))), .second, .val (.long (((own_min (9223372036854775807 : Int64) (own_nan x0)) / (100 : Int64)) + (2000000 : Int64))), .second, .val (.int (1 : Int32)), .val (.long x0), .second] [(.long ((own_min (9223372036854775807 : Int64) (own_nan x0)) - qt))])) _
    refine XS.lload X6.here hx rfl (hb hby d3_62) rfl ?_
    show Steps p.tables e below (T6.setTop (mkF m 64 #[.val (.ref a1), .val (.long qt), .second, .val (.long (own_min (9223372036854775807 : Int64) (own_nan x0))), .second, .val (.long (((own_min (9223372036854775807 : Int64) (own_nan x0)) / (100 : Int64)) + (2000000 : Int64))), .second, .val (.int (1 : Int32)), .val (.long x0), .second] [(.long (((own_min (9223372036854775807 : Int64) (own_nan x0)) / (100 : Int64)) + (2000000 : Int64))), (.long ((own_min (9223372036854775807 : Int64) (own_nan x0)) - qt))])) _
    refine XS.lsub X6.here hx rfl (hb hby d3_64) rfl ?_
    show Steps p.tables e below (T6.setTop (mkF m 65 #[.val (.ref a1), .val (.long qt), .second, .val (.long (own_min (9223372036854775807 : Int64) (own_nan x0))), .second, .val (.long (((own_min (9223372036854775807 : Int64) (own_nan x0)) / (100 : Int64)) + (2000000 : Int64))), .second, .val (.int (1 : Int32)), .val (.long x0), .second] [(.long (((own_min (9223372036854775807 : Int64) (own_nan x0)) - qt) - (((own_min (9223372036854775807 : Int64) (own_nan x0)) / (100 : Int64)) + (2000000 : Int64))))])) _
    exact retOut X6 hx Bd.returns rfl (Or.inr (Or.inl ⟨rfl, rfl, _, rfl⟩)) (hb hby d3_65) hr
  · show QP (.long (((own_min (9223372036854775807 : Int64) (own_nan x0)) - qt) - (((own_min (9223372036854775807 : Int64) (own_nan x0)) / (100 : Int64)) + (2000000 : Int64)))) h0 n0 _ T6.heap _
    rw [e6]
    exact ⟨rfl, N5, rfl⟩
theorem ef_rm3_2 (m : MethodId) (a1 : Addr) (qt : Int64) : entryFrame m #[(.ref a1), (.long qt)] 10 = mkF m 0 #[.val (.ref a1), .val (.long qt), .second, .unset, .unset, .unset, .unset, .unset, .unset, .unset] [] := by first | (simp [entryFrame, mkF, argsToLocals, Value.category]; done) | rfl
set_option maxRecDepth 65536 in
set_option maxHeartbeats 40000000 in
theorem rm3_2 (l : Launch) (Z : State) (a0 : Array Value) (hw : ∀ d ∈ tables_1, d.before a0 Z = true) (ws : List Jvm.Cond) (a1 : Addr) (qt : Int64) (x0 : Int64) (x1 : Int64) (kc : ClassId) (w_MS : Addr) (h0 : Heap) (n0 : Nat) (Z0 : n0 ≤ h0.size) (V_a : Arv Z h0 a1 kc .long (2 : Int32) [(.long x0), (.long x1)] (.long (0 : Int64))) (S_MS : Sta Z h0 "java/util/concurrent/TimeUnit" "MILLISECONDS" "Ljava/util/concurrent/TimeUnit;" (.ref w_MS)) (E_MS : Exa Z h0 w_MS "java/util/concurrent/TimeUnit") (F_scale : Fld Z h0 w_MS "java/util/concurrent/TimeUnit" "scale" "J" (.long (1000000 : Int64))) (F_max : Fld Z h0 w_MS "java/util/concurrent/TimeUnit" "maxNanos" "J" (.long (9223372036854 : Int64))) (S_RND : Sta Z h0 "com/example/portunus/portunus/MultiServerLock" "ROUNDING_NANOS" "J" (.long (2000000 : Int64))) (r : Int64) (hr0 : r = (((own_min (own_min (9223372036854775807 : Int64) (own_nan x0)) (own_nan x1)) - qt) - (((own_min (own_min (9223372036854775807 : Int64) (own_nan x0)) (own_nan x1)) / (100 : Int64)) + (2000000 : Int64)))) :
    MetFree l (⟨"com/example/portunus/portunus/MultiServerLock", "validityNanos", "([JJ)J"⟩ : MethodName) (head1 (Jvm.Cond.code (⟨"com/example/portunus/portunus/MultiServerLock", "validityNanos", "([JJ)J"⟩ : MethodName) prog_15_method_10_code 10 (some .long) :: ws) ({ frames := 1, cells := 0, slots := 0, locals := 20 } : Room)) (fun a U => a = #[(.ref a1), (.long qt)] ∧ Z.Warmed39 U.vm ∧ U.heap = h0) (fun _ _ _ _ _ => True) (fun _ U o U' => ∃ v L, o = .returned v ∧ QP (.long r) h0 n0 v U'.heap L ∧ FrameEnd U o U' L ({ frames := 1, cells := 0, slots := 0, locals := 20 } : Room).cells ({ frames := 1, cells := 0, slots := 0, locals := 20 } : Room).slots) := by
  rw [hr0]
  refine MetFree.of_bodySF (plainFor_of_name pnm_2) hisR ?_
  intro p e s m args below meth c s₁ Bd hml0 hP hK
  obtain ⟨rfl, hZ, hh⟩ := hP
  have hx := Bd.exec
  have hby := Bd.bytes
  have hml : c.maxLocals = 10 := hml0
  have hown : s.vm.findClass "com/example/portunus/portunus/MultiServerLock" = some m.cls := findClass_of_methodNamed Bd.named
  have hnm := (name_of_methodNamed Bd.named Bd.method).1
  have X0 : Stand p l e ({ frames := 1, cells := 0, slots := 0, locals := 20 } : Room) s m #[(.ref a1), (.long qt)] below meth c s₁ [] 0 0 := Stand.of_body Bd
  have e0 : s₁.heap = h0 := by rw [← hh, Bd.state]; rfl
  have N0 := Fr.nil n0
  have pre0 : ∀ t, Steps p.tables e below (s₁.setTop (mkF m 0 #[.val (.ref a1), .val (.long qt), .second, .unset, .unset, .unset, .unset, .unset, .unset, .unset] [])) t → Steps p.tables e below (s₁.setTop (entryFrame m #[(.ref a1), (.long qt)] 10)) t := fun t k => castTop (ef_rm3_2 m a1 qt) k
  obtain ⟨cl_a1_9_1, Ar_a1_9_1, -, S_a1_9_1, N_a1_9_1, -, -⟩ := id V_a
  obtain ⟨cl_a1_26_2, Ar_a1_26_2, q_a1_26_2, S_a1_26_2, N_a1_26_2, H_a1_26_2, G_a1_26_2⟩ := id V_a
  have hin_a1_26_2 : ¬ ((0 : Int32) < 0 ∨ cl_a1_26_2.slots.size ≤ ((0 : Int32)).toNatClampNeg) := inb_of S_a1_26_2 ⟨by decide, by decide⟩
  have hat_a1_26_2 : cl_a1_26_2.slots[((0 : Int32)).toNatClampNeg]? = some (.long x0) := Has.at H_a1_26_2 hin_a1_26_2 rfl
  obtain ⟨T3, X3, e3, st3⟩ := getS2 X0 hx hZ hown (host := "") (Or.inl (hw _ (List.mem_of_getElem? (i := 20) rfl))) Via.refl e0 S_MS (g := (mkF m 30 #[.val (.ref a1), .val (.long qt), .second, .val (.long (9223372036854775807 : Int64)), .second, .val (.ref a1), .val (.int (2 : Int32)), .val (.int (0 : Int32)), .val (.long x0), .second] [(.long (9223372036854775807 : Int64))])) rfl (hb hby d3_30)
  obtain ⟨cq4, kq4, q4a, q4b, q4c⟩ := isOf hZ e3 E_MS
  obtain ⟨_, _, ⟨T4, L4, k4, n4⟩, -, X4, ⟨Lc4, hQ4, l4, y4, z4⟩, st4⟩ := X3.virtualBack hx (y := (⟨"java/util/concurrent/TimeUnit", "toNanos", "(J)J"⟩ : MethodName)) (z := (⟨"java/util/concurrent/TimeUnit", "toNanos", "(J)J"⟩ : MethodName)) hown (mvT hZ (hw _ (List.mem_of_getElem? (i := 22) rfl))) (mvT hZ (hw _ (List.mem_of_getElem? (i := 23) rfl))) (notFace_of_selects (args := #[]) (mvT hZ (hw _ (List.mem_of_getElem? (i := 25) rfl)))) (mvT hZ (hw _ (List.mem_of_getElem? (i := 25) rfl))) (mvT hZ (hw _ (List.mem_of_getElem? (i := 24) rfl))) (by decide) (backOf (W := 2) (rm4 l Z a0 hw [] w_MS x0 h0 n0 Z0 F_scale F_max (own_nan x0) rfl) hZ (hw _ (List.mem_of_getElem? (i := 26) rfl)) (hw _ (List.mem_of_getElem? (i := 21) rfl)) (by decide) (by decide)) q4a q4c (g := (mkF m 35 #[.val (.ref a1), .val (.long qt), .second, .val (.long (9223372036854775807 : Int64)), .second, .val (.ref a1), .val (.int (2 : Int32)), .val (.int (0 : Int32)), .val (.long x0), .second] [(.long x0), (.ref w_MS), (.long (9223372036854775807 : Int64))])) rfl (by rw [hml]; rfl) (Steps.refl _) (argsL := [(.long x0)]) (rest := [(.long (9223372036854775807 : Int64))]) (lenOf pdm_0 rfl) rfl (by show 2 * 0 + _ ≤ _; exact Nat.le_of_eq rfl) (hb hby d3_35) (fun _ _ => ⟨rfl, e3, (by decide : 0 + 0 ≤ _), (by decide : 0 + 0 ≤ _)⟩)
  dsimp only [Pt.U, Pt.locs, Pt.cells, Pt.slots] at X4 l4 y4 z4 st4 hQ4
  subst l4 y4 z4
  obtain ⟨rfl, N4q, e4⟩ := hQ4
  have N4 := Fr.app N0 N4q
  obtain ⟨_, _, ⟨T5, L5, k5, n5⟩, -, X5, ⟨Lc5, hQ5, l5, y5, z5⟩, st5⟩ := Jvm.LawKit.callS X4 hx (y := (⟨"java/lang/Math", "min", "(JJ)J"⟩ : MethodName)) hown (mvT hZ (hw _ (List.mem_of_getElem? (i := 31) rfl))) (mvT hZ (hw _ (List.mem_of_getElem? (i := 10) rfl))) (mvT hZ (hw _ (List.mem_of_getElem? (i := 11) rfl))) (mvT hZ (hw _ (List.mem_of_getElem? (i := 12) rfl))) (by decide) (backOf (W := 0) (rm2 l Z a0 hw [] (9223372036854775807 : Int64) (own_nan x0) h0 n0 Z0 (own_min (9223372036854775807 : Int64) (own_nan x0)) rfl) hZ (hw _ (List.mem_of_getElem? (i := 12) rfl)) (hw _ (List.mem_of_getElem? (i := 11) rfl)) (by decide) (by decide)) (g := (mkF m 38 #[.val (.ref a1), .val (.long qt), .second, .val (.long (9223372036854775807 : Int64)), .second, .val (.ref a1), .val (.int (2 : Int32)), .val (.int (0 : Int32)), .val (.long x0), .second] [(.long (own_nan x0)), (.long (9223372036854775807 : Int64))])) rfl (by rw [hml]; rfl) (argsL := [(.long (9223372036854775807 : Int64)), (.long (own_nan x0))]) (rest := []) (lenOf pdm_1 rfl) rfl (by show 2 * 0 + _ ≤ _; exact Nat.le_of_eq rfl) (hb hby d3_38) (fun _ _ => ⟨rfl, e4, (by decide : 0 + 0 ≤ _), (by decide : 0 + 0 ≤ _)⟩)
  dsimp only [Pt.U, Pt.locs, Pt.cells, Pt.slots] at X5 l5 y5 z5 st5 hQ5
  subst l5 y5 z5
  obtain ⟨rfl, N5q, e5⟩ := hQ5
  have N5 := Fr.app N4 N5q
  obtain ⟨cl_a1_26_6, Ar_a1_26_6, q_a1_26_6, S_a1_26_6, N_a1_26_6, H_a1_26_6, G_a1_26_6⟩ := id V_a
  have hin_a1_26_6 : ¬ ((1 : Int32) < 0 ∨ cl_a1_26_6.slots.size ≤ ((1 : Int32)).toNatClampNeg) := inb_of S_a1_26_6 ⟨by decide, by decide⟩
  have hat_a1_26_6 : cl_a1_26_6.slots[((1 : Int32)).toNatClampNeg]? = some (.long x1) := Has.at H_a1_26_6 hin_a1_26_6 rfl
  obtain ⟨T7, X7, e7, st7⟩ := getS2 X5 hx hZ hown (host := "") (Or.inl (hw _ (List.mem_of_getElem? (i := 20) rfl))) Via.refl e5 S_MS (g := (mkF m 30 #[.val (.ref a1), .val (.long qt), .second, .val (.long (own_min (9223372036854775807 : Int64) (own_nan x0))), .second, .val (.ref a1), .val (.int (2 : Int32)), .val (.int (1 : Int32)), .val (.long x1), .second] [(.long (own_min (9223372036854775807 : Int64) (own_nan x0)))])) rfl (hb hby d3_30)
  obtain ⟨cq8, kq8, q8a, q8b, q8c⟩ := isOf hZ e7 E_MS
  obtain ⟨_, _, ⟨T8, L8, k8, n8⟩, -, X8, ⟨Lc8, hQ8, l8, y8, z8⟩, st8⟩ := X7.virtualBack hx (y := (⟨"java/util/concurrent/TimeUnit", "toNanos", "(J)J"⟩ : MethodName)) (z := (⟨"java/util/concurrent/TimeUnit", "toNanos", "(J)J"⟩ : MethodName)) hown (mvT hZ (hw _ (List.mem_of_getElem? (i := 22) rfl))) (mvT hZ (hw _ (List.mem_of_getElem? (i := 23) rfl))) (notFace_of_selects (args := #[]) (mvT hZ (hw _ (List.mem_of_getElem? (i := 25) rfl)))) (mvT hZ (hw _ (List.mem_of_getElem? (i := 25) rfl))) (mvT hZ (hw _ (List.mem_of_getElem? (i := 24) rfl))) (by decide) (backOf (W := 2) (rm4 l Z a0 hw [] w_MS x1 h0 n0 Z0 F_scale F_max (own_nan x1) rfl) hZ (hw _ (List.mem_of_getElem? (i := 26) rfl)) (hw _ (List.mem_of_getElem? (i := 21) rfl)) (by decide) (by decide)) q8a q8c (g := (mkF m 35 #[.val (.ref a1), .val (.long qt), .second, .val (.long (own_min (9223372036854775807 : Int64) (own_nan x0))), .second, .val (.ref a1), .val (.int (2 : Int32)), .val (.int (1 : Int32)), .val (.long x1), .second] [(.long x1), (.ref w_MS), (.long (own_min (9223372036854775807 : Int64) (own_nan x0)))])) rfl (by rw [hml]; rfl) (Steps.refl _) (argsL := [(.long x1)]) (rest := [(.long (own_min (9223372036854775807 : Int64) (own_nan x0)))]) (lenOf pdm_0 rfl) rfl (by show 2 * 0 + _ ≤ _; exact Nat.le_of_eq rfl) (hb hby d3_35) (fun _ _ => ⟨rfl, e7, (by decide : 0 + 0 ≤ _), (by decide : 0 + 0 ≤ _)⟩)
  dsimp only [Pt.U, Pt.locs, Pt.cells, Pt.slots] at X8 l8 y8 z8 st8 hQ8
  subst l8 y8 z8
  obtain ⟨rfl, N8q, e8⟩ := hQ8
  have N8 := Fr.app N5 N8q
  obtain ⟨_, _, ⟨T9, L9, k9, n9⟩, -, X9, ⟨Lc9, hQ9, l9, y9, z9⟩, st9⟩ := Jvm.LawKit.callS X8 hx (y := (⟨"java/lang/Math", "min", "(JJ)J"⟩ : MethodName)) hown (mvT hZ (hw _ (List.mem_of_getElem? (i := 31) rfl))) (mvT hZ (hw _ (List.mem_of_getElem? (i := 10) rfl))) (mvT hZ (hw _ (List.mem_of_getElem? (i := 11) rfl))) (mvT hZ (hw _ (List.mem_of_getElem? (i := 12) rfl))) (by decide) (backOf (W := 0) (rm2 l Z a0 hw [] (own_min (9223372036854775807 : Int64) (own_nan x0)) (own_nan x1) h0 n0 Z0 (own_min (own_min (9223372036854775807 : Int64) (own_nan x0)) (own_nan x1)) rfl) hZ (hw _ (List.mem_of_getElem? (i := 12) rfl)) (hw _ (List.mem_of_getElem? (i := 11) rfl)) (by decide) (by decide)) (g := (mkF m 38 #[.val (.ref a1), .val (.long qt), .second, .val (.long (own_min (9223372036854775807 : Int64) (own_nan x0))), .second, .val (.ref a1), .val (.int (2 : Int32)), .val (.int (1 : Int32)), .val (.long x1), .second] [(.long (own_nan x1)), (.long (own_min (9223372036854775807 : Int64) (own_nan x0)))])) rfl (by rw [hml]; rfl) (argsL := [(.long (own_min (9223372036854775807 : Int64) (own_nan x0))), (.long (own_nan x1))]) (rest := []) (lenOf pdm_1 rfl) rfl (by show 2 * 0 + _ ≤ _; exact Nat.le_of_eq rfl) (hb hby d3_38) (fun _ _ => ⟨rfl, e8, (by decide : 0 + 0 ≤ _), (by decide : 0 + 0 ≤ _)⟩)
  dsimp only [Pt.U, Pt.locs, Pt.cells, Pt.slots] at X9 l9 y9 z9 st9 hQ9
  subst l9 y9 z9
  obtain ⟨rfl, N9q, e9⟩ := hQ9
  have N9 := Fr.app N8 N9q
  obtain ⟨T10, X10, e10, st10⟩ := getS2 X9 hx hZ hown (host := "") (Or.inl (hw _ (List.mem_of_getElem? (i := 34) rfl))) Via.refl e9 S_RND (g := (mkF m 53 #[.val (.ref a1), .val (.long qt), .second, .val (.long (own_min (own_min (9223372036854775807 : Int64) (own_nan x0)) (own_nan x1))), .second, .val (.ref a1), .val (.int (2 : Int32)), .val (.int (2 : Int32)), .val (.long x1), .second] [(.long ((own_min (own_min (9223372036854775807 : Int64) (own_nan x0)) (own_nan x1)) / (100 : Int64)))])) rfl (hb hby d3_53)
  obtain ⟨fs, hr, hrun, hended, hW, hsame⟩ := X10.leave (v := some (.long (((own_min (own_min (9223372036854775807 : Int64) (own_nan x0)) (own_nan x1)) - qt) - (((own_min (own_min (9223372036854775807 : Int64) (own_nan x0)) (own_nan x1)) / (100 : Int64)) + (2000000 : Int64))))) (fun h => by rw [Bd.returns] at h; cases h)
  refine ⟨_, _, pre0 _ ?_, hrun, hended, _, _, rfl, ?_, ⟨_, rfl⟩, hW, hsame.mono (by decide) (by decide)⟩
  · show Steps p.tables e below (s₁.setTop (mkF m 0 #[.val (.ref a1), .val (.long qt), .second, .unset, .unset, .unset, .unset, .unset, .unset, .unset] [])) _
    refine X0.ldc2Long hx hown (mvT hZ (hw _ (List.mem_of_getElem? (i := 19) rfl))) (g := (mkF m 0 #[.val (.ref a1), .val (.long qt), .second, .unset, .unset, .unset, .unset, .unset, .unset, .unset] [])) rfl (hb hby d3_0) _ ?_
    show Steps p.tables e below (s₁.setTop (mkF m 3 #[.val (.ref a1), .val (.long qt), .second, .unset, .unset, .unset, .unset, .unset, .unset, .unset] [(.long (9223372036854775807 : Int64))])) _
    refine XS.lstoreN X0.here hx rfl (hb hby d3_3) rfl (l' := #[.val (.ref a1), .val (.long qt), .second, .val (.long (9223372036854775807 : Int64)), .second, .unset, .unset, .unset, .unset, .unset]) rfl ?_
    show Steps p.tables e below (s₁.setTop (mkF m 4 #[.val (.ref a1), .val (.long qt), .second, .val (.long (9223372036854775807 : Int64)), .second, .unset, .unset, .unset, .unset, .unset] [])) _
    refine XS.aloadN X0.here hx rfl (hb hby d3_4) rfl rfl ?_
    show Steps p.tables e below (s₁.setTop (mkF m 5 #[.val (.ref a1), .val (.long qt), .second, .val (.long (9223372036854775807 : Int64)), .second, .unset, .unset, .unset, .unset, .unset] [(.ref a1)])) _
    refine XS.astore X0.here hx rfl (hb hby d3_5) rfl rfl (l' := #[.val (.ref a1), .val (.long qt), .second, .val (.long (9223372036854775807 : Int64)), .second, .val (.ref a1), .unset, .unset, .unset, .unset]) rfl ?_
    show Steps p.tables e below (s₁.setTop (mkF m 7 #[.val (.ref a1), .val (.long qt), .second, .val (.long (9223372036854775807 : Int64)), .second, .val (.ref a1), .unset, .unset, .unset, .unset] [])) _
    refine XS.aload X0.here hx rfl (hb hby d3_7) rfl rfl ?_
    show Steps p.tables e below (s₁.setTop (mkF m 9 #[.val (.ref a1), .val (.long qt), .second, .val (.long (9223372036854775807 : Int64)), .second, .val (.ref a1), .unset, .unset, .unset, .unset] [(.ref a1)])) _
    refine X0.arraylength hx (by rw [e0]; exact Ar_a1_9_1.1) (State.isArrayOf_alike hZ.alike Ar_a1_9_1.2.1) (g := (mkF m 9 #[.val (.ref a1), .val (.long qt), .second, .val (.long (9223372036854775807 : Int64)), .second, .val (.ref a1), .unset, .unset, .unset, .unset] [(.ref a1)])) rfl rfl (hb hby d3_9) _ ?_
    rw [len_of S_a1_9_1 N_a1_9_1]
    show Steps p.tables e below (s₁.setTop (mkF m 10 #[.val (.ref a1), .val (.long qt), .second, .val (.long (9223372036854775807 : Int64)), .second, .val (.ref a1), .unset, .unset, .unset, .unset] [(.int (2 : Int32))])) _
    refine XS.istore X0.here hx rfl (hb hby d3_10) rfl (l' := #[.val (.ref a1), .val (.long qt), .second, .val (.long (9223372036854775807 : Int64)), .second, .val (.ref a1), .val (.int (2 : Int32)), .unset, .unset, .unset]) rfl ?_
    show Steps p.tables e below (s₁.setTop (mkF m 12 #[.val (.ref a1), .val (.long qt), .second, .val (.long (9223372036854775807 : Int64)), .second, .val (.ref a1), .val (.int (2 : Int32)), .unset, .unset, .unset] [])) _
    refine XS.iconst X0.here hx rfl (hb hby d3_12) ?_
    show Steps p.tables e below (s₁.setTop (mkF m 13 #[.val (.ref a1), .val (.long qt), .second, .val (.long (9223372036854775807 : Int64)), .second, .val (.ref a1), .val (.int (2 : Int32)), .unset, .unset, .unset] [(.int (0 : Int32))])) _
    refine XS.istore X0.here hx rfl (hb hby d3_13) rfl (l' := #[.val (.ref a1), .val (.long qt), .second, .val (.long (9223372036854775807 : Int64)), .second, .val (.ref a1), .val (.int (2 : Int32)), .val (.int (0 : Int32)), .unset, .unset]) rfl ?_
    show Steps p.tables e below (s₁.setTop (mkF m 15 #[.val (.ref a1), .val (.long qt), .second, .val (.long (9223372036854775807 : Int64)), .second, .val (.ref a1), .val (.int (2 : Int32)), .val (.int (0 : Int32)), .unset, .unset] [])) _
    refine XS.iload X0.here hx rfl (hb hby d3_15) rfl ?_
    show Steps p.tables e below (s₁.setTop (mkF m 17 #[.val (.ref a1), .val (.long qt), .second, .val (.long (9223372036854775807 : Int64)), .second, .val (.ref a1), .val (.int (2 : Int32)), .val (.int (0 : Int32)), .unset, .unset] [(.int (0 : Int32))])) _
    refine XS.iload X0.here hx rfl (hb hby d3_17) rfl ?_
    show Steps p.tables e below (s₁.setTop (mkF m 19 #[.val (.ref a1), .val (.long qt), .second, .val (.long (9223372036854775807 : Int64)), .second, .val (.ref a1), .val (.int (2 : Int32)), .val (.int (0 : Int32)), .unset, .unset] [(.int (2 : Int32)), (.int (0 : Int32))])) _
    refine XS.icmpNo X0.here hx rfl (hb hby d3_19) rfl (tlt (by decide : (0 : Int32) < (2 : Int32))).2.1 ?_
    show Steps p.tables e below (s₁.setTop (mkF m 22 #[.val (.ref a1), .val (.long qt), .second, .val (.long (9223372036854775807 : Int64)), .second, .val (.ref a1), .val (.int (2 : Int32)), .val (.int (0 : Int32)), .unset, .unset] [])) _
    refine XS.aload X0.here hx rfl (hb hby d3_22) rfl rfl ?_
    show Steps p.tables e below (s₁.setTop (mkF m 24 #[.val (.ref a1), .val (.long qt), .second, .val (.long (9223372036854775807 : Int64)), .second, .val (.ref a1), .val (.int (2 : Int32)), .val (.int (0 : Int32)), .unset, .unset] [(.ref a1)])) _
    refine XS.iload X0.here hx rfl (hb hby d3_24) rfl ?_
    show Steps p.tables e below (s₁.setTop (mkF m 26 #[.val (.ref a1), .val (.long qt), .second, .val (.long (9223372036854775807 : Int64)), .second, .val (.ref a1), .val (.int (2 : Int32)), .val (.int (0 : Int32)), .unset, .unset] [(.int (0 : Int32)), (.ref a1)])) _
    refine X0.laload hx (j := (0 : Int32)) (v := (.long x0)) (by rw [e0]; exact Ar_a1_26_2.1) (State.isArrayOf_alike hZ.alike Ar_a1_26_2.2.1) Ar_a1_26_2.2.2 hin_a1_26_2 hat_a1_26_2 (g := (mkF m 26 #[.val (.ref a1), .val (.long qt), .second, .val (.long (9223372036854775807 : Int64)), .second, .val (.ref a1), .val (.int (2 : Int32)), .val (.int (0 : Int32)), .unset, .unset] [(.int (0 : Int32)), (.ref a1)])) rfl rfl (hb hby d3_26) _ ?_
    show Steps p.tables e below (s₁.setTop (mkF m 27 #[.val (.ref a1), .val (.long qt), .second, .val (.long (9223372036854775807 : Int64)), .second, .val (.ref a1), .val (.int (2 : Int32)), .val (.int (0 : Int32)), .unset, .unset] [(.long x0)])) _
    refine XS.lstore X0.here hx rfl (hb hby d3_27) rfl (l' := #[.val (.ref a1), .val (.long qt), .second, .val (.long (9223372036854775807 : Int64)), .second, .val (.ref a1), .val (.int (2 : Int32)), .val (.int (0 : Int32)), .val (.long x0), .second]) rfl ?_
    show Steps p.tables e below (s₁.setTop (mkF m 29 #[.val (.ref a1), .val (.long qt), .second, .val (.long (9223372036854775807 : Int64)), .second, .val (.ref a1), .val (.int (2 : Int32)), .val (.int (0 : Int32)), .val (.long x0), .second] [])) _
    refine XS.lloadN X0.here hx rfl (hb hby d3_29) rfl ?_
    show Steps p.tables e below (s₁.setTop (mkF m 30 #[.val (.ref a1), .val (.long qt), .second, .val (.long (9223372036854775807 : Int64)), .second, .val (.ref a1), .val (.int (2 : Int32)), .val (.int (0 : Int32)), .val (.long x0), .second] [(.long (9223372036854775807 : Int64))])) _
    refine st3 _ ?_
    show Steps p.tables e below (T3.setTop (mkF m 33 #[.val (.ref a1), .val (.long qt), .second, .val (.long (9223372036854775807 : Int64)), .second, .val (.ref a1), .val (.int (2 : Int32)), .val (.int (0 : Int32)), .val (.long x0), .second] [(.ref w_MS), (.long (9223372036854775807 : Int64))])) _
    refine XS.lload X3.here hx rfl (hb hby d3_33) rfl ?_
    show Steps p.tables e below (T3.setTop (mkF m 35 #[.val (.ref a1), .val (.long qt), .second, .val (.long (9223372036854775807 : Int64)), .second, .val (.ref a1), .val (.int (2 : Int32)), .val (.int (0 : Int32)), .val (.long x0), .second] [(.long x0), (.ref w_MS), (.long (9223372036854775807 : Int64))])) _
    refine st4.trans ?_
    show Steps p.tables e below (T4.setTop (mkF m 38 #[.val (.ref a1), .val (.long qt), .second, .val (.long (9223372036854775807 : Int64)), .second, .val (.ref a1), .val (.int (2 : Int32)), .val (.int (0 : Int32)), .val (.long x0), .second] [(.long (own_nan x0)), (.long (9223372036854775807 : Int64))])) _
    refine st5 _ ?_
    show Steps p.tables e below (T5.setTop (mkF m 41 #[.val (.ref a1), .val (.long qt), .second, .val (.long (9223372036854775807 : Int64)), .second, .val (.ref a1), .val (.int (2 : Int32)), .val (.int (0 : Int32)), .val (.long x0), .second] [(.long (own_min (9223372036854775807 : Int64) (own_nan x0)))])) _
    refine XS.lstoreN X5.here hx rfl (hb hby d3_41) rfl (l' := #[.val (.ref a1), .val (.long qt), .second, .val (.long (own_min (9223372036854775807 : Int64) (own_nan x0))), .second, .val (.ref a1), .val (.int (2 : Int32)), .val (.int (0 : Int32)), .val (.long x0), .second]) rfl ?_
    show Steps p.tables e below (T5.setTop (mkF m 42 #[.val (.ref a1), .val (.long qt), .second, .val (.long (own_min (9223372036854775807 : Int64) (own_nan x0))), .second, .val (.ref a1), .val (.int (2 : Int32)), .val (.int (0 : Int32)), .val (.long x0), .second] [])) _
    refine XS.iinc X5.here hx rfl (hb hby d3_42) rfl (l' := #[.val (.ref a1), .val (.long qt), .second, .val (.long (own_min (9223372036854775807 : Int64) (own_nan x0))), .second, .val (.ref a1), .val (.int (2 : Int32)), .val (.int (1 : Int32)), .val (.long x0), .second]) rfl ?_
    show Steps p.tables e below (T5.setTop (mkF m 45 #[.val (.ref a1), .val (.long qt), .second, .val (.long (own_min (9223372036854775807 : Int64) (own_nan x0))), .second, .val (.ref a1), .val (.int (2 : Int32)), .val (.int (1 : Int32)), .val (.long x0), .second] [])) _
    refine XS.goto X5.here hx rfl (pc0 := 45) (pc' := 15) rfl (hb hby d3_45) (by decide) (by decide) ?_
    show Steps p.tables e below (T5.setTop (mkF m 15 #[.val (.ref a1), .val (.long qt), .second, .val (.long (own_min (9223372036854775807 : Int64) (own_nan x0))), .second, .val (.ref a1), .val (.int (2 : Int32)), .val (.int (1 : Int32)), .val (.long x0), .second] [])) _
    refine XS.iload X5.here hx rfl (hb hby d3_15) rfl ?_
    show Steps p.tables e below (T5.setTop (mkF m 17 #[.val (.ref a1), .val (.long qt), .second, .val (.long (own_min (9223372036854775807 : Int64) (own_nan x0))), .second, .val (.ref a1), .val (.int (2 : Int32)), .val (.int (1 : Int32)), .val (.long x0), .second] [(.int (1 : Int32))])) _
    refine XS.iload X5.here hx rfl (hb hby d3_17) rfl ?_
    show Steps p.tables e below (T5.setTop (mkF m 19 #[.val (.ref a1), .val (.long qt), .second, .val (.long (own_min (9223372036854775807 : Int64) (own_nan x0))), .second, .val (.ref a1), .val (.int (2 : Int32)), .val (.int (1 : Int32)), .val (.long x0), .second] [(.int (2 : Int32)), (.int (1 : Int32))])) _
    refine XS.icmpNo X5.here hx rfl (hb hby d3_19) rfl (tlt (by decide : (1 : Int32) < (2 : Int32))).2.1 ?_
    show Steps p.tables e below (T5.setTop (mkF m 22 #[.val (.ref a1), .val (.long qt), .second, .val (.long (own_min (9223372036854775807 : Int64) (own_nan x0))), .second, .val (.ref a1), .val (.int (2 : Int32)), .val (.int (1 : Int32)), .val (.long x0), .second] [])) _
    refine XS.aload X5.here hx rfl (hb hby d3_22) rfl rfl ?_
    show Steps p.tables e below (T5.setTop (mkF m 24 #[.val (.ref a1), .val (.long qt), .second, .val (.long (own_min (9223372036854775807 : Int64) (own_nan x0))), .second, .val (.ref a1), .val (.int (2 : Int32)), .val (.int (1 : Int32)), .val (.long x0), .second] [(.ref a1)])) _
    refine XS.iload X5.here hx rfl (hb hby d3_24) rfl ?_
    show Steps p.tables e below (T5.setTop (mkF m 26 #[.val (.ref a1), .val (.long qt), .second, .val (.long (own_min (9223372036854775807 : Int64) (own_nan x0))), .second, .val (.ref a1), .val (.int (2 : Int32)), .val (.int (1 : Int32)), .val (.long x0), .second] [(.int (1 : Int32)), (.ref a1)])) _
    refine X5.laload hx (j := (1 : Int32)) (v := (.long x1)) (by rw [e5]; exact Ar_a1_26_6.1) (State.isArrayOf_alike hZ.alike Ar_a1_26_6.2.1) Ar_a1_26_6.2.2 hin_a1_26_6 hat_a1_26_6 (g := (mkF m 26 #[.val (.ref a1), .val (.long qt), .second, .val (.long (own_min (9223372036854775807 : Int64) (own_nan x0))), .second, .val (.ref a1), .val (.int (2 : Int32)), .val (.int (1 : Int32)), .val (.long x0), .second] [(.int (1 : Int32)), (.ref a1)])) rfl rfl (hb hby d3_26) _ ?_
    show Steps p.tables e below (T5.setTop (mkF m 27 #[.val (.ref a1), .val (.long qt), .second, .val (.long (own_min (9223372036854775807 : Int64) (own_nan x0))), .second, .val (.ref a1), .val (.int (2 : Int32)), .val (.int (1 : Int32)), .val (.long x0), .second] [(.long x1)])) _
    refine XS.lstore X5.here hx rfl (hb hby d3_27) rfl (l' := #[.val (.ref a1), .val (.long qt), .second, .val (.long (own_min (9223372036854775807 : Int64) (own_nan x0))), .second, .val (.ref a1), .val (.int (2 : Int32)), .val (.int (1 : Int32)), .val (.long x1), .second]) rfl ?_
    show Steps p.tables e below (T5.setTop (mkF m 29 #[.val (.ref a1), .val (.long qt), .second, .val (.long (own_min (9223372036854775807 : Int64) (own_nan x0))), .second, .val (.ref a1), .val (.int (2 : Int32)), .val (.int (1 : Int32)), .val (.long x1), .second] [])) _
    refine XS.lloadN X5.here hx rfl (hb hby d3_29) rfl ?_
    show Steps p.tables e below (T5.setTop (mkF m 30 #[.val (.ref a1), .val (.long qt), .second, .val (.long (own_min (9223372036854775807 : Int64) (own_nan x0))), .second, .val (.ref a1), .val (.int (2 : Int32)), .val (.int (1 : Int32)), .val (.long x1), .second] [(.long (own_min (9223372036854775807 : Int64) (own_nan x0)))])) _
    refine st7 _ ?_
    show Steps p.tables e below (T7.setTop (mkF m 33 #[.val (.ref a1), .val (.long qt), .second, .val (.long (own_min (9223372036854775807 : Int64) (own_nan x0))), .second, .val (.ref a1), .val (.int (2 : Int32)), .val (.int (1 : Int32)), .val (.long x1), .second] [(.ref w_MS), (.long (own_min (9223372036854775807 : Int64) (own_nan x0)))])) _
    refine XS.lload X7.here hx rfl (hb hby d3_33) rfl ?_
    show Steps p.tables e below (T7.setTop (mkF m 35 #[.val (.ref a1), .val (.long qt), .second, .val (.long (own_min (9223372036854775807 : Int64) (own_nan x0))), .second, .val (.ref a1), .val (.int (2 : Int32)), .val (.int (1 : Int32)), .val (.long x1), .second] [(.long x1), (.ref w_MS), (.long (own_min (9223372036854775807 : Int64) (own_nan x0)))])) _
    refine st8.trans ?_
    show Steps p.tables e below (T8.setTop (mkF m 38 #[.val (.ref a1), .val (.long qt), .second, .val (.long (own_min (9223372036854775807 : Int64) (own_nan x0))), .second, .val (.ref a1), .val (.int (2 : Int32)), .val (.int (1 : Int32)), .val (.long x1), .second] [(.long (own_nan x1)), (.long (own_min (9223372036854775807 : Int64) (own_nan x0)))])) _
    refine st9 _ ?_
    show Steps p.tables e below (T9.setTop (mkF m 41 #[.val (.ref a1), .val (.long qt), .second, .val (.long (own_min (9223372036854775807 : Int64) (own_nan x0))), .second, .val (.ref a1), .val (.int (2 : Int32)), .val (.int (1 : Int32)), .val (.long x1), .second] [(.long (own_min (own_min (9223372036854775807 : Int64) (own_nan x0)) (own_nan x1)))])) _
    refine XS.lstoreN X9.here hx rfl (hb hby d3_41) rfl (l' := #[.val (.ref a1), .val (.long qt), .second, .val (.long (own_min (own_min (9223372036854775807 : Int64) (own_nan x0)) (own_nan x1))), .second, .val (.ref a1), .val (.int (2 : Int32)), .val (.int (1 : Int32)), .val (.long x1), .second]) rfl ?_
    show Steps p.tables e below (T9.setTop (mkF m 42 #[.val (.ref a1), .val (.long qt), .second, .val (.long (own_min (own_min (9223372036854775807 : Int64) (own_nan x0)) (own_nan x1))), .second, .val (.ref a1), .val (.int (2 : Int32)), .val (.int (1 : Int32)), .val (.long x1), .second] [])) _
    refine XS.iinc X9.here hx rfl (hb hby d3_42) rfl (l' := #[.val (.ref a1), .val (.long qt), .second, .val (.long (own_min (own_min (9223372036854775807 : Int64) (own_nan x0)) (own_nan x1))), .second, .val (.ref a1), .val (.int (2 : Int32)), .val (.int (2 : Int32)), .val (.long x1), .second]) rfl ?_
    show Steps p.tables e below (T9.setTop (mkF m 45 #[.val (.ref a1), .val (.long qt), .second, .val (.long (own_min (own_min (9223372036854775807 : Int64) (own_nan x0)) (own_nan x1))), .second, .val (.ref a1), .val (.int (2 : Int32)), .val (.int (2 : Int32)), .val (.long x1), .second] [])) _
    refine XS.goto X9.here hx rfl (pc0 := 45) (pc' := 15) rfl (hb hby d3_45) (by decide) (by decide) ?_
    show Steps p.tables e below (T9.setTop (mkF m 15 #[.val (.ref a1), .val (.long qt), .second, .val (.long (own_min (own_min (9223372036854775807 : Int64) (own_nan x0)) (own_nan x1))), .second, .val (.ref a1), .val (.int (2 : Int32)), .val (.int (2 : Int32)), .val (.long x1), .second] [])) _
    refine XS.iload X9.here hx rfl (hb hby d3_15) rfl ?_
    show Steps p.tables e below (T9.setTop (mkF m 17 #[.val (.ref a1), .val (.long qt), .second, .val (.long (own_min (own_min (9223372036854775807 : Int64) (own_nan x0)) (own_nan x1))), .second, .val (.ref a1), .val (.int (2 : Int32)), .val (.int (2 : Int32)), .val (.long x1), .second] [(.int (2 : Int32))])) _
    refine XS.iload X9.here hx rfl (hb hby d3_17) rfl ?_
    show Steps p.tables e below (T9.setTop (mkF m 19 #[.val (.ref a1), .val (.long qt), .second, .val (.long (own_min (own_min (9223372036854775807 : Int64) (own_nan x0)) (own_nan x1))), .second, .val (.ref a1), .val (.int (2 : Int32)), .val (.int (2 : Int32)), .val (.long x1), .second] [(.int (2 : Int32)), (.int (2 : Int32))])) _
    refine XS.icmpYes X9.here hx rfl (pc0 := 19) (pc' := 48) rfl (hb hby d3_19) rfl (flt (by decide : ¬ ((2 : Int32) < (2 : Int32)))).2.1 (by decide) (by decide) ?_
    show Steps p.tables e below (T9.setTop (mkF m 48 #[.val (.ref a1), .val (.long qt), .second, .val (.long (own_min (own_min (9223372036854775807 : Int64) (own_nan x0)) (own_nan x1))), .second, .val (.ref a1), .val (.int (2 : Int32)), .val (.int (2 : Int32)), .val (.long x1), .second] [])) _
    refine XS.lloadN X9.here hx rfl (hb hby d3_48) rfl ?_
    show Steps p.tables e below (T9.setTop (mkF m 49 #[.val (.ref a1), .val (.long qt), .second, .val (.long (own_min (own_min (9223372036854775807 : Int64) (own_nan x0)) (own_nan x1))), .second, .val (.ref a1), .val (.int (2 : Int32)), .val (.int (2 : Int32)), .val (.long x1), .second] [(.long (own_min (own_min (9223372036854775807 : Int64) (own_nan x0)) (own_nan x1)))])) _
    refine X9.ldc2Long hx hown (mvT hZ (hw _ (List.mem_of_getElem? (i := 33) rfl))) (g := (mkF m 49 #[.val (.ref a1), .val (.long qt), .second, .val (.long (own_min (own_min (9223372036854775807 : Int64) (own_nan x0)) (own_nan x1))), .second, .val (.ref a1), .val (.int (2 : Int32)), .val (.int (2 : Int32)), .val (.long x1), .second] [(.long (own_min (own_min (9223372036854775807 : Int64) (own_nan x0)) (own_nan x1)))])) rfl (hb hby d3_49) _ ?_
    show Steps p.tables e below (T9.setTop (mkF m 52 #[.val (.ref a1), .val (.long qt), .second, .val (.long (own_min (own_min (9223372036854775807 : Int64) (own_nan x0)) (own_nan x1))), .second, .val (.ref a1), .val (.int (2 : Int32)), .val (.int (2 : Int32)), .val (.long x1), .second] [(.long (100 : Int64)), (.long (own_min (own_min (9223372036854775807 : Int64) (own_nan x0)) (own_nan x1)))])) _
    refine XS.ldiv X9.here hx rfl (hb hby d3_52) rfl (by decide) ?_
    show Steps p.tables e below (T9.setTop (mkF m 53 #[.val (.ref a1), .val (.long qt), .second, .val (.long (own_min (own_min (9223372036854775807 : Int64) (own_nan x0)) (own_nan x1))), .second, .val (.ref a1), .val (.int (2 : Int32)), .val (.int (2 : Int32)), .val (.long x1), .second] [(.long ((own_min (own_min (9223372036854775807 : Int64) (own_nan x0)) (own_nan x1)) / (100 : Int64)))])) _
    refine st10 _ ?_
    show Steps p.tables e below (T10.setTop (mkF m 56 #[.val (.ref a1), .val (.long qt), .second, .val (.long (own_min (own_min (9223372036854775807 : Int64) (own_nan x0)) (own_nan x1))), .second, .val (.ref a1), .val (.int (2 : Int32)), .val (.int (2 : Int32)), .val (.long x1), .second] [(.long (2000000 : Int64)), (.long ((own_min (own_min (9223372036854775807 : Int64) (own_nan x0)) (own_nan x1)) / (100 : Int64)))])) _
    refine XS.ladd X10.here hx rfl (hb hby d3_56) rfl ?_
    show Steps p.tables e below (T10.setTop (mkF m 57 #[.val (.ref a1), .val (.long qt), .second, .val (.long (own_min (own_min (9223372036854775807 : Int64) (own_nan x0)) (own_nan x1))), .second, .val (.ref a1), .val (.int (2 : Int32)), .val (.int (2 : Int32)), .val (.long x1), .second] [(.long (((own_min (own_min (9223372036854775807 : Int64) (own_nan x0)) (own_nan x1)) / (100 : Int64)) + (2000000 : Int64)))])) _
    refine XS.lstore X10.here hx rfl (hb hby d3_57) rfl (l' := #[.val (.ref a1), .val (.long qt), .second, .val (.long (own_min (own_min (9223372036854775807 : Int64) (own_nan x0)) (own_nan x1))), .second, .val (.long (((own_min (own_min (9223372036854775807 : Int64) (own_nan x0)) (own_nan x1)) / (100 : Int64)) + (2000000 : Int64))), .second, .val (.int (2 : Int32)), .val (.long x1), .second]) rfl ?_
    show Steps p.tables e below (T10.setTop (mkF m 59 #[.val (.ref a1), .val (.long qt), .second, .val (.long (own_min (own_min (9223372036854775807 : Int64) (own_nan x0)) (own_nan x1))), .second, .val (.long (((own_min (own_min (9223372036854775807 : Int64) (own_nan x0)) (own_nan x1)) / (100 : Int64)) + (2000000 : Int64))), .second, .val (.int (2 : Int32)), .val (.long x1), .second] [])) _
    refine XS.lloadN X10.here hx rfl (hb hby d3_59) rfl ?_
    show Steps p.tables e below (T10.setTop (mkF m 60 #[.val (.ref a1), .val (.long qt), .second, .val (.long (own_min (own_min (9223372036854775807 : Int64) (own_nan x0)) (own_nan x1))), .second, .val (.long (((own_min (own_min (9223372036854775807 : Int64) (own_nan x0)) (own_nan x1)) / (100 : Int64)) + (2000000 : Int64))), .second, .val (.int (2 : Int32)), .val (.long x1), .second] [(.long (own_min (own_min (9223372036854775807 : Int64) (own_nan x0)) (own_nan x1)))])) _
    refine XS.lloadN X10.here hx rfl (hb hby d3_60) rfl ?_
    show Steps p.tables e below (T10.setTop (mkF m 61 #[.val (.ref a1), .val (.long qt), .second, .val (.long (own_min (own_min (9223372036854775807 : Int64) (own_nan x0)) (own_nan x1))), .second, .val (.long (((own_min (own_min (9223372036854775807 : Int64) (own_nan x0)) (own_nan x1)) / (100 : Int64)) + (2000000 : Int64))), .second, .val (.int (2 : Int32)), .val (.long x1), .second] [(.long qt), (.long (own_min (own_min (9223372036854775807 : Int64) (own_nan x0)) (own_nan x1)))])) _
    refine XS.lsub X10.here hx rfl (hb hby d3_61) rfl ?_
    show Steps p.tables e below (T10.setTop (mkF m 62 #[.val (.ref a1), .val (.long qt), .second, .val (.long (own_min (own_min (9223372036854775807 : Int64) (own_nan x0)) (own_nan x1))), .second, .val (.long (((own_min (own_min (9223372036854775807 : Int64) (own_nan x0)) (own_nan x1)) / (100 : Int64)) + (2000000 : Int64))), .second, .val (.int (2 : Int32)), .val (.long x1), .second] [(.long ((own_min (own_min (9223372036854775807 : Int64) (own_nan x0)) (own_nan x1)) - qt))])) _
    refine XS.lload X10.here hx rfl (hb hby d3_62) rfl ?_
    show Steps p.tables e below (T10.setTop (mkF m 64 #[.val (.ref a1), .val (.long qt), .second, .val (.long (own_min (own_min (9223372036854775807 : Int64) (own_nan x0)) (own_nan x1))), .second, .val (.long (((own_min (own_min (9223372036854775807 : Int64) (own_nan x0)) (own_nan x1)) / (100 : Int64)) + (2000000 : Int64))), .second, .val (.int (2 : Int32)), .val (.long x1), .second] [(.long (((own_min (own_min (9223372036854775807 : Int64) (own_nan x0)) (own_nan x1)) / (100 : Int64)) + (2000000 : Int64))), (.long ((own_min (own_min (9223372036854775807 : Int64) (own_nan x0)) (own_nan x1)) - qt))])) _
    refine XS.lsub X10.here hx rfl (hb hby d3_64) rfl ?_
    show Steps p.tables e below (T10.setTop (mkF m 65 #[.val (.ref a1), .val (.long qt), .second, .val (.long (own_min (own_min (9223372036854775807 : Int64) (own_nan x0)) (own_nan x1))), .second, .val (.long (((own_min (own_min (9223372036854775807 : Int64) (own_nan x0)) (own_nan x1)) / (100 : Int64)) + (2000000 : Int64))), .second, .val (.int (2 : Int32)), .val (.long x1), .second] [(.long (((own_min (own_min (9223372036854775807 : Int64) (own_nan x0)) (own_nan x1)) - qt) - (((own_min (own_min (9223372036854775807 : Int64) (own_nan x0)) (own_nan x1)) / (100 : Int64)) + (2000000 : Int64))))])) _
    exact retOut X10 hx Bd.returns rfl (Or.inr (Or.inl ⟨rfl, rfl, _, rfl⟩)) (hb hby d3_65) hr
  · show QP (.long (((own_min (own_min (9223372036854775807 : Int64) (own_nan x0)) (own_nan x1)) - qt) - (((own_min (own_min (9223372036854775807 : Int64) (own_nan x0)) (own_nan x1)) / (100 : Int64)) + (2000000 : Int64)))) h0 n0 _ T10.heap _
    rw [e10]
    exact ⟨rfl, N9, rfl⟩
theorem ef_rm3_3 (m : MethodId) (a1 : Addr) (qt : Int64) : entryFrame m #[(.ref a1), (.long qt)] 10 = mkF m 0 #[.val (.ref a1), .val (.long qt), .second, .unset, .unset, .unset, .unset, .unset, .unset, .unset] [] := by first | (simp [entryFrame, mkF, argsToLocals, Value.category]; done) | rfl
set_option maxRecDepth 65536 in
set_option maxHeartbeats 40000000 in
theorem rm3_3 (l : Launch) (Z : State) (a0 : Array Value) (hw : ∀ d ∈ tables_1, d.before a0 Z = true) (ws : List Jvm.Cond) (a1 : Addr) (qt : Int64) (x0 : Int64) (x1 : Int64) (x2 : Int64) (kc : ClassId) (w_MS : Addr) (h0 : Heap) (n0 : Nat) (Z0 : n0 ≤ h0.size) (V_a : Arv Z h0 a1 kc .long (3 : Int32) [(.long x0), (.long x1), (.long x2)] (.long (0 : Int64))) (S_MS : Sta Z h0 "java/util/concurrent/TimeUnit" "MILLISECONDS" "Ljava/util/concurrent/TimeUnit;" (.ref w_MS)) (E_MS : Exa Z h0 w_MS "java/util/concurrent/TimeUnit") (F_scale : Fld Z h0 w_MS "java/util/concurrent/TimeUnit" "scale" "J" (.long (1000000 : Int64))) (F_max : Fld Z h0 w_MS "java/util/concurrent/TimeUnit" "maxNanos" "J" (.long (9223372036854 : Int64))) (S_RND : Sta Z h0 "com/example/portunus/portunus/MultiServerLock" "ROUNDING_NANOS" "J" (.long (2000000 : Int64))) (r : Int64) (hr0 : r = (((own_min (own_min (own_min (9223372036854775807 : Int64) (own_nan x0)) (own_nan x1)) (own_nan x2)) - qt) - (((own_min (own_min (own_min (9223372036854775807 : Int64) (own_nan x0)) (own_nan x1)) (own_nan x2)) / (100 : Int64)) + (2000000 : Int64)))) :
    MetFree l (⟨"com/example/portunus/portunus/MultiServerLock", "validityNanos", "([JJ)J"⟩ : MethodName) (head1 (Jvm.Cond.code (⟨"com/example/portunus/portunus/MultiServerLock", "validityNanos", "([JJ)J"⟩ : MethodName) prog_15_method_10_code 10 (some .long) :: ws) ({ frames := 1, cells := 0, slots := 0, locals := 20 } : Room)) (fun a U => a = #[(.ref a1), (.long qt)] ∧ Z.Warmed39 U.vm ∧ U.heap = h0) (fun _ _ _ _ _ => True) (fun _ U o U' => ∃ v L, o = .returned v ∧ QP (.long r) h0 n0 v U'.heap L ∧ FrameEnd U o U' L ({ frames := 1, cells := 0, slots := 0, locals := 20 } : Room).cells ({ frames := 1, cells := 0, slots := 0, locals := 20 } : Room).slots) := by
  rw [hr0]
  refine MetFree.of_bodySF (plainFor_of_name pnm_2) hisR ?_
  intro p e s m args below meth c s₁ Bd hml0 hP hK
  obtain ⟨rfl, hZ, hh⟩ := hP
  have hx := Bd.exec
  have hby := Bd.bytes
  have hml : c.maxLocals = 10 := hml0
  have hown : s.vm.findClass "com/example/portunus/portunus/MultiServerLock" = some m.cls := findClass_of_methodNamed Bd.named
  have hnm := (name_of_methodNamed Bd.named Bd.method).1
  have X0 : Stand p l e ({ frames := 1, cells := 0, slots := 0, locals := 20 } : Room) s m #[(.ref a1), (.long qt)] below meth c s₁ [] 0 0 := Stand.of_body Bd
  have e0 : s₁.heap = h0 := by rw [← hh, Bd.state]; rfl
  have N0 := Fr.nil n0
  have pre0 : ∀ t, Steps p.tables e below (s₁.setTop (mkF m 0 #[.val (.ref a1), .val (.long qt), .second, .unset, .unset, .unset, .unset, .unset, .unset, .unset] [])) t → Steps p.tables e below (s₁.setTop (entryFrame m #[(.ref a1), (.long qt)] 10)) t := fun t k => castTop (ef_rm3_3 m a1 qt) k
  obtain ⟨cl_a1_9_1, Ar_a1_9_1, -, S_a1_9_1, N_a1_9_1, -, -⟩ := id V_a
  obtain ⟨cl_a1_26_2, Ar_a1_26_2, q_a1_26_2, S_a1_26_2, N_a1_26_2, H_a1_26_2, G_a1_26_2⟩ := id V_a
  have hin_a1_26_2 : ¬ ((0 : Int32) < 0 ∨ cl_a1_26_2.slots.size ≤ ((0 : Int32)).toNatClampNeg) := inb_of S_a1_26_2 ⟨by decide, by decide⟩
  have hat_a1_26_2 : cl_a1_26_2.slots[((0 : Int32)).toNatClampNeg]? = some (.long x0) := Has.at H_a1_26_2 hin_a1_26_2 rfl
  obtain ⟨T3, X3, e3, st3⟩ := getS2 X0 hx hZ hown (host := "") (Or.inl (hw _ (List.mem_of_getElem? (i := 20) rfl))) Via.refl e0 S_MS (g := (mkF m 30 #[.val (.ref a1), .val (.long qt), .second, .val (.long (9223372036854775807 : Int64)), .second, .val (.ref a1), .val (.int (3 : Int32)), .val (.int (0 : Int32)), .val (.long x0), .second] [(.long (9223372036854775807 : Int64))])) rfl (hb hby d3_30)
  obtain ⟨cq4, kq4, q4a, q4b, q4c⟩ := isOf hZ e3 E_MS
  obtain ⟨_, _, ⟨T4, L4, k4, n4⟩, -, X4, ⟨Lc4, hQ4, l4, y4, z4⟩, st4⟩ := X3.virtualBack hx (y := (⟨"java/util/concurrent/TimeUnit", "toNanos", "(J)J"⟩ : MethodName)) (z := (⟨"java/util/concurrent/TimeUnit", "toNanos", "(J)J"⟩ : MethodName)) hown (mvT hZ (hw _ (List.mem_of_getElem? (i := 22) rfl))) (mvT hZ (hw _ (List.mem_of_getElem? (i := 23) rfl))) (notFace_of_selects (args := #[]) (mvT hZ (hw _ (List.mem_of_getElem? (i := 25) rfl)))) (mvT hZ (hw _ (List.mem_of_getElem? (i := 25) rfl))) (mvT hZ (hw _ (List.mem_of_getElem? (i := 24) rfl))) (by decide) (backOf (W := 2) (rm4 l Z a0 hw [] w_MS x0 h0 n0 Z0 F_scale F_max (own_nan x0) rfl) hZ (hw _ (List.mem_of_getElem? (i := 26) rfl)) (hw _ (List.mem_of_getElem? (i := 21) rfl)) (by decide) (by decide)) q4a q4c (g := (mkF m 35 #[.val (.ref a1), .val (.long qt), .second, .val (.long (9223372036854775807 : Int64)), .second, .val (.ref a1), .val (.int (3 : Int32)), .val (.int (0 : Int32)), .val (.long x0), .second] [(.long x0), (.ref w_MS), (.long (9223372036854775807 : Int64))])) rfl (by rw [hml]; rfl) (Steps.refl _) (argsL := [(.long x0)]) (rest := [(.long (9223372036854775807 : Int64))]) (lenOf pdm_0 rfl) rfl (by show 2 * 0 + _ ≤ _; exact Nat.le_of_eq rfl) (hb hby d3_35) (fun _ _ => ⟨rfl, e3, (by decide : 0 + 0 ≤ _), (by decide : 0 + 0 ≤ _)⟩)
  dsimp only [Pt.U, Pt.locs, Pt.cells, Pt.slots] at X4 l4 y4 z4 st4 hQ4
  subst l4 y4 z4
  obtain ⟨rfl, N4q, e4⟩ := hQ4
  have N4 := Fr.app N0 N4q
  obtain ⟨_, _, ⟨T5, L5, k5, n5⟩, -, X5, ⟨Lc5, hQ5, l5, y5, z5⟩, st5⟩ := Jvm.LawKit.callS X4 hx (y := (⟨"java/lang/Math", "min", "(JJ)J"⟩ : MethodName)) hown (mvT hZ (hw _ (List.mem_of_getElem? (i := 31) rfl))) (mvT hZ (hw _ (List.mem_of_getElem? (i := 10) rfl))) (mvT hZ (hw _ (List.mem_of_getElem? (i := 11) rfl))) (mvT hZ (hw _ (List.mem_of_getElem? (i := 12) rfl))) (by decide) (backOf (W := 0) (rm2 l Z a0 hw [] (9223372036854775807 : Int64) (own_nan x0) h0 n0 Z0 (own_min (9223372036854775807 : Int64) (own_nan x0)) rfl) hZ (hw _ (List.mem_of_getElem? (i := 12) rfl)) (hw _ (List.mem_of_getElem? (i := 11) rfl)) (by decide) (by decide)) (g := (mkF m 38 #[.val (.ref a1), .val (.long qt), .second, .val (.long (9223372036854775807 : Int64)), .second, .val (.ref a1), .val (.int (3 : Int32)), .val (.int (0 : Int32)), .val (.long x0), .second] [(.long (own_nan x0)), (.long (9223372036854775807 : Int64))])) rfl (by rw [hml]; rfl) (argsL := [(.long (9223372036854775807 : Int64)), (.long (own_nan x0))]) (rest := []) (lenOf pdm_1 rfl) rfl (by show 2 * 0 + _ ≤ _; exact Nat.le_of_eq rfl) (hb hby d3_38) (fun _ _ => ⟨rfl, e4, (by decide : 0 + 0 ≤ _), (by decide : 0 + 0 ≤ _)⟩)
  dsimp only [Pt.U, Pt.locs, Pt.cells, Pt.slots] at X5 l5 y5 z5 st5 hQ5
  subst l5 y5 z5
  obtain ⟨rfl, N5q, e5⟩ := hQ5
  have N5 := Fr.app N4 N5q
  obtain ⟨cl_a1_26_6, Ar_a1_26_6, q_a1_26_6, S_a1_26_6, N_a1_26_6, H_a1_26_6, G_a1_26_6⟩ := id V_a
  have hin_a1_26_6 : ¬ ((1 : Int32) < 0 ∨ cl_a1_26_6.slots.size ≤ ((1 : Int32)).toNatClampNeg) := inb_of S_a1_26_6 ⟨by decide, by decide⟩
  have hat_a1_26_6 : cl_a1_26_6.slots[((1 : Int32)).toNatClampNeg]? = some (.long x1) := Has.at H_a1_26_6 hin_a1_26_6 rfl
  obtain ⟨T7, X7, e7, st7⟩ := getS2 X5 hx hZ hown (host := "") (Or.inl (hw _ (List.mem_of_getElem? (i := 20) rfl))) Via.refl e5 S_MS (g := (mkF m 30 #[.val (.ref a1), .val (.long qt), .second, .val (.long (own_min (9223372036854775807 : Int64) (own_nan x0))), .second, .val (.ref a1), .val (.int (3 : Int32)), .val (.int (1 : Int32)), .val (.long x1), .second] [(.long (own_min (9223372036854775807 : Int64) (own_nan x0)))])) rfl (hb hby d3_30)
  obtain ⟨cq8, kq8, q8a, q8b, q8c⟩ := isOf hZ e7 E_MS
  obtain ⟨_, _, ⟨T8, L8, k8, n8⟩, -, X8, ⟨Lc8, hQ8, l8, y8, z8⟩, st8⟩ := X7.virtualBack hx (y := (⟨"java/util/concurrent/TimeUnit", "toNanos", "(J)J"⟩ : MethodName)) (z := (⟨"java/util/concurrent/TimeUnit", "toNanos", "(J)J"⟩ : MethodName)) hown (mvT hZ (hw _ (List.mem_of_getElem? (i := 22) rfl))) (mvT hZ (hw _ (List.mem_of_getElem? (i := 23) rfl))) (notFace_of_selects (args := #[]) (mvT hZ (hw _ (List.mem_of_getElem? (i := 25) rfl)))) (mvT hZ (hw _ (List.mem_of_getElem? (i := 25) rfl))) (mvT hZ (hw _ (List.mem_of_getElem? (i := 24) rfl))) (by decide) (backOf (W := 2) (rm4 l Z a0 hw [] w_MS x1 h0 n0 Z0 F_scale F_max (own_nan x1) rfl) hZ (hw _ (List.mem_of_getElem? (i := 26) rfl)) (hw _ (List.mem_of_getElem? (i := 21) rfl)) (by decide) (by decide)) q8a q8c (g := (mkF m 35 #[.val (.ref a1), .val (.long qt), .second, .val (.long (own_min (9223372036854775807 : Int64) (own_nan x0))), .second, .val (.ref a1), .val (.int (3 : Int32)), .val (.int (1 : Int32)), .val (.long x1), .second] [(.long x1), (.ref w_MS), (.long (own_min (9223372036854775807 : Int64) (own_nan x0)))])) rfl (by rw [hml]; rfl) (Steps.refl _) (argsL := [(.long x1)]) (rest := [(.long (own_min (9223372036854775807 : Int64) (own_nan x0)))]) (lenOf pdm_0 rfl) rfl (by show 2 * 0 + _ ≤ _; exact Nat.le_of_eq rfl) (hb hby d3_35) (fun _ _ => ⟨rfl, e7, (by decide : 0 + 0 ≤ _), (by decide : 0 + 0 ≤ _)⟩)
  dsimp only [Pt.U, Pt.locs, Pt.cells, Pt.slots] at X8 l8 y8 z8 st8 hQ8
  subst l8 y8 z8
  obtain ⟨rfl, N8q, e8⟩ := hQ8
  have N8 := Fr.app N5 N8q
  obtain ⟨_, _, ⟨T9, L9, k9, n9⟩, -, X9, ⟨Lc9, hQ9, l9, y9, z9⟩, st9⟩ := Jvm.LawKit.callS X8 hx (y := (⟨"java/lang/Math", "min", "(JJ)J"⟩ : MethodName)) hown (mvT hZ (hw _ (List.mem_of_getElem? (i := 31) rfl))) (mvT hZ (hw _ (List.mem_of_getElem? (i := 10) rfl))) (mvT hZ (hw _ (List.mem_of_getElem? (i := 11) rfl))) (mvT hZ (hw _ (List.mem_of_getElem? (i := 12) rfl))) (by decide) (backOf (W := 0) (rm2 l Z a0 hw [] (own_min (9223372036854775807 : Int64) (own_nan x0)) (own_nan x1) h0 n0 Z0 (own_min (own_min (9223372036854775807 : Int64) (own_nan x0)) (own_nan x1)) rfl) hZ (hw _ (List.mem_of_getElem? (i := 12) rfl)) (hw _ (List.mem_of_getElem? (i := 11) rfl)) (by decide) (by decide)) (g := (mkF m 38 #[.val (.ref a1), .val (.long qt), .second, .val (.long (own_min (9223372036854775807 : Int64) (own_nan x0))), .second, .val (.ref a1), .val (.int (3 : Int32)), .val (.int (1 : Int32)), .val (.long x1), .second] [(.long (own_nan x1)), (.long (own_min (9223372036854775807 : Int64) (own_nan x0)))])) rfl (by rw [hml]; rfl) (argsL := [(.long (own_min (9223372036854775807 : Int64) (own_nan x0))), (.long (own_nan x1))]) (rest := []) (lenOf pdm_1 rfl) rfl (by show 2 * 0 + _ ≤ _; exact Nat.le_of_eq rfl) (hb hby d3_38) (fun _ _ => ⟨rfl, e8, (by decide : 0 + 0 ≤ _), (by decide : 0 + 0 ≤ _)⟩)
  dsimp only [Pt.U, Pt.locs, Pt.cells, Pt.slots] at X9 l9 y9 z9 st9 hQ9
  subst l9 y9 z9
  obtain ⟨rfl, N9q, e9⟩ := hQ9
  have N9 := Fr.app N8 N9q
  obtain ⟨cl_a1_26_10, Ar_a1_26_10, q_a1_26_10, S_a1_26_10, N_a1_26_10, H_a1_26_10, G_a1_26_10⟩ := id V_a
  have hin_a1_26_10 : ¬ ((2 : Int32) < 0 ∨ cl_a1_26_10.slots.size ≤ ((2 : Int32)).toNatClampNeg) := inb_of S_a1_26_10 ⟨by decide, by decide⟩
  have hat_a1_26_10 : cl_a1_26_10.slots[((2 : Int32)).toNatClampNeg]? = some (.long x2) := Has.at H_a1_26_10 hin_a1_26_10 rfl
  obtain ⟨T11, X11, e11, st11⟩ := getS2 X9 hx hZ hown (host := "") (Or.inl (hw _ (List.mem_of_getElem? (i := 20) rfl))) Via.refl e9 S_MS (g := (mkF m 30 #[.val (.ref a1), .val (.long qt), .second, .val (.long (own_min (own_min (9223372036854775807 : Int64) (own_nan x0)) (own_nan x1))), .second, .val (.ref a1), .val (.int (3 : Int32)), .val (.int (2 : Int32)), .val (.long x2), .second] [(.long (own_min (own_min (9223372036854775807 : Int64) (own_nan x0)) (own_nan x1)))])) rfl (hb hby d3_30)
  obtain ⟨cq12, kq12, q12a, q12b, q12c⟩ := isOf hZ e11 E_MS
  obtain ⟨_, _, ⟨T12, L12, k12, n12⟩, -, X12, ⟨Lc12, hQ12, l12, y12, z12⟩, st12⟩ := X11.virtualBack hx (y := (⟨"java/util/concurrent/TimeUnit", "toNanos", "(J)J"⟩ : MethodName)) (z := (⟨"java/util/concurrent/TimeUnit", "toNanos", "(J)J"⟩ : MethodName)) hown (mvT hZ (hw _ (List.mem_of_getElem? (i := 22) rfl))) (mvT hZ (hw _ (List.mem_of_getElem? (i := 23) rfl))) (notFace_of_selects (args := #[]) (mvT hZ (hw _ (List.mem_of_getElem? (i := 25) rfl)))) (mvT hZ (hw _ (List.mem_of_getElem? (i := 25) rfl))) (mvT hZ (hw _ (List.mem_of_getElem? (i := 24) rfl))) (by decide) (backOf (W := 2) (rm4 l Z a0 hw [] w_MS x2 h0 n0 Z0 F_scale F_max (own_nan x2) rfl) hZ (hw _ (List.mem_of_getElem? (i := 26) rfl)) (hw _ (List.mem_of_getElem? (i := 21) rfl)) (by decide) (by decide)) q12a q12c (g := (mkF m 35 #[.val (.ref a1), .val (.long qt), .second, .val (.long (own_min (own_min (9223372036854775807 : Int64) (own_nan x0)) (own_nan x1))), .second, .val (.ref a1), .val (.int (3 : Int32)), .val (.int (2 : Int32)), .val (.long x2), .second] [(.long x2), (.ref w_MS), (.long (own_min (own_min (9223372036854775807 : Int64) (own_nan x0)) (own_nan x1)))])) rfl (by rw [hml]; rfl) (Steps.refl _) (argsL := [(.long x2)]) (rest := [(.long (own_min (own_min (9223372036854775807 : Int64) (own_nan x0)) (own_nan x1)))]) (lenOf pdm_0 rfl) rfl (by show 2 * 0 + _ ≤ _; exact Nat.le_of_eq rfl) (hb hby d3_35) (fun _ _ => ⟨rfl, e11, (by decide : 0 + 0 ≤ _), (by decide : 0 + 0 ≤ _)⟩)
  dsimp only [Pt.U, Pt.locs, Pt.cells, Pt.slots] at X12 l12 y12 z12 st12 hQ12
  subst l12 y12 z12
  obtain ⟨rfl, N12q, e12⟩ := hQ12
  have N12 := Fr.app N9 N12q
  obtain ⟨_, _, ⟨T13, L13, k13, n13⟩, -, X13, ⟨Lc13, hQ13, l13, y13, z13⟩, st13⟩ := Jvm.LawKit.callS X12 hx (y := (⟨"java/lang/Math", "min", "(JJ)J"⟩ : MethodName)) hown (mvT hZ (hw _ (List.mem_of_getElem? (i := 31) rfl))) (mvT hZ (hw _ (List.mem_of_getElem? (i := 10) rfl))) (mvT hZ (hw _ (List.mem_of_getElem? (i := 11) rfl))) (mvT hZ (hw _ (List.mem_of_getElem? (i := 12) rfl))) (by decide) (backOf (W := 0) (rm2 l Z a0 hw [] (own_min (own_min (9223372036854775807 : Int64) (own_nan x0)) (own_nan x1)) (own_nan x2) h0 n0 Z0 (own_min (own_min (own_min (9223372036854775807 : Int64) (own_nan x0)) (own_nan x1)) (own_nan x2)) rfl) hZ (hw _ (List.mem_of_getElem? (i := 12) rfl)) (hw _ (List.mem_of_getElem? (i := 11) rfl)) (by decide) (by decide)) (g := (mkF m 38 #[.val (.ref a1), .val (.long qt), .second, .val (.long (own_min (own_min (9223372036854775807 : Int64) (own_nan x0)) (own_nan x1))), .second, .val (.ref a1), .val (.int (3 : Int32)), .val (.int (2 : Int32)), .val (.long x2), .second] [(.long (own_nan x2)), (.long (own_min (own_min (9223372036854775807 : Int64) (own_nan x0)) (own_nan x1)))])) rfl (by rw [hml]; rfl) (argsL := [(.long (own_min (own_min (9223372036854775807 : Int64) (own_nan x0)) (own_nan x1))), (.long (own_nan x2))]) (rest := []) (lenOf pdm_1 rfl) rfl (by show 2 * 0 + _ ≤ _; exact Nat.le_of_eq rfl) (hb hby d3_38) (fun _ _ => ⟨rfl, e12, (by decide : 0 + 0 ≤ _), (by decide : 0 + 0 ≤ _)⟩)
  dsimp only [Pt.U, Pt.locs, Pt.cells, Pt.slots] at X13 l13 y13 z13 st13 hQ13
  subst l13 y13 z13
  obtain ⟨rfl, N13q, e13⟩ := hQ13
  have N13 := Fr.app N12 N13q
  obtain ⟨T14, X14, e14, st14⟩ := getS2 X13 hx hZ hown (host := "") (Or.inl (hw _ (List.mem_of_getElem? (i := 34) rfl))) Via.refl e13 S_RND (g := (mkF m 53 #[.val (.ref a1), .val (.long qt), .second, .val (.long (own_min (own_min (own_min (9223372036854775807 : Int64) (own_nan x0)) (own_nan x1)) (own_nan x2))), .second, .val (.ref a1), .val (.int (3 : Int32)), .val (.int (3 : Int32)), .val (.long x2), .second] [(.long ((own_min (own_min (own_min (9223372036854775807 : Int64) (own_nan x0)) (own_nan x1)) (own_nan x2)) / (100 : Int64)))])) rfl (hb hby d3_53)
  obtain ⟨fs, hr, hrun, hended, hW, hsame⟩ := X14.leave (v := some (.long (((own_min (own_min (own_min (9223372036854775807 : Int64) (own_nan x0)) (own_nan x1)) (own_nan x2)) - qt) - (((own_min (own_min (own_min (9223372036854775807 : Int64) (own_nan x0)) (own_nan x1)) (own_nan x2)) / (100 : Int64)) + (2000000 : Int64))))) (fun h => by rw [Bd.returns] at h; cases h)
  refine ⟨_, _, pre0 _ ?_, hrun, hended, _, _, rfl, ?_, ⟨_, rfl⟩, hW, hsame.mono (by decide) (by decide)⟩
  · show Steps p.tables e below (s₁.setTop (mkF m 0 #[.val (.ref a1), .val (.long qt), .second, .unset, .unset, .unset, .unset, .unset, .unset, .unset] [])) _
    refine X0.ldc2Long hx hown (mvT hZ (hw _ (List.mem_of_getElem? (i := 19) rfl))) (g := (mkF m 0 #[.val (.ref a1), .val (.long qt), .second, .unset, .unset, .unset, .unset, .unset, .unset, .unset] [])) rfl (hb hby d3_0) _ ?_
    show Steps p.tables e below (s₁.setTop (mkF m 3 #[.val (.ref a1), .val (.long qt), .second, .unset, .unset, .unset, .unset, .unset, .unset, .unset] [(.long (9223372036854775807 : Int64))])) _
    refine XS.lstoreN X0.here hx rfl (hb hby d3_3) rfl (l' := #[.val (.ref a1), .val (.long qt), .second, .val (.long (9223372036854775807 : Int64)), .second, .unset, .unset, .unset, .unset, .unset]) rfl ?_
    show Steps p.tables e below (s₁.setTop (mkF m 4 #[.val (.ref a1), .val (.long qt), .second, .val (.long (9223372036854775807 : Int64)), .second, .unset, .unset, .unset, .unset, .unset] [])) _
    refine XS.aloadN X0.here hx rfl (hb hby d3_4) rfl rfl ?_
    show Steps p.tables e below (s₁.setTop (mkF m 5 #[.val (.ref a1), .val (.long qt), .second, .val (.long (9223372036854775807 : Int64)), .second, .unset, .unset, .unset, .unset, .unset] [(.ref a1)])) _
    refine XS.astore X0.here hx rfl (hb hby d3_5) rfl rfl (l' := #[.val (.ref a1), .val (.long qt), .second, .val (.long (9223372036854775807 : Int64)), .second, .val (.ref a1), .unset, .unset, .unset, .unset]) rfl ?_
    show Steps p.tables e below (s₁.setTop (mkF m 7 #[.val (.ref a1), .val (.long qt), .second, .val (.long (9223372036854775807 : Int64)), .second, .val (.ref a1), .unset, .unset, .unset, .unset] [])) _
    refine XS.aload X0.here hx rfl (hb hby d3_7) rfl rfl ?_
    show Steps p.tables e below (s₁.setTop (mkF m 9 #[.val (.ref a1), .val (.long qt), .second, .val (.long (9223372036854775807 : Int64)), .second, .val (.ref a1), .unset, .unset, .unset, .unset] [(.ref a1)])) _
    refine X0.arraylength hx (by rw [e0]; exact Ar_a1_9_1.1) (State.isArrayOf_alike hZ.alike Ar_a1_9_1.2.1) (g := (mkF m 9 #[.val (.ref a1), .val (.long qt), .second, .val (.long (9223372036854775807 : Int64)), .second, .val (.ref a1), .unset, .unset, .unset, .unset] [(.ref a1)])) rfl rfl (hb hby d3_9) _ ?_
    rw [len_of S_a1_9_1 N_a1_9_1]
    show Steps p.tables e below (s₁.setTop (mkF m 10 #[.val (.ref a1), .val (.long qt), .second, .val (.long (9223372036854775807 : Int64)), .second, .val (.ref a1), .unset, .unset, .unset, .unset] [(.int (3 : Int32))])) _
    refine XS.istore X0.here hx rfl (hb hby d3_10) rfl (l' := #[.val (.ref a1), .val (.long qt), .second, .val (.long (9223372036854775807 : Int64)), .second, .val (.ref a1), .val (.int (3 : Int32)), .unset, .unset, .unset]) rfl ?_
    show Steps p.tables e below (s₁.setTop (mkF m 12 #[.val (.ref a1), .val (.long qt), .second, .val (.long (9223372036854775807 : Int64)), .second, .val (.ref a1), .val (.int (3 : Int32)), .unset, .unset, .unset] [])) _
    refine XS.iconst X0.here hx rfl (hb hby d3_12) ?_
    show Steps p.tables e below (s₁.setTop (mkF m 13 #[.val (.ref a1), .val (.long qt), .second, .val (.long (9223372036854775807 : Int64)), .second, .val (.ref a1), .val (.int (3 : Int32)), .unset, .unset, .unset] [(.int (0 : Int32))])) _
    refine XS.istore X0.here hx rfl (hb hby d3_13) rfl (l' := #[.val (.ref a1), .val (.long qt), .second, .val (.long (9223372036854775807 : Int64)), .second, .val (.ref a1), .val (.int (3 : Int32)), .val (.int (0 : Int32)), .unset, .unset]) rfl ?_
    show Steps p.tables e below (s₁.setTop (mkF m 15 #[.val (.ref a1), .val (.long qt), .second, .val (.long (9223372036854775807 : Int64)), .second, .val (.ref a1), .val (.int (3 : Int32)), .val (.int (0 : Int32)), .unset, .unset] [])) _
    refine XS.iload X0.here hx rfl (hb hby d3_15) rfl ?_
    show Steps p.tables e below (s₁.setTop (mkF m 17 #[.val (.ref a1), .val (.long qt), .second, .val (.long (9223372036854775807 : Int64)), .second, .val (.ref a1), .val (.int (3 : Int32)), .val (.int (0 : Int32)), .unset, .unset] [(.int (0 : Int32))])) _
    refine XS.iload X0.here hx rfl (hb hby d3_17) rfl ?_
    show Steps p.tables e below (s₁.setTop (mkF m 19 #[.val (.ref a1), .val (.long qt), .second, .val (.long (9223372036854775807 : Int64)), .second, .val (.ref a1), .val (.int (3 : Int32)), .val (.int (0 : Int32)), .unset, .unset] [(.int (3 : Int32)), (.int (0 : Int32))])) _
    refine XS.icmpNo X0.here hx rfl (hb hby d3_19) rfl (tlt (by decide : (0 : Int32) < (3 : Int32))).2.1 ?_
    show Steps p.tables e below (s₁.setTop (mkF m 22 #[.val (.ref a1), .val (.long qt), .second, .val (.long (9223372036854775807 : Int64)), .second, .val (.ref a1), .val (.int (3 : Int32)), .val (.int (0 : Int32)), .unset, .unset] [])) _
    refine XS.aload X0.here hx rfl (hb hby d3_22) rfl rfl ?_
    show Steps p.tables e below (s₁.setTop (mkF m 24 #[.val (.ref a1), .val (.long qt), .second, .val (.long (9223372036854775807 : Int64)), .second, .val (.ref a1), .val (.int (3 : Int32)), .val (.int (0 : Int32)), .unset, .unset] [(.ref a1)])) _
    refine XS.iload X0.here hx rfl (hb hby d3_24) rfl ?_
    show Steps p.tables e below (s₁.setTop (mkF m 26 #[.val (.ref a1), .val (.long qt), .second, .val (.long (9223372036854775807 : Int64)), .second, .val (.ref a1), .val (.int (3 : Int32)), .val (.int (0 : Int32)), .unset, .unset] [(.int (0 : Int32)), (.ref a1)])) _
    refine X0.laload hx (j := (0 : Int32)) (v := (.long x0)) (by rw [e0]; exact Ar_a1_26_2.1) (State.isArrayOf_alike hZ.alike Ar_a1_26_2.2.1) Ar_a1_26_2.2.2 hin_a1_26_2 hat_a1_26_2 (g := (mkF m 26 #[.val (.ref a1), .val (.long qt), .second, .val (.long (9223372036854775807 : Int64)), .second, .val (.ref a1), .val (.int (3 : Int32)), .val (.int (0 : Int32)), .unset, .unset] [(.int (0 : Int32)), (.ref a1)])) rfl rfl (hb hby d3_26) _ ?_
    show Steps p.tables e below (s₁.setTop (mkF m 27 #[.val (.ref a1), .val (.long qt), .second, .val (.long (9223372036854775807 : Int64)), .second, .val (.ref a1), .val (.int (3 : Int32)), .val (.int (0 : Int32)), .unset, .unset] [(.long x0)])) _
    refine XS.lstore X0.here hx rfl (hb hby d3_27) rfl (l' := #[.val (.ref a1), .val (.long qt), .second, .val (.long (9223372036854775807 : Int64)), .second, .val (.ref a1), .val (.int (3 : Int32)), .val (.int (0 : Int32)), .val (.long x0), .second]) rfl ?_
    show Steps p.tables e below (s₁.setTop (mkF m 29 #[.val (.ref a1), .val (.long qt), .second, .val (.long (9223372036854775807 : Int64)), .second, .val (.ref a1), .val (.int (3 : Int32)), .val (.int (0 : Int32)), .val (.long x0), .second] [])) _
    refine XS.lloadN X0.here hx rfl (hb hby d3_29) rfl ?_
    show Steps p.tables e below (s₁.setTop (mkF m 30 #[.val (.ref a1), .val (.long qt), .second, .val (.long (9223372036854775807 : Int64)), .second, .val (.ref a1), .val (.int (3 : Int32)), .val (.int (0 : Int32)), .val (.long x0), .second] [(.long (9223372036854775807 : Int64))])) _
    refine st3 _ ?_
    show Steps p.tables e below (T3.setTop (mkF m 33 #[.val (.ref a1), .val (.long qt), .second, .val (.long (9223372036854775807 : Int64)), .second, .val (.ref a1), .val (.int (3 : Int32)), .val (.int (0 : Int32)), .val (.long x0), .second] [(.ref w_MS), (.long (9223372036854775807 : Int64))])) _
    refine XS.lload X3.here hx rfl (hb hby d3_33) rfl ?_
    show Steps p.tables e below (T3.setTop (mkF m 35 #[.val (.ref a1), .val (.long qt), .second, .val (.long (9223372036854775807 : Int64)), .second, .val (.ref a1), .val (.int (3 : Int32)), .val (.int (0 : Int32)), .val (.long x0), .second] [(.long x0), (.ref w_MS), (.long (9223372036854775807 : Int64))])) _
    refine st4.trans ?_
    show Steps p.tables e below (T4.setTop (mkF m 38 #[.val (.ref a1), .val (.long qt), .second, .val (.long (9223372036854775807 : Int64)), .second, .val (.ref a1), .val (.int (3 : Int32)), .val (.int (0 : Int32)), .val (.long x0), .second] [(.long (own_nan x0)), (.long (9223372036854775807 : Int64))])) _
    refine st5 _ ?_
    show Steps p.tables e below (T5.setTop (mkF m 41 #[.val (.ref a1), .val (.long qt), .second, .val (.long (9223372036854775807 : Int64)), .second, .val (.ref a1), .val (.int (3 : Int32)), .val (.int (0 : Int32)), .val (.long x0), .second] [(.long (own_min (9223372036854775807 : Int64) (own_nan x0)))])) _
    refine XS.lstoreN X5.here hx rfl (hb hby d3_41) rfl (l' := #[.val (.ref a1), .val (.long qt), .second, .val (.long (own_min (9223372036854775807 : Int64) (own_nan x0))), .second, .val (.ref a1), .val (.int (3 : Int32)), .val (.int (0 : Int32)), .val (.long x0), .second]) rfl ?_
    show Steps p.tables e below (T5.setTop (mkF m 42 #[.val (.ref a1), .val (.long qt), .second, .val (.long (own_min (9223372036854775807 : Int64) (own_nan x0))), .second, .val (.ref a1), .val (.int (3 : Int32)), .val (.int (0 : Int32)), .val (.long x0), .second] [])) _
    refine XS.iinc X5.here hx rfl (hb hby d3_42) rfl (l' := #[.val (.ref a1), .val (.long qt), .second, .val (.long (own_min (9223372036854775807 : Int64) (own_nan x0))), .second, .val (.ref a1), .val (.int (3 : Int32)), .val (.int (1 : Int32)), .val (.long x0), .second]) rfl ?_
    show Steps p.tables e below (T5.setTop (mkF m 45 #[.val (.ref a1), .val (.long qt), .second, .val (.long (own_min (9223372036854775807 : Int64) (own_nan x0))), .second, .val (.ref a1), .val (.int (3 : Int32)), .val (.int (1 : Int32)), .val (.long x0), .second] [])) _
    refine XS.goto X5.here hx rfl (pc0 := 45) (pc' := 15) rfl (hb hby d3_45) (by decide) (by decide) ?_
    show Steps p.tables e below (T5.setTop (mkF m 15 #[.val (.ref a1), .val (.long qt), .second, .val (.long (own_min (9223372036854775807 : Int64) (own_nan x0))), .second, .val (.ref a1), .val (.int (3 : Int32)), .val (.int (1 : Int32)), .val (.long x0), .second] [])) _
    refine XS.iload X5.here hx rfl (hb hby d3_15) rfl ?_
    show Steps p.tables e below (T5.setTop (mkF m 17 #[.val (.ref a1), .val (.long qt), .second, .val (.long (own_min (9223372036854775807 : Int64) (own_nan x0))), .second, .val (.ref a1), .val (.int (3 : Int32)), .val (.int (1 : Int32)), .val (.long x0), .second] [(.int (1 : Int32))])) _
    refine XS.iload X5.here hx rfl (hb hby d3_17) rfl ?_
    show Steps p.tables e below (T5.setTop (mkF m 19 #[.val (.ref a1), .val (.long qt), .second, .val (.long (own_min (9223372036854775807 : Int64) (own_nan x0))), .second, .val (.ref a1), .val (.int (3 : Int32)), .val (.int (1 : Int32)), .val (.long x0), .second] [(.int (3 : Int32)), (.int (1 : Int32))])) _
    refine XS.icmpNo X5.here hx rfl (hb hby d3_19) rfl (tlt (by decide : (1 : Int32) < (3 : Int32))).2.1 ?_
    show Steps p.tables e below (T5.setTop (mkF m 22 #[.val (.ref a1), .val (.long qt), .second, .val (.long (own_min (9223372036854775807 : Int64) (own_nan x0))), .second, .val (.ref a1), .val (.int (3 : Int32)), .val (.int (1 : Int32)), .val (.long x0), .second] [])) _
    refine XS.aload X5.here hx rfl (hb hby d3_22) rfl rfl ?_
    show Steps p.tables e below (T5.setTop (mkF m 24 #[.val (.ref a1), .val (.long qt), .second, .val (.long (own_min (9223372036854775807 : Int64) (own_nan x0))), .second, .val (.ref a1), .val (.int (3 : Int32)), .val (.int (1 : Int32)), .val (.long x0), .second] [(.ref a1)])) _
    refine XS.iload X5.here hx rfl (hb hby d3_24) rfl ?_
    show Steps p.tables e below (T5.setTop (mkF m 26 #[.val (.ref a1), .val (.long qt), .second, .val (.long (own_min (9223372036854775807 : Int64) (own_nan x0))), .second, .val (.ref a1), .val (.int (3 : Int32)), .val (.int (1 : Int32)), .val (.long x0), .second] [(.int (1 : Int32)), (.ref a1)])) _
    refine X5.laload hx (j := (1 : Int32)) (v := (.long x1)) (by rw [e5]; exact Ar_a1_26_6.1) (State.isArrayOf_alike hZ.alike Ar_a1_26_6.2.1) Ar_a1_26_6.2.2 hin_a1_26_6 hat_a1_26_6 (g := (mkF m 26 #[.val (.ref a1), .val (.long qt), .second, .val (.long (own_min (9223372036854775807 : Int64) (own_nan x0))), .second, .val (.ref a1), .val (.int (3 : Int32)), .val (.int (1 : Int32)), .val (.long x0), .second] [(.int (1 : Int32)), (.ref a1)])) rfl rfl (hb hby d3_26) _ ?_
    show Steps p.tables e below (T5.setTop (mkF m 27 #[.val (.ref a1), .val (.long qt), .second, .val (.long (own_min (9223372036854775807 : Int64) (own_nan x0))), .second, .val (.ref a1), .val (.int (3 : Int32)), .val (.int (1 : Int32)), .val (.long x0), .second] [(.long x1)])) _
    refine XS.lstore X5.here hx rfl (hb hby d3_27) rfl (l' := #[.val (.ref a1), .val (.long qt), .second, .val (.long (own_min (9223372036854775807 : Int64) (own_nan x0))), .second, .val (.ref a1), .val (.int (3 : Int32)), .val (.int (1 : Int32)), .val (.long x1), .second]) rfl ?_
    show Steps p.tables e below (T5.setTop (mkF m 29 #[.val (.ref a1), .val (.long qt), .second, .val (.long (own_min (9223372036854775807 : Int64) (own_nan x0))), .second, .val (.ref a1), .val (.int (3 : Int32)), .val (.int (1 : Int32)), .val (.long x1), .second] [])) _
    refine XS.lloadN X5.here hx rfl (hb hby d3_29) rfl ?_
    show Steps p.tables e below (T5.setTop (mkF m 30 #[.val (.ref a1), .val (.long qt), .second, .val (.long (own_min (9223372036854775807 : Int64) (own_nan x0))), .second, .val (.ref a1), .val (.int (3 : Int32)), .val (.int (1 : Int32)), .val (.long x1), .second] [(.long (own_min (9223372036854775807 : Int64) (own_nan x0)))])) _
    refine st7 _ ?_
    show Steps p.tables e below (T7.setTop (mkF m 33 #[.val (.ref a1), .val (.long qt), .second, .val (.long (own_min (9223372036854775807 : Int64) (own_nan x0))), .second, .val (.ref a1), .val (.int (3 : Int32)), .val (.int (1 : Int32)), .val (.long x1), .second] [(.ref w_MS), (.long (own_min (9223372036854775807 : Int64) (own_nan x0)))])) _
    refine XS.lload X7.here hx rfl (hb hby d3_33) rfl ?_
    show Steps p.tables e below (T7.setTop (mkF m 35 #[.val (.ref a1), .val (.long qt), .second, .val (.long (own_min (9223372036854775807 : Int64) (own_nan x0))), .second, .val (.ref a1), .val (.int (3 : Int32)), .val (.int (1 : Int32)), .val (.long x1), .second] [(.long x1), (.ref w_MS), (.long (own_min (9223372036854775807 : Int64) (own_nan x0)))])) _
    refine st8.trans ?_
    show Steps p.tables e below (T8.setTop (mkF m 38 #[.val (.ref a1), .val (.long qt), .second, .val (.long (own_min (9223372036854775807 : Int64) (own_nan x0))), .second, .val (.ref a1), .val (.int (3 : Int32)), .val (.int (1 : Int32)), .val (.long x1), .second] [(.long (own_nan x1)), (.long (own_min (9223372036854775807 : Int64) (own_nan x0)))])) _
    refine st9 _ ?_
    show Steps p.tables e below (T9.setTop (mkF m 41 #[.val (.ref a1), .val (.long qt), .second, .val (.long (own_min (9223372036854775807 : Int64) (own_nan x0))), .second, .val (.ref a1), .val (.int (3 : Int32)), .val (.int (1 : Int32)), .val (.long x1), .second] [(.long (own_min (own_min (9223372036854775807 : Int64) (own_nan x0)) (own_nan x1)))])) _
    refine XS.lstoreN X9.here hx rfl (hb hby d3_41) rfl (l' := #[.val (.ref a1), .val (.long qt), .second, .val (.long (own_min (own_min (9223372036854775807 : Int64) (own_nan x0)) (own_nan x1))), .second, .val (.ref a1), .val (.int (3 : Int32)), .val (.int (1 : Int32)), .val (.long x1), .second]) rfl ?_
    show Steps p.tables e below (T9.setTop (mkF m 42 #[.val (.ref a1), .val (.long qt), .second, .val (.long (own_min (own_min (9223372036854775807 : Int64) (own_nan x0)) (own_nan x1))), .second, .val (.ref a1), .val (.int (3 : Int32)), .val (.int (1 : Int32)), .val (.long x1), .second] [])) _
    refine XS.iinc X9.here hx rfl (hb hby d3_42) rfl (l' := #[.val (.ref a1), .val (.long qt), .second, .val (.long (own_min (own_min (9223372036854775807 : Int64) (own_nan x0)) (own_nan x1))), .second, .val (.ref a1), .val (.int (3 : Int32)), .val (.int (2 : Int32)), .val (.long x1), .second]) rfl ?_
    show Steps p.tables e below (T9.setTop (mkF m 45 #[.val (.ref a1), .val (.long qt), .second, .val (.long (own_min (own_min (9223372036854775807 : Int64) (own_nan x0)) (own_nan x1))), .second, .val (.ref a1), .val (.int (3 : Int32)), .val (.int (2 : Int32)), .val (.long x1), .second] [])) _
    refine XS.goto X9.here hx rfl (pc0 := 45) (pc' := 15) rfl (hb hby d3_45) (by decide) (by decide) ?_
    show Steps p.tables e below (T9.setTop (mkF m 15 #[.val (.ref a1), .val (.long qt), .second, .val (.long (own_min (own_min (9223372036854775807 : Int64) (own_nan x0)) (own_nan x1))), .second, .val (.ref a1), .val (.int (3 : Int32)), .val (.int (2 : Int32)), .val (.long x1), .second] [])) _
    refine XS.iload X9.here hx rfl (hb hby d3_15) rfl ?_
    show Steps p.tables e below (T9.setTop (mkF m 17 #[.val (.ref a1), .val (.long qt), .second, .val (.long (own_min (own_min (9223372036854775807 : Int64) (own_nan x0)) (own_nan x1))), .second, .val (.ref a1), .val (.int (3 : Int32)), .val (.int (2 : Int32)), .val (.long x1), .second] [(.int (2 : Int32))])) _
    refine XS.iload X9.here hx rfl (hb hby d3_17) rfl ?_
    show Steps p.tables e below (T9.setTop (mkF m 19 #[.val (.ref a1), .val (.long qt), .second, .val (.long (own_min (own_min (9223372036854775807 : Int64) (own_nan x0)) (own_nan x1))), .second, .val (.ref a1), .val (.int (3 : Int32)), .val (.int (2 : Int32)), .val (.long x1), .second] [(.int (3 : Int32)), (.int (2 : Int32))])) _
    refine XS.icmpNo X9.here hx rfl (hb hby d3_19) rfl (tlt (by decide : (2 : Int32) < (3 : Int32))).2.1 ?_
    show Steps p.tables e below (T9.setTop (mkF m 22 #[.val (.ref a1), .val (.long qt), .second, .val (.long (own_min (own_min (9223372036854775807 : Int64) (own_nan x0)) (own_nan x1))), .second, .val (.ref a1), .val (.int (3 : Int32)), .val (.int (2 : Int32)), .val (.long x1), .second] [])) _
    refine XS.aload X9.here hx rfl (hb hby d3_22) rfl rfl ?_
    show Steps p.tables e below (T9.setTop (mkF m 24 #[.val (.ref a1), .val (.long qt), .second, .val (.long (own_min (own_min (9223372036854775807 : Int64) (own_nan x0)) (own_nan x1))), .second, .val (.ref a1), .val (.int (3 : Int32)), .val (.int (2 : Int32)), .val (.long x1), .second] [(.ref a1)])) _
    refine XS.iload X9.here hx rfl (hb hby d3_24) rfl ?_
    show Steps p.tables e below (T9.setTop (mkF m 26 #[.val (.ref a1), .val (.long qt), .second, .val (.long (own_min (own_min (9223372036854775807 : Int64) (own_nan x0)) (own_nan x1))), .second, .val (.ref a1), .val (.int (3 : Int32)), .val (.int (2 : Int32)), .val (.long x1), .second] [(.int (2 : Int32)), (.ref a1)])) _
    refine X9.laload hx (j := (2 : Int32)) (v := (.long x2)) (by rw [e9]; exact Ar_a1_26_10.1) (State.isArrayOf_alike hZ.alike Ar_a1_26_10.2.1) Ar_a1_26_10.2.2 hin_a1_26_10 hat_a1_26_10 (g := (mkF m 26 #[.val (.ref a1), .val (.long qt), .second, .val (.long (own_min (own_min (9223372036854775807 : Int64) (own_nan x0)) (own_nan x1))), .second, .val (.ref a1), .val (.int (3 : Int32)), .val (.int (2 : Int32)), .val (.long x1), .second] [(.int (2 : Int32)), (.ref a1)])) rfl rfl (hb hby d3_26) _ ?_
    show Steps p.tables e below (T9.setTop (mkF m 27 #[.val (.ref a1), .val (.long qt), .second, .val (.long (own_min (own_min (9223372036854775807 : Int64) (own_nan x0)) (own_nan x1))), .second, .val (.ref a1), .val (.int (3 : Int32)), .val (.int (2 : Int32)), .val (.long x1), .second] [(.long x2)])) _
    refine XS.lstore X9.here hx rfl (hb hby d3_27) rfl (l' := #[.val (.ref a1), .val (.long qt), .second, .val (.long (own_min (own_min (9223372036854775807 : Int64) (own_nan x0)) (own_nan x1))), .second, .val (.ref a1), .val (.int (3 : Int32)), .val (.int (2 : Int32)), .val (.long x2), .second]) rfl ?_
    show Steps p.tables e below (T9.setTop (mkF m 29 #[.val (.ref a1), .val (.long qt), .second, .val (.long (own_min (own_min (9223372036854775807 : Int64) (own_nan x0)) (own_nan x1))), .second, .val (.ref a1), .val (.int (3 : Int32)), .val (.int (2 : Int32)), .val (.long x2), .second] [])) _
    refine XS.lloadN X9.here hx rfl (hb hby d3_29) rfl ?_
    show Steps p.tables e below (T9.setTop (mkF m 30 #[.val (.ref a1), .val (.long qt), .second, .val (.long (own_min (own_min (9223372036854775807 : Int64) (own_nan x0)) (own_nan x1))), .second, .val (.ref a1), .val (.int (3 : Int32)), .val (.int (2 : Int32)), .val (.long x2), .second] [(.long (own_min (own_min (9223372036854775807 : Int64) (own_nan x0)) (own_nan x1)))])) _
    refine st11 _ ?_
    show Steps p.tables e below (T11.setTop (mkF m 33 #[.val (.ref a1), .val (.long qt), .second, .val (.long (own_min (own_min (9223372036854775807 : Int64) (own_nan x0)) (own_nan x1))), .second, .val (.ref a1), .val (.int (3 : Int32)), .val (.int (2 : Int32)), .val (.long x2), .second] [(.ref w_MS), (.long (own_min (own_min (9223372036854775807 : Int64) (own_nan x0)) (own_nan x1)))])) _
    refine XS.lload X11.here hx rfl (hb hby d3_33) rfl ?_
    show Steps p.tables e below (T11.setTop (mkF m 35 #[.val (.ref a1), .val (.long qt), .second, .val (.long (own_min (own_min (9223372036854775807 : Int64) (own_nan x0)) (own_nan x1))), .second, .val (.ref a1), .val (.int (3 : Int32)), .val (.int (2 : Int32)), .val (.long x2), .second] [(.long x2), (.ref w_MS), (.long (own_min (own_min (9223372036854775807 : Int64) (own_nan x0)) (own_nan x1)))])) _
    refine st12.trans ?_
    show Steps p.tables e below (T12.setTop (mkF m 38 #[.val (.ref a1), .val (.long qt), .second, .val (.long (own_min (own_min (9223372036854775807 : Int64) (own_nan x0)) (own_nan x1))), .second, .val (.ref a1), .val (.int (3 : Int32)), .val (.int (2 : Int32)), .val (.long x2), .second] [(.long (own_nan x2)), (.long (own_min (own_min (9223372036854775807 : Int64) (own_nan x0)) (own_nan x1)))])) _
    refine st13 _ ?_
    show Steps p.tables e below (T13.setTop (mkF m 41 #[.val (.ref a1), .val (.long qt), .second, .val (.long (own_min (own_min (9223372036854775807 : Int64) (own_nan x0)) (own_nan x1))), .second, .val (.ref a1), .val (.int (3 : Int32)), .val (.int (2 : Int32)), .val (.long x2), .second] [(.long (own_min (own_min (own_min (9223372036854775807 : Int64) (own_nan x0)) (own_nan x1)) (own_nan x2)))])) _
    refine XS.lstoreN X13.here hx rfl (hb hby d3_41) rfl (l' := #[.val (.ref a1), .val (.long qt), .second, .val (.long (own_min (own_min (own_min (9223372036854775807 : Int64) (own_nan x0)) (own_nan x1)) (own_nan x2))), .second, .val (.ref a1), .val (.int (3 : Int32)), .val (.int (2 : Int32)), .val (.long x2), .second]) rfl ?_
    show Steps p.tables e below (T13.setTop (mkF m 42 #[.val (.ref a1), .val (.long qt), .second, .val (.long (own_min (own_min (own_min (9223372036854775807 : Int64) (own_nan x0)) (own_nan x1)) (own_nan x2))), .second, .val (.ref a1), .val (.int (3 : Int32)), .val (.int (2 : Int32)), .val (.long x2), .second] [])) _
    refine XS.iinc X13.here hx rfl (hb hby d3_42) rfl (l' := #[.val (.ref a1), .val (.long qt), .second, .val (.long (own_min (own_min (own_min (9223372036854775807 : Int64) (own_nan x0)) (own_nan x1)) (own_nan x2))), .second, .val (.ref a1), .val (.int (3 : Int32)), .val (.int (3 : Int32)), .val (.long x2), .second]) rfl ?_
    show Steps p.tables e below (T13.setTop (mkF m 45 #[.val (.ref a1), .val (.long qt), .second, .val (.long (own_min (own_min (own_min (9223372036854775807 : Int64) (own_nan x0)) (own_nan x1)) (own_nan x2))), .second, .val (.ref a1), .val (.int (3 : Int32)), .val (.int (3 : Int32)), .val (.long x2), .second] [])) _
    refine XS.goto X13.here hx rfl (pc0 := 45) (pc' := 15) rfl (hb hby d3_45) (by decide) (by decide) ?_
    show Steps p.tables e below (T13.setTop (mkF m 15 #[.val (.ref a1), .val (.long qt), .second, .val (.long (own_min (own_min (own_min (9223372036854775807 : Int64) (own_nan x0)) (own_nan x1)) (own_nan x2))), .second, .val (.ref a1), .val (.int (3 : Int32)), .val (.int (3 : Int32)), .val (.long x2), .second] [])) _
    refine XS.iload X13.here hx rfl (hb hby d3_15) rfl ?_
    show Steps p.tables e below (T13.setTop (mkF m 17 #[.val (.ref a1), .val (.long qt), .second, .val (.long (own_min (own_min (own_min (9223372036854775807 : Int64) (own_nan x0)) (own_nan x1)) (own_nan x2))), .second, .val (.ref a1), .val (.int (3 : Int32)), .val (.int (3 : Int32)), .val (.long x2), .second] [(.int (3 : Int32))])) _
    refine XS.iload X13.here hx rfl (hb hby d3_17) rfl ?_
    show Steps p.tables e below (T13.setTop (mkF m 19 #[.val (.ref a1), .val (.long qt), .second, .val (.long (own_min (own_min (own_min (9223372036854775807 : Int64) (own_nan x0)) (own_nan x1)) (own_nan x2))), .second, .val (.ref a1), .val (.int (3 : Int32)), .val (.int (3 : Int32)), .val (.long x2), .second] [(.int (3 : Int32)), (.int (3 : Int32))])) _
    refine XS.icmpYes X13.here hx rfl (pc0 := 19) (pc' := 48) rfl (hb hby d3_19) rfl (flt (by decide : ¬ ((3 : Int32) < (3 : Int32)))).2.1 (by decide) (by decide) ?_
    show Steps p.tables e below (T13.setTop (mkF m 48 #[.val (.ref a1), .val (.long qt), .second, .val (.long (own_min (own_min (own_min (9223372036854775807 : Int64) (own_nan x0)) (own_nan x1)) (own_nan x2))), .second, .val (.ref a1), .val (.int (3 : Int32)), .val (.int (3 : Int32)), .val (.long x2), .second] [])) _
    refine XS.lloadN X13.here hx rfl (hb hby d3_48) rfl ?_
    show Steps p.tables e below (T13.setTop (mkF m 49 #[.val (.ref a1), .val (.long qt), .second, .val (.long (own_min (own_min (own_min (9223372036854775807 : Int64) (own_nan x0)) (own_nan x1)) (own_nan x2))), .second, .val (.ref a1), .val (.int (3 : Int32)), .val (.int (3 : Int32)), .val (.long x2), .second] [(.long (own_min (own_min (own_min (9223372036854775807 : Int64) (own_nan x0)) (own_nan x1)) (own_nan x2)))])) _
    refine X13.ldc2Long hx hown (mvT hZ (hw _ (List.mem_of_getElem? (i := 33) rfl))) (g := (mkF m 49 #[.val (.ref a1), .val (.long qt), .second, .val (.long (own_min (own_min (own_min (9223372036854775807 : Int64) (own_nan x0)) (own_nan x1)) (own_nan x2))), .second, .val (.ref a1), .val (.int (3 : Int32)), .val (.int (3 : Int32)), .val (.long x2), .second] [(.long (own_min (own_min (own_min (9223372036854775807 : Int64) (own_nan x0)) (own_nan x1)) (own_nan x2)))])) rfl (hb hby d3_49) _ ?_
    show Steps p.tables e below (T13.setTop (mkF m 52 #[.val (.ref a1), .val (.long qt), .second, .val (.long (own_min (own_min (own_min (9223372036854775807 : Int64) (own_nan x0)) (own_nan x1)) (own_nan x2))), .second, .val (.ref a1), .val (.int (3 : Int32)), .val (.int (3 : Int32)), .val (.long x2), .second] [(.long (100 : Int64)), (.long (own_min (own_min (own_min (9223372036854775807 : Int64) (own_nan x0)) (own_nan x1)) (own_nan x2)))])) _
    refine XS.ldiv X13.here hx rfl (hb hby d3_52) rfl (by decide) ?_
    show Steps p.tables e below (T13.setTop (mkF m 53 #[.val (.ref a1), .val (.long qt), .second, .val (.long (own_min (own_min (own_min (9223372036854775807 : Int64) (own_nan x0)) (own_nan x1)) (own_nan x2))), .second, .val (.ref a1), .val (.int (3 : Int32)), .val (.int (3 : Int32)), .val (.long x2), .second] [(.long ((own_min (own_min (own_min (9223372036854775807 : Int64) (own_nan x0)) (own_nan x1)) (own_nan x2)) / (100 : Int64)))])) _
    refine st14 _ ?_
    show Steps p.tables e below (T14.setTop (mkF m 56 #[.val (.ref a1), .val (.long qt), .second, .val (.long (own_min (own_min (own_min (9223372036854775807 : Int64) (own_nan x0)) (own_nan x1)) (own_nan x2))), .second, .val (.ref a1), .val (.int (3 : Int32)), .val (.int (3 : Int32)), .val (.long x2), .second] [(.long (2000000 : Int64)), (.long ((own_min (own_min (own_min (9223372036854775807 : Int64) (own_nan x0)) (own_nan x1)) (own_nan x2)) / (100 : Int64)))])) _
    refine XS.ladd X14.here hx rfl (hb hby d3_56) rfl ?_
    show Steps p.tables e below (T14.setTop (mkF m 57 #[.val (.ref a1), .val (.long qt), .second, .val (.long (own_min (own_min (own_min (9223372036854775807 : Int64) (own_nan x0)) (own_nan x1)) (own_nan x2))), .second, .val (.ref a1), .val (.int (3 : Int32)), .val (.int (3 : Int32)), .val (.long x2), .second] [(.long (((own_min (own_min (own_min (9223372036854775807 : Int64) (own_nan x0)) (own_nan x1)) (own_nan x2)) / (100 : Int64)) + (2000000 : Int64)))])) _
    refine XS.lstore X14.here hx rfl (hb hby d3_57) rfl (l' := #[.val (.ref a1), .val (.long qt), .second, .val (.long (own_min (own_min (own_min (9223372036854775807 : Int64) (own_nan x0)) (own_nan x1)) (own_nan x2))), .second, .val (.long (((own_min (own_min (own_min (9223372036854775807 : Int64) (own_nan x0)) (own_nan x1)) (own_nan x2)) / (100 : Int64)) + (2000000 : Int64))), .second, .val (.int (3 : Int32)), .val (.long x2), .second]) rfl ?_
    show Steps p.tables e below (T14.setTop (mkF m 59 #[.val (.ref a1), .val (.long qt), .second, .val (.long (own_min (own_min (own_min (9223372036854775807 : Int64) (own_nan x0)) (own_nan x1)) (own_nan x2))), .second, .val (.long (((own_min (own_min (own_min (9223372036854775807 : Int64) (own_nan x0)) (own_nan x1)) (own_nan x2)) / (100 : Int64)) + (2000000 : Int64))), .second, .val (.int (3 : Int32)), .val (.long x2), .second] [])) _
    refine XS.lloadN X14.here hx rfl (hb hby d3_59) rfl ?_
    show Steps p.tables e below (T14.setTop (mkF m 60 #[.val (.ref a1), .val (.long qt), .second, .val (.long (own_min (own_min (own_min (9223372036854775807 : Int64) (own_nan x0)) (own_nan x1)) (own_nan x2))), .second, .val (.long (((own_min (own_min (own_min (9223372036854775807 : Int64) (own_nan x0)) (own_nan x1)) (own_nan x2)) / (100 : Int64)) + (2000000 : Int64))), .second, .val (.int (3 : Int32)), .val (.long x2), .second] [(.long (own_min (own_min (own_min (9223372036854775807 : Int64) (own_nan x0)) (own_nan x1)) (own_nan x2)))])) _
    refine XS.lloadN X14.here hx rfl (hb hby d3_60) rfl ?_
    show Steps p.tables e below (T14.setTop (mkF m 61 #[.val (.ref a1), .val (.long qt), .second, .val (.long (own_min (own_min (own_min (9223372036854775807 : Int64) (own_nan x0)) (own_nan x1)) (own_nan x2))), .second, .val (.long (((own_min (own_min (own_min (9223372036854775807 : Int64) (own_nan x0)) (own_nan x1)) (own_nan x2)) / (100 : Int64)) + (2000000 : Int64))), .second, .val (.int (3 : Int32)), .val (.long x2), .second] [(.long qt), (.long (own_min (own_min (own_min (9223372036854775807 : Int64) (own_nan x0)) (own_nan x1)) (own_nan x2)))])) _
    refine XS.lsub X14.here hx rfl (hb hby d3_61) rfl ?_
    show Steps p.tables e below (T14.setTop (mkF m 62 #[.val (.ref a1), .val (.long qt), .second, .val (.long (own_min (own_min (own_min (9223372036854775807 : Int64) (own_nan x0)) (own_nan x1)) (own_nan x2))), .second, .val (.long (((own_min (own_min (own_min (9223372036854775807 : Int64) (own_nan x0)) (own_nan x1)) (own_nan x2)) / (100 : Int64)) + (2000000 : Int64))), .second, .val (.int (3 : Int32)), .val (.long x2), .second] [(.long ((own_min (own_min (own_min (9223372036854775807 : Int64) (own_nan x0)) (own_nan x1)) (own_nan x2)) - qt))])) _
    refine XS.lload X14.here hx rfl (hb hby d3_62) rfl ?_
    show Steps p.tables e below (T14.setTop (mkF m 64 #[.val (.ref a1), .val (.long qt), .second, .val (.long (own_min (own_min (own_min (9223372036854775807 : Int64) (own_nan x0)) (own_nan x1)) (own_nan x2))), .second, .val (.long (((own_min (own_min (own_min (9223372036854775807 : Int64) (own_nan x0)) (own_nan x1)) (own_nan x2)) / (100 : Int64)) + (2000000 : Int64))), .second, .val (.int (3 : Int32)), .val (.long x2), .second] [(.long (((own_min (own_min (own_min (9223372036854775807 : Int64) (own_nan x0)) (own_nan x1)) (own_nan x2)) / (100 : Int64)) + (2000000 : Int64))), (.long ((own_min (own_min (own_min (9223372036854775807 : Int64) (own_nan x0)) (own_nan x1)) (own_nan x2)) - qt))])) _
    refine XS.lsub X14.here hx rfl (hb hby d3_64) rfl ?_
    show Steps p.tables e below (T14.setTop (mkF m 65 #[.val (.ref a1), .val (.long qt), .second, .val (.long (own_min (own_min (own_min (9223372036854775807 : Int64) (own_nan x0)) (own_nan x1)) (own_nan x2))), .second, .val (.long (((own_min (own_min (own_min (9223372036854775807 : Int64) (own_nan x0)) (own_nan x1)) (own_nan x2)) / (100 : Int64)) + (2000000 : Int64))), .second, .val (.int (3 : Int32)), .val (.long x2), .second] [(.long (((own_min (own_min (own_min (9223372036854775807 : Int64) (own_nan x0)) (own_nan x1)) (own_nan x2)) - qt) - (((own_min (own_min (own_min (9223372036854775807 : Int64) (own_nan x0)) (own_nan x1)) (own_nan x2)) / (100 : Int64)) + (2000000 : Int64))))])) _
    exact retOut X14 hx Bd.returns rfl (Or.inr (Or.inl ⟨rfl, rfl, _, rfl⟩)) (hb hby d3_65) hr
  · show QP (.long (((own_min (own_min (own_min (9223372036854775807 : Int64) (own_nan x0)) (own_nan x1)) (own_nan x2)) - qt) - (((own_min (own_min (own_min (9223372036854775807 : Int64) (own_nan x0)) (own_nan x1)) (own_nan x2)) / (100 : Int64)) + (2000000 : Int64)))) h0 n0 _ T14.heap _
    rw [e14]
    exact ⟨rfl, N13, rfl⟩
theorem own_fin_0 (q4 : Int64) : (((9223372036854775807 : Int64) - q4) - (((9223372036854775807 : Int64) / (100 : Int64)) + (2000000 : Int64))) = ((((9223372036854775807 : Int64) - q4) - ((9223372036854775807 : Int64) / (100 : Int64))) - (2000000 : Int64)) := by
  rw [own_sub4]
  try rfl
theorem pdm_2 : parseMethodDescriptor "([JJ)J" = some ⟨[(.array .long), .long], some .long⟩ := by decide +kernel
theorem ef_rm0_0 (m : MethodId) (q1 : Int64) (q2 : Int64) (q3 : Int64) (q4 : Int64) (p5 : Int32) : entryFrame m #[(.long q1), (.long q2), (.long q3), (.long q4), (.int p5)] maxLocals = mkF m 0 #[.val (.long q1), .second, .val (.long q2), .second, .val (.long q3), .second, .val (.long q4), .second, .val (.int p5), .unset, .unset, .unset, .unset, .unset, .unset, .unset, .unset] [] := by first | (simp [entryFrame, mkF, argsToLocals, Value.category, maxLocals]; done) | rfl
set_option maxRecDepth 65536 in
set_option maxHeartbeats 40000000 in
theorem rm0_0 (l : Launch) (Z : State) (a0 : Array Value) (hw : ∀ d ∈ tables_1, d.before a0 Z = true) (ws : List Jvm.Cond) (q1 : Int64) (q2 : Int64) (q3 : Int64) (q4 : Int64) (p5 : Int32) (w_MS : Addr) (h0 : Heap) (n0 : Nat) (Z0 : n0 ≤ h0.size) (S_MS : Sta Z h0 "java/util/concurrent/TimeUnit" "MILLISECONDS" "Ljava/util/concurrent/TimeUnit;" (.ref w_MS)) (E_MS : Exa Z h0 w_MS "java/util/concurrent/TimeUnit") (F_scale : Fld Z h0 w_MS "java/util/concurrent/TimeUnit" "scale" "J" (.long (1000000 : Int64))) (F_max : Fld Z h0 w_MS "java/util/concurrent/TimeUnit" "maxNanos" "J" (.long (9223372036854 : Int64))) (S_RND : Sta Z h0 "com/example/portunus/portunus/MultiServerLock" "ROUNDING_NANOS" "J" (.long (2000000 : Int64))) (hk : p5 &&& (3 : Int32) = (0 : Int32)) :
    MetFree l x (head1 (Jvm.Cond.code x code maxLocals ret :: ws) room_1) (fun a U => a = #[(.long q1), (.long q2), (.long q3), (.long q4), (.int p5)] ∧ Z.Warmed39 U.vm ∧ U.heap = h0) (fun _ _ _ _ _ => True) (fun _ U o U' => ∃ v L, o = .returned v ∧ QL (.int (1 : Int32)) n0 v U'.heap L ∧ FrameEnd U o U' L room_1.cells room_1.slots) := by
  refine MetFree.of_bodySF (plainFor_of_name pnm_0) hisR ?_
  intro p e s m args below meth c s₁ Bd hml0 hP hK
  obtain ⟨rfl, hZ, hh⟩ := hP
  have hx := Bd.exec
  have hby := Bd.bytes
  have hml : c.maxLocals = 17 := hml0
  have hown : s.vm.findClass "com/example/portunus/portunus/MultiServerLockValidityNanosPinLaw" = some m.cls := findClass_of_methodNamed Bd.named
  have hnm := (name_of_methodNamed Bd.named Bd.method).1
  have X0 : Stand p l e room_1 s m #[(.long q1), (.long q2), (.long q3), (.long q4), (.int p5)] below meth c s₁ [] 0 0 := Stand.of_body Bd
  have e0 : s₁.heap = h0 := by rw [← hh, Bd.state]; rfl
  have N0 := Fr.nil n0
  have pre0 : ∀ t, Steps p.tables e below (s₁.setTop (mkF m 0 #[.val (.long q1), .second, .val (.long q2), .second, .val (.long q3), .second, .val (.long q4), .second, .val (.int p5), .unset, .unset, .unset, .unset, .unset, .unset, .unset, .unset] [])) t → Steps p.tables e below (s₁.setTop (entryFrame m #[(.long q1), (.long q2), (.long q3), (.long q4), (.int p5)] maxLocals)) t := fun t k => castTop (ef_rm0_0 m q1 q2 q3 q4 p5) k
  obtain ⟨T1, h1, k1, X1, e1, E1, A1, st1⟩ := newP X0 hx hZ (hw _ (List.mem_of_getElem? (i := 0) rfl)) e0 (g := (mkF m 8 #[.val (.long q1), .second, .val (.long q2), .second, .val (.long q3), .second, .val (.long q4), .second, .val (.int p5), .val (.int (0 : Int32)), .unset, .unset, .unset, .unset, .unset, .unset, .unset] [(.int (0 : Int32))])) rfl (hb hby at_8) rfl (by decide) (cap := 0) (by decide) (by decide) (by decide) (by decide)
  obtain ⟨b1, g1⟩ : ∃ z, z = h0.size := ⟨_, rfl⟩
  rw [← g1] at A1 st1
  have gb1 : n0 ≤ b1 := Nat.le_trans Z0 (Nat.le_of_eq g1.symm)
  have V_b1 : Arv Z h1 b1 k1 .long (0 : Int32) [] (.long (0 : Int64)) := Arv.new A1 (by decide)
  obtain ⟨_, _, ⟨T2, L2, k2, n2⟩, -, X2, ⟨Lc2, hQ2, l2, y2, z2⟩, st2⟩ := Jvm.LawKit.callS X1 hx (y := (⟨"com/example/portunus/portunus/MultiServerLock", "validityNanos", "([JJ)J"⟩ : MethodName)) hown (mvT hZ (hw _ (List.mem_of_getElem? (i := 15) rfl))) (mvT hZ (hw _ (List.mem_of_getElem? (i := 16) rfl))) (mvT hZ (hw _ (List.mem_of_getElem? (i := 17) rfl))) (mvT hZ (hw _ (List.mem_of_getElem? (i := 18) rfl))) (by decide) (backOf (W := 0) (rm3_0 l Z a0 hw [] b1 q4  k1 w_MS h1 n0 (Nat.le_trans Z0 E1.1) V_b1 (S_MS.ext E1) (E_MS.ext E1) (F_scale.ext E1) (F_max.ext E1) (S_RND.ext E1) (((9223372036854775807 : Int64) - q4) - (((9223372036854775807 : Int64) / (100 : Int64)) + (2000000 : Int64))) rfl) hZ (hw _ (List.mem_of_getElem? (i := 18) rfl)) (hw _ (List.mem_of_getElem? (i := 17) rfl)) (by decide) (by decide)) (g := (mkF m 138 #[.val (.long q1), .second, .val (.long q2), .second, .val (.long q3), .second, .val (.long q4), .second, .val (.int p5), .val (.int (0 : Int32)), .val (.ref b1), .val (.long (9223372036854775807 : Int64)), .second, .val (.long ((((9223372036854775807 : Int64) - q4) - ((9223372036854775807 : Int64) / (100 : Int64))) - (2000000 : Int64))), .second, .unset, .unset] [(.long q4), (.ref b1)])) rfl (by rw [hml]; rfl) (argsL := [(.ref b1), (.long q4)]) (rest := []) (lenOf pdm_2 rfl) rfl (by show 2 * 0 + _ ≤ _; exact Nat.le_of_eq rfl) (hb hby at_138) (fun _ _ => ⟨rfl, e1, (by decide : 1 + 0 ≤ _), (by decide : 0 + 0 ≤ _)⟩)
  dsimp only [Pt.U, Pt.locs, Pt.cells, Pt.slots] at X2 l2 y2 z2 st2 hQ2
  subst l2 y2 z2
  obtain ⟨rfl, N2q, e2⟩ := hQ2
  have N2 := Fr.app N0 N2q
  obtain ⟨fs, hr, hrun, hended, hW, hsame⟩ := X2.leave (v := some (.int (1 : Int32))) (fun h => by rw [Bd.returns] at h; cases h)
  refine ⟨_, _, pre0 _ ?_, hrun, hended, _, _, rfl, ?_, ⟨_, rfl⟩, hW, hsame.mono (by decide) (by decide)⟩
  · show Steps p.tables e below (s₁.setTop (mkF m 0 #[.val (.long q1), .second, .val (.long q2), .second, .val (.long q3), .second, .val (.long q4), .second, .val (.int p5), .unset, .unset, .unset, .unset, .unset, .unset, .unset, .unset] [])) _
    refine XS.iload X0.here hx rfl (hb hby at_0) rfl ?_
    show Steps p.tables e below (s₁.setTop (mkF m 2 #[.val (.long q1), .second, .val (.long q2), .second, .val (.long q3), .second, .val (.long q4), .second, .val (.int p5), .unset, .unset, .unset, .unset, .unset, .unset, .unset, .unset] [(.int p5)])) _
    refine XS.iconst X0.here hx rfl (hb hby at_2) ?_
    show Steps p.tables e below (s₁.setTop (mkF m 3 #[.val (.long q1), .second, .val (.long q2), .second, .val (.long q3), .second, .val (.long q4), .second, .val (.int p5), .unset, .unset, .unset, .unset, .unset, .unset, .unset, .unset] [(.int (3 : Int32)), (.int p5)])) _
    refine XS.iand X0.here hx rfl (hb hby at_3) rfl ?_
    show Steps p.tables e below (s₁.setTop (mkF m 4 #[.val (.long q1), .second, .val (.long q2), .second, .val (.long q3), .second, .val (.long q4), .second, .val (.int p5), .unset, .unset, .unset, .unset, .unset, .unset, .unset, .unset] [(.int (p5 &&& (3 : Int32)))])) _
    rw [hk]
    show Steps p.tables e below (s₁.setTop (mkF m 4 #[.val (.long q1), .second, .val (.long q2), .second, .val (.long q3), .second, .val (.long q4), .second, .val (.int p5), .unset, .unset, .unset, .unset, .unset, .unset, .unset, .unset] [(.int (0 : Int32))])) _
    refine XS.istore X0.here hx rfl (hb hby at_4) rfl (l' := #[.val (.long q1), .second, .val (.long q2), .second, .val (.long q3), .second, .val (.long q4), .second, .val (.int p5), .val (.int (0 : Int32)), .unset, .unset, .unset, .unset, .unset, .unset, .unset]) rfl ?_
    show Steps p.tables e below (s₁.setTop (mkF m 6 #[.val (.long q1), .second, .val (.long q2), .second, .val (.long q3), .second, .val (.long q4), .second, .val (.int p5), .val (.int (0 : Int32)), .unset, .unset, .unset, .unset, .unset, .unset, .unset] [])) _
    refine XS.iload X0.here hx rfl (hb hby at_6) rfl ?_
    show Steps p.tables e below (s₁.setTop (mkF m 8 #[.val (.long q1), .second, .val (.long q2), .second, .val (.long q3), .second, .val (.long q4), .second, .val (.int p5), .val (.int (0 : Int32)), .unset, .unset, .unset, .unset, .unset, .unset, .unset] [(.int (0 : Int32))])) _
    refine st1 _ ?_
    show Steps p.tables e below (T1.setTop (mkF m 10 #[.val (.long q1), .second, .val (.long q2), .second, .val (.long q3), .second, .val (.long q4), .second, .val (.int p5), .val (.int (0 : Int32)), .unset, .unset, .unset, .unset, .unset, .unset, .unset] [(.ref b1)])) _
    refine XS.astore X1.here hx rfl (hb hby at_10) rfl rfl (l' := #[.val (.long q1), .second, .val (.long q2), .second, .val (.long q3), .second, .val (.long q4), .second, .val (.int p5), .val (.int (0 : Int32)), .val (.ref b1), .unset, .unset, .unset, .unset, .unset, .unset]) rfl ?_
    show Steps p.tables e below (T1.setTop (mkF m 12 #[.val (.long q1), .second, .val (.long q2), .second, .val (.long q3), .second, .val (.long q4), .second, .val (.int p5), .val (.int (0 : Int32)), .val (.ref b1), .unset, .unset, .unset, .unset, .unset, .unset] [])) _
    refine XS.iload X1.here hx rfl (hb hby at_12) rfl ?_
    show Steps p.tables e below (T1.setTop (mkF m 14 #[.val (.long q1), .second, .val (.long q2), .second, .val (.long q3), .second, .val (.long q4), .second, .val (.int p5), .val (.int (0 : Int32)), .val (.ref b1), .unset, .unset, .unset, .unset, .unset, .unset] [(.int (0 : Int32))])) _
    refine XS.ifYes X1.here hx rfl (pc0 := 14) (pc' := 22) rfl (hb hby at_14) rfl ((if0 _ _).trans (flt (by decide : ¬ ((0 : Int32) < (0 : Int32)))).2.2.2) (by decide) (by decide) ?_
    show Steps p.tables e below (T1.setTop (mkF m 22 #[.val (.long q1), .second, .val (.long q2), .second, .val (.long q3), .second, .val (.long q4), .second, .val (.int p5), .val (.int (0 : Int32)), .val (.ref b1), .unset, .unset, .unset, .unset, .unset, .unset] [])) _
    refine XS.iload X1.here hx rfl (hb hby at_22) rfl ?_
    show Steps p.tables e below (T1.setTop (mkF m 24 #[.val (.long q1), .second, .val (.long q2), .second, .val (.long q3), .second, .val (.long q4), .second, .val (.int p5), .val (.int (0 : Int32)), .val (.ref b1), .unset, .unset, .unset, .unset, .unset, .unset] [(.int (0 : Int32))])) _
    refine XS.iconst X1.here hx rfl (hb hby at_24) ?_
    show Steps p.tables e below (T1.setTop (mkF m 25 #[.val (.long q1), .second, .val (.long q2), .second, .val (.long q3), .second, .val (.long q4), .second, .val (.int p5), .val (.int (0 : Int32)), .val (.ref b1), .unset, .unset, .unset, .unset, .unset, .unset] [(.int (1 : Int32)), (.int (0 : Int32))])) _
    refine XS.icmpYes X1.here hx rfl (pc0 := 25) (pc' := 33) rfl (hb hby at_25) rfl (flt (by decide : ¬ ((1 : Int32) < (0 : Int32)))).2.2.2 (by decide) (by decide) ?_
    show Steps p.tables e below (T1.setTop (mkF m 33 #[.val (.long q1), .second, .val (.long q2), .second, .val (.long q3), .second, .val (.long q4), .second, .val (.int p5), .val (.int (0 : Int32)), .val (.ref b1), .unset, .unset, .unset, .unset, .unset, .unset] [])) _
    refine XS.iload X1.here hx rfl (hb hby at_33) rfl ?_
    show Steps p.tables e below (T1.setTop (mkF m 35 #[.val (.long q1), .second, .val (.long q2), .second, .val (.long q3), .second, .val (.long q4), .second, .val (.int p5), .val (.int (0 : Int32)), .val (.ref b1), .unset, .unset, .unset, .unset, .unset, .unset] [(.int (0 : Int32))])) _
    refine XS.iconst X1.here hx rfl (hb hby at_35) ?_
    show Steps p.tables e below (T1.setTop (mkF m 36 #[.val (.long q1), .second, .val (.long q2), .second, .val (.long q3), .second, .val (.long q4), .second, .val (.int p5), .val (.int (0 : Int32)), .val (.ref b1), .unset, .unset, .unset, .unset, .unset, .unset] [(.int (2 : Int32)), (.int (0 : Int32))])) _
    refine XS.icmpYes X1.here hx rfl (pc0 := 36) (pc' := 45) rfl (hb hby at_36) rfl (flt (by decide : ¬ ((2 : Int32) < (0 : Int32)))).2.2.2 (by decide) (by decide) ?_
    show Steps p.tables e below (T1.setTop (mkF m 45 #[.val (.long q1), .second, .val (.long q2), .second, .val (.long q3), .second, .val (.long q4), .second, .val (.int p5), .val (.int (0 : Int32)), .val (.ref b1), .unset, .unset, .unset, .unset, .unset, .unset] [])) _
    refine XS.iload X1.here hx rfl (hb hby at_45) rfl ?_
    show Steps p.tables e below (T1.setTop (mkF m 47 #[.val (.long q1), .second, .val (.long q2), .second, .val (.long q3), .second, .val (.long q4), .second, .val (.int p5), .val (.int (0 : Int32)), .val (.ref b1), .unset, .unset, .unset, .unset, .unset, .unset] [(.int (0 : Int32))])) _
    refine XS.ifNo X1.here hx rfl (hb hby at_47) rfl ((if0 _ _).trans (teq (by decide : (0 : Int32) = (0 : Int32))).2) ?_
    show Steps p.tables e below (T1.setTop (mkF m 50 #[.val (.long q1), .second, .val (.long q2), .second, .val (.long q3), .second, .val (.long q4), .second, .val (.int p5), .val (.int (0 : Int32)), .val (.ref b1), .unset, .unset, .unset, .unset, .unset, .unset] [])) _
    refine X1.ldc2Long hx hown (mvT hZ (hw _ (List.mem_of_getElem? (i := 36) rfl))) (g := (mkF m 50 #[.val (.long q1), .second, .val (.long q2), .second, .val (.long q3), .second, .val (.long q4), .second, .val (.int p5), .val (.int (0 : Int32)), .val (.ref b1), .unset, .unset, .unset, .unset, .unset, .unset] [])) rfl (hb hby at_50) _ ?_
    show Steps p.tables e below (T1.setTop (mkF m 53 #[.val (.long q1), .second, .val (.long q2), .second, .val (.long q3), .second, .val (.long q4), .second, .val (.int p5), .val (.int (0 : Int32)), .val (.ref b1), .unset, .unset, .unset, .unset, .unset, .unset] [(.long (9223372036854775807 : Int64))])) _
    refine XS.lstore X1.here hx rfl (hb hby at_53) rfl (l' := #[.val (.long q1), .second, .val (.long q2), .second, .val (.long q3), .second, .val (.long q4), .second, .val (.int p5), .val (.int (0 : Int32)), .val (.ref b1), .val (.long (9223372036854775807 : Int64)), .second, .unset, .unset, .unset, .unset]) rfl ?_
    show Steps p.tables e below (T1.setTop (mkF m 55 #[.val (.long q1), .second, .val (.long q2), .second, .val (.long q3), .second, .val (.long q4), .second, .val (.int p5), .val (.int (0 : Int32)), .val (.ref b1), .val (.long (9223372036854775807 : Int64)), .second, .unset, .unset, .unset, .unset] [])) _
    refine XS.goto X1.here hx rfl (pc0 := 55) (pc' := 116) rfl (hb hby at_55) (by decide) (by decide) ?_
    show Steps p.tables e below (T1.setTop (mkF m 116 #[.val (.long q1), .second, .val (.long q2), .second, .val (.long q3), .second, .val (.long q4), .second, .val (.int p5), .val (.int (0 : Int32)), .val (.ref b1), .val (.long (9223372036854775807 : Int64)), .second, .unset, .unset, .unset, .unset] [])) _
    refine XS.lload X1.here hx rfl (hb hby at_116) rfl ?_
    show Steps p.tables e below (T1.setTop (mkF m 118 #[.val (.long q1), .second, .val (.long q2), .second, .val (.long q3), .second, .val (.long q4), .second, .val (.int p5), .val (.int (0 : Int32)), .val (.ref b1), .val (.long (9223372036854775807 : Int64)), .second, .unset, .unset, .unset, .unset] [(.long (9223372036854775807 : Int64))])) _
    refine XS.lload X1.here hx rfl (hb hby at_118) rfl ?_
    show Steps p.tables e below (T1.setTop (mkF m 120 #[.val (.long q1), .second, .val (.long q2), .second, .val (.long q3), .second, .val (.long q4), .second, .val (.int p5), .val (.int (0 : Int32)), .val (.ref b1), .val (.long (9223372036854775807 : Int64)), .second, .unset, .unset, .unset, .unset] [(.long q4), (.long (9223372036854775807 : Int64))])) _
    refine XS.lsub X1.here hx rfl (hb hby at_120) rfl ?_
    show Steps p.tables e below (T1.setTop (mkF m 121 #[.val (.long q1), .second, .val (.long q2), .second, .val (.long q3), .second, .val (.long q4), .second, .val (.int p5), .val (.int (0 : Int32)), .val (.ref b1), .val (.long (9223372036854775807 : Int64)), .second, .unset, .unset, .unset, .unset] [(.long ((9223372036854775807 : Int64) - q4))])) _
    refine XS.lload X1.here hx rfl (hb hby at_121) rfl ?_
    show Steps p.tables e below (T1.setTop (mkF m 123 #[.val (.long q1), .second, .val (.long q2), .second, .val (.long q3), .second, .val (.long q4), .second, .val (.int p5), .val (.int (0 : Int32)), .val (.ref b1), .val (.long (9223372036854775807 : Int64)), .second, .unset, .unset, .unset, .unset] [(.long (9223372036854775807 : Int64)), (.long ((9223372036854775807 : Int64) - q4))])) _
    refine X1.ldc2Long hx hown (mvT hZ (hw _ (List.mem_of_getElem? (i := 13) rfl))) (g := (mkF m 123 #[.val (.long q1), .second, .val (.long q2), .second, .val (.long q3), .second, .val (.long q4), .second, .val (.int p5), .val (.int (0 : Int32)), .val (.ref b1), .val (.long (9223372036854775807 : Int64)), .second, .unset, .unset, .unset, .unset] [(.long (9223372036854775807 : Int64)), (.long ((9223372036854775807 : Int64) - q4))])) rfl (hb hby at_123) _ ?_
    show Steps p.tables e below (T1.setTop (mkF m 126 #[.val (.long q1), .second, .val (.long q2), .second, .val (.long q3), .second, .val (.long q4), .second, .val (.int p5), .val (.int (0 : Int32)), .val (.ref b1), .val (.long (9223372036854775807 : Int64)), .second, .unset, .unset, .unset, .unset] [(.long (100 : Int64)), (.long (9223372036854775807 : Int64)), (.long ((9223372036854775807 : Int64) - q4))])) _
    refine XS.ldiv X1.here hx rfl (hb hby at_126) rfl (by decide) ?_
    show Steps p.tables e below (T1.setTop (mkF m 127 #[.val (.long q1), .second, .val (.long q2), .second, .val (.long q3), .second, .val (.long q4), .second, .val (.int p5), .val (.int (0 : Int32)), .val (.ref b1), .val (.long (9223372036854775807 : Int64)), .second, .unset, .unset, .unset, .unset] [(.long ((9223372036854775807 : Int64) / (100 : Int64))), (.long ((9223372036854775807 : Int64) - q4))])) _
    refine XS.lsub X1.here hx rfl (hb hby at_127) rfl ?_
    show Steps p.tables e below (T1.setTop (mkF m 128 #[.val (.long q1), .second, .val (.long q2), .second, .val (.long q3), .second, .val (.long q4), .second, .val (.int p5), .val (.int (0 : Int32)), .val (.ref b1), .val (.long (9223372036854775807 : Int64)), .second, .unset, .unset, .unset, .unset] [(.long (((9223372036854775807 : Int64) - q4) - ((9223372036854775807 : Int64) / (100 : Int64))))])) _
    refine X1.ldc2Long hx hown (mvT hZ (hw _ (List.mem_of_getElem? (i := 14) rfl))) (g := (mkF m 128 #[.val (.long q1), .second, .val (.long q2), .second, .val (.long q3), .second, .val (.long q4), .second, .val (.int p5), .val (.int (0 : Int32)), .val (.ref b1), .val (.long (9223372036854775807 : Int64)), .second, .unset, .unset, .unset, .unset] [(.long (((9223372036854775807 : Int64) - q4) - ((9223372036854775807 : Int64) / (100 : Int64))))])) rfl (hb hby at_128) _ ?_
    show Steps p.tables e below (T1.setTop (mkF m 131 #[.val (.long q1), .second, .val (.long q2), .second, .val (.long q3), .second, .val (.long q4), .second, .val (.int p5), .val (.int (0 : Int32)), .val (.ref b1), .val (.long (9223372036854775807 : Int64)), .second, .unset, .unset, .unset, .unset] [(.long (2000000 : Int64)), (.long (((9223372036854775807 : Int64) - q4) - ((9223372036854775807 : Int64) / (100 : Int64))))])) _
    refine XS.lsub X1.here hx rfl (hb hby at_131) rfl ?_
    show Steps p.tables e below (T1.setTop (mkF m 132 #[.val (.long q1), .second, .val (.long q2), .second, .val (.long q3), .second, .val (.long q4), .second, .val (.int p5), .val (.int (0 : Int32)), .val (.ref b1), .val (.long (9223372036854775807 : Int64)), .second, .unset, .unset, .unset, .unset] [(.long ((((9223372036854775807 : Int64) - q4) - ((9223372036854775807 : Int64) / (100 : Int64))) - (2000000 : Int64)))])) _
    refine XS.lstore X1.here hx rfl (hb hby at_132) rfl (l' := #[.val (.long q1), .second, .val (.long q2), .second, .val (.long q3), .second, .val (.long q4), .second, .val (.int p5), .val (.int (0 : Int32)), .val (.ref b1), .val (.long (9223372036854775807 : Int64)), .second, .val (.long ((((9223372036854775807 : Int64) - q4) - ((9223372036854775807 : Int64) / (100 : Int64))) - (2000000 : Int64))), .second, .unset, .unset]) rfl ?_
    show Steps p.tables e below (T1.setTop (mkF m 134 #[.val (.long q1), .second, .val (.long q2), .second, .val (.long q3), .second, .val (.long q4), .second, .val (.int p5), .val (.int (0 : Int32)), .val (.ref b1), .val (.long (9223372036854775807 : Int64)), .second, .val (.long ((((9223372036854775807 : Int64) - q4) - ((9223372036854775807 : Int64) / (100 : Int64))) - (2000000 : Int64))), .second, .unset, .unset] [])) _
    refine XS.aload X1.here hx rfl (hb hby at_134) rfl rfl ?_
    show Steps p.tables e below (T1.setTop (mkF m 136 #[.val (.long q1), .second, .val (.long q2), .second, .val (.long q3), .second, .val (.long q4), .second, .val (.int p5), .val (.int (0 : Int32)), .val (.ref b1), .val (.long (9223372036854775807 : Int64)), .second, .val (.long ((((9223372036854775807 : Int64) - q4) - ((9223372036854775807 : Int64) / (100 : Int64))) - (2000000 : Int64))), .second, .unset, .unset] [(.ref b1)])) _
    refine XS.lload X1.here hx rfl (hb hby at_136) rfl ?_
    show Steps p.tables e below (T1.setTop (mkF m 138 #[.val (.long q1), .second, .val (.long q2), .second, .val (.long q3), .second, .val (.long q4), .second, .val (.int p5), .val (.int (0 : Int32)), .val (.ref b1), .val (.long (9223372036854775807 : Int64)), .second, .val (.long ((((9223372036854775807 : Int64) - q4) - ((9223372036854775807 : Int64) / (100 : Int64))) - (2000000 : Int64))), .second, .unset, .unset] [(.long q4), (.ref b1)])) _
    refine st2 _ ?_
    show Steps p.tables e below (T2.setTop (mkF m 141 #[.val (.long q1), .second, .val (.long q2), .second, .val (.long q3), .second, .val (.long q4), .second, .val (.int p5), .val (.int (0 : Int32)), .val (.ref b1), .val (.long (9223372036854775807 : Int64)), .second, .val (.long ((((9223372036854775807 : Int64) - q4) - ((9223372036854775807 : Int64) / (100 : Int64))) - (2000000 : Int64))), .second, .unset, .unset] [(.long (((9223372036854775807 : Int64) - q4) - (((9223372036854775807 : Int64) / (100 : Int64)) + (2000000 : Int64))))])) _
    refine XS.lstore X2.here hx rfl (hb hby at_141) rfl (l' := #[.val (.long q1), .second, .val (.long q2), .second, .val (.long q3), .second, .val (.long q4), .second, .val (.int p5), .val (.int (0 : Int32)), .val (.ref b1), .val (.long (9223372036854775807 : Int64)), .second, .val (.long ((((9223372036854775807 : Int64) - q4) - ((9223372036854775807 : Int64) / (100 : Int64))) - (2000000 : Int64))), .second, .val (.long (((9223372036854775807 : Int64) - q4) - (((9223372036854775807 : Int64) / (100 : Int64)) + (2000000 : Int64)))), .second]) rfl ?_
    show Steps p.tables e below (T2.setTop (mkF m 143 #[.val (.long q1), .second, .val (.long q2), .second, .val (.long q3), .second, .val (.long q4), .second, .val (.int p5), .val (.int (0 : Int32)), .val (.ref b1), .val (.long (9223372036854775807 : Int64)), .second, .val (.long ((((9223372036854775807 : Int64) - q4) - ((9223372036854775807 : Int64) / (100 : Int64))) - (2000000 : Int64))), .second, .val (.long (((9223372036854775807 : Int64) - q4) - (((9223372036854775807 : Int64) / (100 : Int64)) + (2000000 : Int64)))), .second] [])) _
    refine XS.lload X2.here hx rfl (hb hby at_143) rfl ?_
    show Steps p.tables e below (T2.setTop (mkF m 145 #[.val (.long q1), .second, .val (.long q2), .second, .val (.long q3), .second, .val (.long q4), .second, .val (.int p5), .val (.int (0 : Int32)), .val (.ref b1), .val (.long (9223372036854775807 : Int64)), .second, .val (.long ((((9223372036854775807 : Int64) - q4) - ((9223372036854775807 : Int64) / (100 : Int64))) - (2000000 : Int64))), .second, .val (.long (((9223372036854775807 : Int64) - q4) - (((9223372036854775807 : Int64) / (100 : Int64)) + (2000000 : Int64)))), .second] [(.long (((9223372036854775807 : Int64) - q4) - (((9223372036854775807 : Int64) / (100 : Int64)) + (2000000 : Int64))))])) _
    refine XS.lload X2.here hx rfl (hb hby at_145) rfl ?_
    show Steps p.tables e below (T2.setTop (mkF m 147 #[.val (.long q1), .second, .val (.long q2), .second, .val (.long q3), .second, .val (.long q4), .second, .val (.int p5), .val (.int (0 : Int32)), .val (.ref b1), .val (.long (9223372036854775807 : Int64)), .second, .val (.long ((((9223372036854775807 : Int64) - q4) - ((9223372036854775807 : Int64) / (100 : Int64))) - (2000000 : Int64))), .second, .val (.long (((9223372036854775807 : Int64) - q4) - (((9223372036854775807 : Int64) / (100 : Int64)) + (2000000 : Int64)))), .second] [(.long ((((9223372036854775807 : Int64) - q4) - ((9223372036854775807 : Int64) / (100 : Int64))) - (2000000 : Int64))), (.long (((9223372036854775807 : Int64) - q4) - (((9223372036854775807 : Int64) / (100 : Int64)) + (2000000 : Int64))))])) _
    refine XS.lcmp X2.here hx rfl (hb hby at_147) rfl ?_
    show Steps p.tables e below (T2.setTop (mkF m 148 #[.val (.long q1), .second, .val (.long q2), .second, .val (.long q3), .second, .val (.long q4), .second, .val (.int p5), .val (.int (0 : Int32)), .val (.ref b1), .val (.long (9223372036854775807 : Int64)), .second, .val (.long ((((9223372036854775807 : Int64) - q4) - ((9223372036854775807 : Int64) / (100 : Int64))) - (2000000 : Int64))), .second, .val (.long (((9223372036854775807 : Int64) - q4) - (((9223372036854775807 : Int64) / (100 : Int64)) + (2000000 : Int64)))), .second] [(.int (lcmpW (((9223372036854775807 : Int64) - q4) - (((9223372036854775807 : Int64) / (100 : Int64)) + (2000000 : Int64))) ((((9223372036854775807 : Int64) - q4) - ((9223372036854775807 : Int64) / (100 : Int64))) - (2000000 : Int64))))])) _
    refine XS.ifNo X2.here hx rfl (hb hby at_148) rfl ((if0 _ _).trans (teq ((lw_eq (((9223372036854775807 : Int64) - q4) - (((9223372036854775807 : Int64) / (100 : Int64)) + (2000000 : Int64))) ((((9223372036854775807 : Int64) - q4) - ((9223372036854775807 : Int64) / (100 : Int64))) - (2000000 : Int64))).mpr (own_fin_0 q4))).2) ?_
    show Steps p.tables e below (T2.setTop (mkF m 151 #[.val (.long q1), .second, .val (.long q2), .second, .val (.long q3), .second, .val (.long q4), .second, .val (.int p5), .val (.int (0 : Int32)), .val (.ref b1), .val (.long (9223372036854775807 : Int64)), .second, .val (.long ((((9223372036854775807 : Int64) - q4) - ((9223372036854775807 : Int64) / (100 : Int64))) - (2000000 : Int64))), .second, .val (.long (((9223372036854775807 : Int64) - q4) - (((9223372036854775807 : Int64) / (100 : Int64)) + (2000000 : Int64)))), .second] [])) _
    refine XS.iconst X2.here hx rfl (hb hby at_151) ?_
    show Steps p.tables e below (T2.setTop (mkF m 152 #[.val (.long q1), .second, .val (.long q2), .second, .val (.long q3), .second, .val (.long q4), .second, .val (.int p5), .val (.int (0 : Int32)), .val (.ref b1), .val (.long (9223372036854775807 : Int64)), .second, .val (.long ((((9223372036854775807 : Int64) - q4) - ((9223372036854775807 : Int64) / (100 : Int64))) - (2000000 : Int64))), .second, .val (.long (((9223372036854775807 : Int64) - q4) - (((9223372036854775807 : Int64) / (100 : Int64)) + (2000000 : Int64)))), .second] [(.int (1 : Int32))])) _
    refine XS.goto X2.here hx rfl (pc0 := 152) (pc' := 156) rfl (hb hby at_152) (by decide) (by decide) ?_
    show Steps p.tables e below (T2.setTop (mkF m 156 #[.val (.long q1), .second, .val (.long q2), .second, .val (.long q3), .second, .val (.long q4), .second, .val (.int p5), .val (.int (0 : Int32)), .val (.ref b1), .val (.long (9223372036854775807 : Int64)), .second, .val (.long ((((9223372036854775807 : Int64) - q4) - ((9223372036854775807 : Int64) / (100 : Int64))) - (2000000 : Int64))), .second, .val (.long (((9223372036854775807 : Int64) - q4) - (((9223372036854775807 : Int64) / (100 : Int64)) + (2000000 : Int64)))), .second] [(.int (1 : Int32))])) _
    exact retN X2 hx (t := .boolean) Bd.returns (by simp) (hb hby at_156) hr
  · show QL (.int (1 : Int32)) n0 _ T2.heap _
    exact ⟨rfl, N2, trivial⟩
theorem own_fin_1 (q1 : Int64) (q4 : Int64) : (((own_min (9223372036854775807 : Int64) (own_nan q1)) - q4) - (((own_min (9223372036854775807 : Int64) (own_nan q1)) / (100 : Int64)) + (2000000 : Int64))) = ((((own_nan q1) - q4) - ((own_nan q1) / (100 : Int64))) - (2000000 : Int64)) := by
  rw [own_sub4]
  rw [own_min_max]
theorem ef_rm0_1 (m : MethodId) (q1 : Int64) (q2 : Int64) (q3 : Int64) (q4 : Int64) (p5 : Int32) : entryFrame m #[(.long q1), (.long q2), (.long q3), (.long q4), (.int p5)] maxLocals = mkF m 0 #[.val (.long q1), .second, .val (.long q2), .second, .val (.long q3), .second, .val (.long q4), .second, .val (.int p5), .unset, .unset, .unset, .unset, .unset, .unset, .unset, .unset] [] := by first | (simp [entryFrame, mkF, argsToLocals, Value.category, maxLocals]; done) | rfl
set_option maxRecDepth 65536 in
set_option maxHeartbeats 40000000 in
theorem rm0_1 (l : Launch) (Z : State) (a0 : Array Value) (hw : ∀ d ∈ tables_1, d.before a0 Z = true) (ws : List Jvm.Cond) (q1 : Int64) (q2 : Int64) (q3 : Int64) (q4 : Int64) (p5 : Int32) (w_MS : Addr) (h0 : Heap) (n0 : Nat) (Z0 : n0 ≤ h0.size) (S_MS : Sta Z h0 "java/util/concurrent/TimeUnit" "MILLISECONDS" "Ljava/util/concurrent/TimeUnit;" (.ref w_MS)) (E_MS : Exa Z h0 w_MS "java/util/concurrent/TimeUnit") (F_scale : Fld Z h0 w_MS "java/util/concurrent/TimeUnit" "scale" "J" (.long (1000000 : Int64))) (F_max : Fld Z h0 w_MS "java/util/concurrent/TimeUnit" "maxNanos" "J" (.long (9223372036854 : Int64))) (S_RND : Sta Z h0 "com/example/portunus/portunus/MultiServerLock" "ROUNDING_NANOS" "J" (.long (2000000 : Int64))) (hk : p5 &&& (3 : Int32) = (1 : Int32)) :
    MetFree l x (head1 (Jvm.Cond.code x code maxLocals ret :: ws) room_1) (fun a U => a = #[(.long q1), (.long q2), (.long q3), (.long q4), (.int p5)] ∧ Z.Warmed39 U.vm ∧ U.heap = h0) (fun _ _ _ _ _ => True) (fun _ U o U' => ∃ v L, o = .returned v ∧ QL (.int (1 : Int32)) n0 v U'.heap L ∧ FrameEnd U o U' L room_1.cells room_1.slots) := by
  refine MetFree.of_bodySF (plainFor_of_name pnm_0) hisR ?_
  intro p e s m args below meth c s₁ Bd hml0 hP hK
  obtain ⟨rfl, hZ, hh⟩ := hP
  have hx := Bd.exec
  have hby := Bd.bytes
  have hml : c.maxLocals = 17 := hml0
  have hown : s.vm.findClass "com/example/portunus/portunus/MultiServerLockValidityNanosPinLaw" = some m.cls := findClass_of_methodNamed Bd.named
  have hnm := (name_of_methodNamed Bd.named Bd.method).1
  have X0 : Stand p l e room_1 s m #[(.long q1), (.long q2), (.long q3), (.long q4), (.int p5)] below meth c s₁ [] 0 0 := Stand.of_body Bd
  have e0 : s₁.heap = h0 := by rw [← hh, Bd.state]; rfl
  have N0 := Fr.nil n0
  have pre0 : ∀ t, Steps p.tables e below (s₁.setTop (mkF m 0 #[.val (.long q1), .second, .val (.long q2), .second, .val (.long q3), .second, .val (.long q4), .second, .val (.int p5), .unset, .unset, .unset, .unset, .unset, .unset, .unset, .unset] [])) t → Steps p.tables e below (s₁.setTop (entryFrame m #[(.long q1), (.long q2), (.long q3), (.long q4), (.int p5)] maxLocals)) t := fun t k => castTop (ef_rm0_1 m q1 q2 q3 q4 p5) k
  obtain ⟨T1, h1, k1, X1, e1, E1, A1, st1⟩ := newP X0 hx hZ (hw _ (List.mem_of_getElem? (i := 0) rfl)) e0 (g := (mkF m 8 #[.val (.long q1), .second, .val (.long q2), .second, .val (.long q3), .second, .val (.long q4), .second, .val (.int p5), .val (.int (1 : Int32)), .unset, .unset, .unset, .unset, .unset, .unset, .unset] [(.int (1 : Int32))])) rfl (hb hby at_8) rfl (by decide) (cap := 1) (by decide) (by decide) (by decide) (by decide)
  obtain ⟨b1, g1⟩ : ∃ z, z = h0.size := ⟨_, rfl⟩
  rw [← g1] at A1 st1
  have gb1 : n0 ≤ b1 := Nat.le_trans Z0 (Nat.le_of_eq g1.symm)
  have V_b1 : Arv Z h1 b1 k1 .long (1 : Int32) [(.long (0 : Int64))] (.long (0 : Int64)) := (Arv.new A1 (by decide)).pad (pad_rep [] (.long (0 : Int64)) 1)
  obtain ⟨cl_b1_21, Ar_b1_21, q_b1_21, S_b1_21, N_b1_21, H_b1_21, G_b1_21⟩ := id V_b1
  have hin21 : ¬ ((0 : Int32) < 0 ∨ cl_b1_21.slots.size ≤ ((0 : Int32)).toNatClampNeg) := inb_of S_b1_21 ⟨by decide, by decide⟩
  obtain ⟨T2, h2, X2, e2, W2, st2⟩ := stJ X1 hx hZ e1 Ar_b1_21 (j := (0 : Int32)) hin21 (g := (mkF m 21 #[.val (.long q1), .second, .val (.long q2), .second, .val (.long q3), .second, .val (.long q4), .second, .val (.int p5), .val (.int (1 : Int32)), .val (.ref b1), .unset, .unset, .unset, .unset, .unset, .unset] [(.long q1), (.int (0 : Int32)), (.ref b1)])) rfl rfl (hb hby at_21)
  have V_b1_2 : Arv Z h2 b1 k1 .long (1 : Int32) [(.long q1)] (.long (0 : Int64)) := Arv.set Ar_b1_21 q_b1_21 S_b1_21 N_b1_21 H_b1_21 G_b1_21 rfl W2 0 rfl (Nat.le_of_ble_eq_true rfl)
  have Ec2 := own_extW E1 g1 W2
  have N2 := Fr.snoc X2 N0 gb1
  obtain ⟨_, _, ⟨T3, L3, k3, n3⟩, -, X3, ⟨Lc3, hQ3, l3, y3, z3⟩, st3⟩ := Jvm.LawKit.callS X2 hx (y := (⟨"com/example/portunus/portunus/MultiServerLockValidityNanosPinLaw", "nanos", "(J)J"⟩ : MethodName)) hown (mvT hZ (hw _ (List.mem_of_getElem? (i := 1) rfl))) (mvT hZ (hw _ (List.mem_of_getElem? (i := 2) rfl))) (mvT hZ (hw _ (List.mem_of_getElem? (i := 3) rfl))) (mvT hZ (hw _ (List.mem_of_getElem? (i := 4) rfl))) (by decide) (backOf (W := 0) (rm1 l Z a0 hw [] q1 h2 n0 (Nat.le_trans Z0 Ec2.1) (own_nan q1) rfl) hZ (hw _ (List.mem_of_getElem? (i := 4) rfl)) (hw _ (List.mem_of_getElem? (i := 3) rfl)) (by decide) (by decide)) (g := (mkF m 65 #[.val (.long q1), .second, .val (.long q2), .second, .val (.long q3), .second, .val (.long q4), .second, .val (.int p5), .val (.int (1 : Int32)), .val (.ref b1), .unset, .unset, .unset, .unset, .unset, .unset] [(.long q1)])) rfl (by rw [hml]; rfl) (argsL := [(.long q1)]) (rest := []) (lenOf pdm_0 rfl) rfl (by show 2 * 0 + _ ≤ _; exact Nat.le_of_eq rfl) (hb hby at_65) (fun _ _ => ⟨rfl, e2, (by decide : 1 + 0 ≤ _), (by decide : 1 + 0 ≤ _)⟩)
  dsimp only [Pt.U, Pt.locs, Pt.cells, Pt.slots] at X3 l3 y3 z3 st3 hQ3
  subst l3 y3 z3
  obtain ⟨rfl, N3q, e3⟩ := hQ3
  have N3 := Fr.app N2 N3q
  obtain ⟨_, _, ⟨T4, L4, k4, n4⟩, -, X4, ⟨Lc4, hQ4, l4, y4, z4⟩, st4⟩ := Jvm.LawKit.callS X3 hx (y := (⟨"com/example/portunus/portunus/MultiServerLock", "validityNanos", "([JJ)J"⟩ : MethodName)) hown (mvT hZ (hw _ (List.mem_of_getElem? (i := 15) rfl))) (mvT hZ (hw _ (List.mem_of_getElem? (i := 16) rfl))) (mvT hZ (hw _ (List.mem_of_getElem? (i := 17) rfl))) (mvT hZ (hw _ (List.mem_of_getElem? (i := 18) rfl))) (by decide) (backOf (W := 0) (rm3_1 l Z a0 hw [] b1 q4 q1 k1 w_MS h2 n0 (Nat.le_trans Z0 Ec2.1) V_b1_2 (S_MS.ext Ec2) (E_MS.ext Ec2) (F_scale.ext Ec2) (F_max.ext Ec2) (S_RND.ext Ec2) (((own_min (9223372036854775807 : Int64) (own_nan q1)) - q4) - (((own_min (9223372036854775807 : Int64) (own_nan q1)) / (100 : Int64)) + (2000000 : Int64))) rfl) hZ (hw _ (List.mem_of_getElem? (i := 18) rfl)) (hw _ (List.mem_of_getElem? (i := 17) rfl)) (by decide) (by decide)) (g := (mkF m 138 #[.val (.long q1), .second, .val (.long q2), .second, .val (.long q3), .second, .val (.long q4), .second, .val (.int p5), .val (.int (1 : Int32)), .val (.ref b1), .val (.long (own_nan q1)), .second, .val (.long ((((own_nan q1) - q4) - ((own_nan q1) / (100 : Int64))) - (2000000 : Int64))), .second, .unset, .unset] [(.long q4), (.ref b1)])) rfl (by rw [hml]; rfl) (argsL := [(.ref b1), (.long q4)]) (rest := []) (lenOf pdm_2 rfl) rfl (by show 2 * 0 + _ ≤ _; exact Nat.le_of_eq rfl) (hb hby at_138) (fun _ _ => ⟨rfl, e3, (by decide : 1 + 0 ≤ _), (by decide : 1 + 0 ≤ _)⟩)
  dsimp only [Pt.U, Pt.locs, Pt.cells, Pt.slots] at X4 l4 y4 z4 st4 hQ4
  subst l4 y4 z4
  obtain ⟨rfl, N4q, e4⟩ := hQ4
  have N4 := Fr.app N3 N4q
  obtain ⟨fs, hr, hrun, hended, hW, hsame⟩ := X4.leave (v := some (.int (1 : Int32))) (fun h => by rw [Bd.returns] at h; cases h)
  refine ⟨_, _, pre0 _ ?_, hrun, hended, _, _, rfl, ?_, ⟨_, rfl⟩, hW, hsame.mono (by decide) (by decide)⟩
  · show Steps p.tables e below (s₁.setTop (mkF m 0 #[.val (.long q1), .second, .val (.long q2), .second, .val (.long q3), .second, .val (.long q4), .second, .val (.int p5), .unset, .unset, .unset, .unset, .unset, .unset, .unset, .unset] [])) _
    refine XS.iload X0.here hx rfl (hb hby at_0) rfl ?_
    show Steps p.tables e below (s₁.setTop (mkF m 2 #[.val (.long q1), .second, .val (.long q2), .second, .val (.long q3), .second, .val (.long q4), .second, .val (.int p5), .unset, .unset, .unset, .unset, .unset, .unset, .unset, .unset] [(.int p5)])) _
    refine XS.iconst X0.here hx rfl (hb hby at_2) ?_
    show Steps p.tables e below (s₁.setTop (mkF m 3 #[.val (.long q1), .second, .val (.long q2), .second, .val (.long q3), .second, .val (.long q4), .second, .val (.int p5), .unset, .unset, .unset, .unset, .unset, .unset, .unset, .unset] [(.int (3 : Int32)), (.int p5)])) _
    refine XS.iand X0.here hx rfl (hb hby at_3) rfl ?_
    show Steps p.tables e below (s₁.setTop (mkF m 4 #[.val (.long q1), .second, .val (.long q2), .second, .val (.long q3), .second, .val (.long q4), .second, .val (.int p5), .unset, .unset, .unset, .unset, .unset, .unset, .unset, .unset] [(.int (p5 &&& (3 : Int32)))])) _
    rw [hk]
    show Steps p.tables e below (s₁.setTop (mkF m 4 #[.val (.long q1), .second, .val (.long q2), .second, .val (.long q3), .second, .val (.long q4), .second, .val (.int p5), .unset, .unset, .unset, .unset, .unset, .unset, .unset, .unset] [(.int (1 : Int32))])) _
    refine XS.istore X0.here hx rfl (hb hby at_4) rfl (l' := #[.val (.long q1), .second, .val (.long q2), .second, .val (.long q3), .second, .val (.long q4), .second, .val (.int p5), .val (.int (1 : Int32)), .unset, .unset, .unset, .unset, .unset, .unset, .unset]) rfl ?_
    show Steps p.tables e below (s₁.setTop (mkF m 6 #[.val (.long q1), .second, .val (.long q2), .second, .val (.long q3), .second, .val (.long q4), .second, .val (.int p5), .val (.int (1 : Int32)), .unset, .unset, .unset, .unset, .unset, .unset, .unset] [])) _
    refine XS.iload X0.here hx rfl (hb hby at_6) rfl ?_
    show Steps p.tables e below (s₁.setTop (mkF m 8 #[.val (.long q1), .second, .val (.long q2), .second, .val (.long q3), .second, .val (.long q4), .second, .val (.int p5), .val (.int (1 : Int32)), .unset, .unset, .unset, .unset, .unset, .unset, .unset] [(.int (1 : Int32))])) _
    refine st1 _ ?_
    show Steps p.tables e below (T1.setTop (mkF m 10 #[.val (.long q1), .second, .val (.long q2), .second, .val (.long q3), .second, .val (.long q4), .second, .val (.int p5), .val (.int (1 : Int32)), .unset, .unset, .unset, .unset, .unset, .unset, .unset] [(.ref b1)])) _
    refine XS.astore X1.here hx rfl (hb hby at_10) rfl rfl (l' := #[.val (.long q1), .second, .val (.long q2), .second, .val (.long q3), .second, .val (.long q4), .second, .val (.int p5), .val (.int (1 : Int32)), .val (.ref b1), .unset, .unset, .unset, .unset, .unset, .unset]) rfl ?_
    show Steps p.tables e below (T1.setTop (mkF m 12 #[.val (.long q1), .second, .val (.long q2), .second, .val (.long q3), .second, .val (.long q4), .second, .val (.int p5), .val (.int (1 : Int32)), .val (.ref b1), .unset, .unset, .unset, .unset, .unset, .unset] [])) _
    refine XS.iload X1.here hx rfl (hb hby at_12) rfl ?_
    show Steps p.tables e below (T1.setTop (mkF m 14 #[.val (.long q1), .second, .val (.long q2), .second, .val (.long q3), .second, .val (.long q4), .second, .val (.int p5), .val (.int (1 : Int32)), .val (.ref b1), .unset, .unset, .unset, .unset, .unset, .unset] [(.int (1 : Int32))])) _
    refine XS.ifNo X1.here hx rfl (hb hby at_14) rfl ((if0 _ _).trans (tlt (by decide : (0 : Int32) < (1 : Int32))).2.2.2) ?_
    show Steps p.tables e below (T1.setTop (mkF m 17 #[.val (.long q1), .second, .val (.long q2), .second, .val (.long q3), .second, .val (.long q4), .second, .val (.int p5), .val (.int (1 : Int32)), .val (.ref b1), .unset, .unset, .unset, .unset, .unset, .unset] [])) _
    refine XS.aload X1.here hx rfl (hb hby at_17) rfl rfl ?_
    show Steps p.tables e below (T1.setTop (mkF m 19 #[.val (.long q1), .second, .val (.long q2), .second, .val (.long q3), .second, .val (.long q4), .second, .val (.int p5), .val (.int (1 : Int32)), .val (.ref b1), .unset, .unset, .unset, .unset, .unset, .unset] [(.ref b1)])) _
    refine XS.iconst X1.here hx rfl (hb hby at_19) ?_
    show Steps p.tables e below (T1.setTop (mkF m 20 #[.val (.long q1), .second, .val (.long q2), .second, .val (.long q3), .second, .val (.long q4), .second, .val (.int p5), .val (.int (1 : Int32)), .val (.ref b1), .unset, .unset, .unset, .unset, .unset, .unset] [(.int (0 : Int32)), (.ref b1)])) _
    refine XS.lloadN X1.here hx rfl (hb hby at_20) rfl ?_
    show Steps p.tables e below (T1.setTop (mkF m 21 #[.val (.long q1), .second, .val (.long q2), .second, .val (.long q3), .second, .val (.long q4), .second, .val (.int p5), .val (.int (1 : Int32)), .val (.ref b1), .unset, .unset, .unset, .unset, .unset, .unset] [(.long q1), (.int (0 : Int32)), (.ref b1)])) _
    refine st2 _ ?_
    show Steps p.tables e below (T2.setTop (mkF m 22 #[.val (.long q1), .second, .val (.long q2), .second, .val (.long q3), .second, .val (.long q4), .second, .val (.int p5), .val (.int (1 : Int32)), .val (.ref b1), .unset, .unset, .unset, .unset, .unset, .unset] [])) _
    refine XS.iload X2.here hx rfl (hb hby at_22) rfl ?_
    show Steps p.tables e below (T2.setTop (mkF m 24 #[.val (.long q1), .second, .val (.long q2), .second, .val (.long q3), .second, .val (.long q4), .second, .val (.int p5), .val (.int (1 : Int32)), .val (.ref b1), .unset, .unset, .unset, .unset, .unset, .unset] [(.int (1 : Int32))])) _
    refine XS.iconst X2.here hx rfl (hb hby at_24) ?_
    show Steps p.tables e below (T2.setTop (mkF m 25 #[.val (.long q1), .second, .val (.long q2), .second, .val (.long q3), .second, .val (.long q4), .second, .val (.int p5), .val (.int (1 : Int32)), .val (.ref b1), .unset, .unset, .unset, .unset, .unset, .unset] [(.int (1 : Int32)), (.int (1 : Int32))])) _
    refine XS.icmpYes X2.here hx rfl (pc0 := 25) (pc' := 33) rfl (hb hby at_25) rfl (flt (by decide : ¬ ((1 : Int32) < (1 : Int32)))).2.2.2 (by decide) (by decide) ?_
    show Steps p.tables e below (T2.setTop (mkF m 33 #[.val (.long q1), .second, .val (.long q2), .second, .val (.long q3), .second, .val (.long q4), .second, .val (.int p5), .val (.int (1 : Int32)), .val (.ref b1), .unset, .unset, .unset, .unset, .unset, .unset] [])) _
    refine XS.iload X2.here hx rfl (hb hby at_33) rfl ?_
    show Steps p.tables e below (T2.setTop (mkF m 35 #[.val (.long q1), .second, .val (.long q2), .second, .val (.long q3), .second, .val (.long q4), .second, .val (.int p5), .val (.int (1 : Int32)), .val (.ref b1), .unset, .unset, .unset, .unset, .unset, .unset] [(.int (1 : Int32))])) _
    refine XS.iconst X2.here hx rfl (hb hby at_35) ?_
    show Steps p.tables e below (T2.setTop (mkF m 36 #[.val (.long q1), .second, .val (.long q2), .second, .val (.long q3), .second, .val (.long q4), .second, .val (.int p5), .val (.int (1 : Int32)), .val (.ref b1), .unset, .unset, .unset, .unset, .unset, .unset] [(.int (2 : Int32)), (.int (1 : Int32))])) _
    refine XS.icmpYes X2.here hx rfl (pc0 := 36) (pc' := 45) rfl (hb hby at_36) rfl (flt (by decide : ¬ ((2 : Int32) < (1 : Int32)))).2.2.2 (by decide) (by decide) ?_
    show Steps p.tables e below (T2.setTop (mkF m 45 #[.val (.long q1), .second, .val (.long q2), .second, .val (.long q3), .second, .val (.long q4), .second, .val (.int p5), .val (.int (1 : Int32)), .val (.ref b1), .unset, .unset, .unset, .unset, .unset, .unset] [])) _
    refine XS.iload X2.here hx rfl (hb hby at_45) rfl ?_
    show Steps p.tables e below (T2.setTop (mkF m 47 #[.val (.long q1), .second, .val (.long q2), .second, .val (.long q3), .second, .val (.long q4), .second, .val (.int p5), .val (.int (1 : Int32)), .val (.ref b1), .unset, .unset, .unset, .unset, .unset, .unset] [(.int (1 : Int32))])) _
    refine XS.ifYes X2.here hx rfl (pc0 := 47) (pc' := 58) rfl (hb hby at_47) rfl ((if0 _ _).trans (feq (by decide : ¬ ((1 : Int32) = (0 : Int32)))).2) (by decide) (by decide) ?_
    show Steps p.tables e below (T2.setTop (mkF m 58 #[.val (.long q1), .second, .val (.long q2), .second, .val (.long q3), .second, .val (.long q4), .second, .val (.int p5), .val (.int (1 : Int32)), .val (.ref b1), .unset, .unset, .unset, .unset, .unset, .unset] [])) _
    refine XS.iload X2.here hx rfl (hb hby at_58) rfl ?_
    show Steps p.tables e below (T2.setTop (mkF m 60 #[.val (.long q1), .second, .val (.long q2), .second, .val (.long q3), .second, .val (.long q4), .second, .val (.int p5), .val (.int (1 : Int32)), .val (.ref b1), .unset, .unset, .unset, .unset, .unset, .unset] [(.int (1 : Int32))])) _
    refine XS.iconst X2.here hx rfl (hb hby at_60) ?_
    show Steps p.tables e below (T2.setTop (mkF m 61 #[.val (.long q1), .second, .val (.long q2), .second, .val (.long q3), .second, .val (.long q4), .second, .val (.int p5), .val (.int (1 : Int32)), .val (.ref b1), .unset, .unset, .unset, .unset, .unset, .unset] [(.int (1 : Int32)), (.int (1 : Int32))])) _
    refine XS.icmpNo X2.here hx rfl (hb hby at_61) rfl (teq (by decide : (1 : Int32) = (1 : Int32))).2 ?_
    show Steps p.tables e below (T2.setTop (mkF m 64 #[.val (.long q1), .second, .val (.long q2), .second, .val (.long q3), .second, .val (.long q4), .second, .val (.int p5), .val (.int (1 : Int32)), .val (.ref b1), .unset, .unset, .unset, .unset, .unset, .unset] [])) _
    refine XS.lloadN X2.here hx rfl (hb hby at_64) rfl ?_
    show Steps p.tables e below (T2.setTop (mkF m 65 #[.val (.long q1), .second, .val (.long q2), .second, .val (.long q3), .second, .val (.long q4), .second, .val (.int p5), .val (.int (1 : Int32)), .val (.ref b1), .unset, .unset, .unset, .unset, .unset, .unset] [(.long q1)])) _
    refine st3 _ ?_
    show Steps p.tables e below (T3.setTop (mkF m 68 #[.val (.long q1), .second, .val (.long q2), .second, .val (.long q3), .second, .val (.long q4), .second, .val (.int p5), .val (.int (1 : Int32)), .val (.ref b1), .unset, .unset, .unset, .unset, .unset, .unset] [(.long (own_nan q1))])) _
    refine XS.lstore X3.here hx rfl (hb hby at_68) rfl (l' := #[.val (.long q1), .second, .val (.long q2), .second, .val (.long q3), .second, .val (.long q4), .second, .val (.int p5), .val (.int (1 : Int32)), .val (.ref b1), .val (.long (own_nan q1)), .second, .unset, .unset, .unset, .unset]) rfl ?_
    show Steps p.tables e below (T3.setTop (mkF m 70 #[.val (.long q1), .second, .val (.long q2), .second, .val (.long q3), .second, .val (.long q4), .second, .val (.int p5), .val (.int (1 : Int32)), .val (.ref b1), .val (.long (own_nan q1)), .second, .unset, .unset, .unset, .unset] [])) _
    refine XS.goto X3.here hx rfl (pc0 := 70) (pc' := 116) rfl (hb hby at_70) (by decide) (by decide) ?_
    show Steps p.tables e below (T3.setTop (mkF m 116 #[.val (.long q1), .second, .val (.long q2), .second, .val (.long q3), .second, .val (.long q4), .second, .val (.int p5), .val (.int (1 : Int32)), .val (.ref b1), .val (.long (own_nan q1)), .second, .unset, .unset, .unset, .unset] [])) _
    refine XS.lload X3.here hx rfl (hb hby at_116) rfl ?_
    show Steps p.tables e below (T3.setTop (mkF m 118 #[.val (.long q1), .second, .val (.long q2), .second, .val (.long q3), .second, .val (.long q4), .second, .val (.int p5), .val (.int (1 : Int32)), .val (.ref b1), .val (.long (own_nan q1)), .second, .unset, .unset, .unset, .unset] [(.long (own_nan q1))])) _
    refine XS.lload X3.here hx rfl (hb hby at_118) rfl ?_
    show Steps p.tables e below (T3.setTop (mkF m 120 #[.val (.long q1), .second, .val (.long q2), .second, .val (.long q3), .second, .val (.long q4), .second, .val (.int p5), .val (.int (1 : Int32)), .val (.ref b1), .val (.long (own_nan q1)), .second, .unset, .unset, .unset, .unset] [(.long q4), (.long (own_nan q1))])) _
    refine XS.lsub X3.here hx rfl (hb hby at_120) rfl ?_
    show Steps p.tables e below (T3.setTop (mkF m 121 #[.val (.long q1), .second, .val (.long q2), .second, .val (.long q3), .second, .val (.long q4), .second, .val (.int p5), .val (.int (1 : Int32)), .val (.ref b1), .val (.long (own_nan q1)), .second, .unset, .unset, .unset, .unset] [(.long ((own_nan q1) - q4))])) _
    refine XS.lload X3.here hx rfl (hb hby at_121) rfl ?_
    show Steps p.tables e below (T3.setTop (mkF m 123 #[.val (.long q1), .second, .val (.long q2), .second, .val (.long q3), .second, .val (.long q4), .second, .val (.int p5), .val (.int (1 : Int32)), .val (.ref b1), .val (.long (own_nan q1)), .second, .unset, .unset, .unset, .unset] [(.long (own_nan q1)), (.long ((own_nan q1) - q4))])) _
    refine X3.ldc2Long hx hown (mvT hZ (hw _ (List.mem_of_getElem? (i := 13) rfl))) (g := (mkF m 123 #[.val (.long q1), .second, .val (.long q2), .second, .val (.long q3), .second, .val (.long q4), .second, .val (.int p5), .val (.int (1 : Int32)), .val (.ref b1), .val (.long (own_nan q1)), .second, .unset, .unset, .unset, .unset] [(.long (own_nan q1)), (.long ((own_nan q1) - q4))])) rfl (hb hby at_123) _ ?_
    show Steps p.tables e below (T3.setTop (mkF m 126 #[.val (.long q1), .second, .val (.long q2), .second, .val (.long q3), .second, .val (.long q4), .second, .val (.int p5), .val (.int (1 : Int32)), .val (.ref b1), .val (.long (own_nan q1)), .second, .unset, .unset, .unset, .unset] [(.long (100 : Int64)), (.long (own_nan q1)), (.long ((own_nan q1) - q4))])) _
    refine XS.ldiv X3.here hx rfl (hb hby at_126) rfl (by decide) ?_
    show Steps p.tables e below (T3.setTop (mkF m 127 #[.val (.long q1), .second, .val (.long q2), .second, .val (.long q3), .second, .val (.long q4), .second, .val (.int p5), .val (.int (1 : Int32)), .val (.ref b1), .val (.long (own_nan q1)), .second, .unset, .unset, .unset, .unset] [(.long ((own_nan q1) / (100 : Int64))), (.long ((own_nan q1) - q4))])) _
    refine XS.lsub X3.here hx rfl (hb hby at_127) rfl ?_
    show Steps p.tables e below (T3.setTop (mkF m 128 #[.val (.long q1), .second, .val (.long q2), .second, .val (.long q3), .second, .val (.long q4), .second, .val (.int p5), .val (.int (1 : Int32)), .val (.ref b1), .val (.long (own_nan q1)), .second, .unset, .unset, .unset, .unset] [(.long (((own_nan q1) - q4) - ((own_nan q1) / (100 : Int64))))])) _
    refine X3.ldc2Long hx hown (mvT hZ (hw _ (List.mem_of_getElem? (i := 14) rfl))) (g := (mkF m 128 #[.val (.long q1), .second, .val (.long q2), .second, .val (.long q3), .second, .val (.long q4), .second, .val (.int p5), .val (.int (1 : Int32)), .val (.ref b1), .val (.long (own_nan q1)), .second, .unset, .unset, .unset, .unset] [(.long (((own_nan q1) - q4) - ((own_nan q1) / (100 : Int64))))])) rfl (hb hby at_128) _ ?_
    show Steps p.tables e below (T3.setTop (mkF m 131 #[.val (.long q1), .second, .val (.long q2), .second, .val (.long q3), .second, .val (.long q4), .second, .val (.int p5), .val (.int (1 : Int32)), .val (.ref b1), .val (.long (own_nan q1)), .second, .unset, .unset, .unset, .unset] [(.long (2000000 : Int64)), (.long (((own_nan q1) - q4) - ((own_nan q1) / (100 : Int64))))])) _
    refine XS.lsub X3.here hx rfl (hb hby at_131) rfl ?_
    show Steps p.tables e below (T3.setTop (mkF m 132 #[.val (.long q1), .second, .val (.long q2), .second, .val (.long q3), .second, .val (.long q4), .second, .val (.int p5), .val (.int (1 : Int32)), .val (.ref b1), .val (.long (own_nan q1)), .second, .unset, .unset, .unset, .unset] [(.long ((((own_nan q1) - q4) - ((own_nan q1) / (100 : Int64))) - (2000000 : Int64)))])) _
    refine XS.lstore X3.here hx rfl (hb hby at_132) rfl (l' := #[.val (.long q1), .second, .val (.long q2), .second, .val (.long q3), .second, .val (.long q4), .second, .val (.int p5), .val (.int (1 : Int32)), .val (.ref b1), .val (.long (own_nan q1)), .second, .val (.long ((((own_nan q1) - q4) - ((own_nan q1) / (100 : Int64))) - (2000000 : Int64))), .second, .unset, .unset]) rfl ?_
    show Steps p.tables e below (T3.setTop (mkF m 134 #[.val (.long q1), .second, .val (.long q2), .second, .val (.long q3), .second, .val (.long q4), .second, .val (.int p5), .val (.int (1 : Int32)), .val (.ref b1), .val (.long (own_nan q1)), .second, .val (.long ((((own_nan q1) - q4) - ((own_nan q1) / (100 : Int64))) - (2000000 : Int64))), .second, .unset, .unset] [])) _
    refine XS.aload X3.here hx rfl (hb hby at_134) rfl rfl ?_
    show Steps p.tables e below (T3.setTop (mkF m 136 #[.val (.long q1), .second, .val (.long q2), .second, .val (.long q3), .second, .val (.long q4), .second, .val (.int p5), .val (.int (1 : Int32)), .val (.ref b1), .val (.long (own_nan q1)), .second, .val (.long ((((own_nan q1) - q4) - ((own_nan q1) / (100 : Int64))) - (2000000 : Int64))), .second, .unset, .unset] [(.ref b1)])) _
    refine XS.lload X3.here hx rfl (hb hby at_136) rfl ?_
    show Steps p.tables e below (T3.setTop (mkF m 138 #[.val (.long q1), .second, .val (.long q2), .second, .val (.long q3), .second, .val (.long q4), .second, .val (.int p5), .val (.int (1 : Int32)), .val (.ref b1), .val (.long (own_nan q1)), .second, .val (.long ((((own_nan q1) - q4) - ((own_nan q1) / (100 : Int64))) - (2000000 : Int64))), .second, .unset, .unset] [(.long q4), (.ref b1)])) _
    refine st4 _ ?_
    show Steps p.tables e below (T4.setTop (mkF m 141 #[.val (.long q1), .second, .val (.long q2), .second, .val (.long q3), .second, .val (.long q4), .second, .val (.int p5), .val (.int (1 : Int32)), .val (.ref b1), .val (.long (own_nan q1)), .second, .val (.long ((((own_nan q1) - q4) - ((own_nan q1) / (100 : Int64))) - (2000000 : Int64))), .second, .unset, .unset] [(.long (((own_min (9223372036854775807 : Int64) (own_nan q1)) - q4) - (((own_min (9223372036854775807 : Int64) (own_nan q1)) / (100 : Int64)) + (2000000 : Int64))))])) _
    refine XS.lstore X4.here hx rfl (hb hby at_141) rfl (l' := #[.val (.long q1), .second, .val (.long q2), .second, .val (.long q3), .second, .val (.long q4), .second, .val (.int p5), .val (.int (1 : Int32)), .val (.ref b1), .val (.long (own_nan q1)), .second, .val (.long ((((own_nan q1) - q4) - ((own_nan q1) / (100 : Int64))) - (2000000 : Int64))), .second, .val (.long (((own_min (9223372036854775807 : Int64) (own_nan q1)) - q4) - (((own_min (9223372036854775807 : Int64) (own_nan q1)) / (100 : Int64)) + (2000000 : Int64)))), .second]) rfl ?_
    show Steps p.tables e below (T4.setTop (mkF m 143 #[.val (.long q1), .second, .val (.long q2), .second, .val (.long q3), .second, .val (.long q4), .second, .val (.int p5), .val (.int (1 : Int32)), .val (.ref b1), .val (.long (own_nan q1)), .second, .val (.long ((((own_nan q1) - q4) - ((own_nan q1) / (100 : Int64))) - (2000000 : Int64))), .second, .val (.long (((own_min (9223372036854775807 : Int64) (own_nan q1)) - q4) - (((own_min (9223372036854775807 : Int64) (own_nan q1)) / (100 : Int64)) + (2000000 : Int64)))), .second] [])) _
    refine XS.lload X4.here hx rfl (hb hby at_143) rfl ?_
    show Steps p.tables e below (T4.setTop (mkF m 145 #[.val (.long q1), .second, .val (.long q2), .second, .val (.long q3), .second, .val (.long q4), .second, .val (.int p5), .val (.int (1 : Int32)), .val (.ref b1), .val (.long (own_nan q1)), .second, .val (.long ((((own_nan q1) - q4) - ((own_nan q1) / (100 : Int64))) - (2000000 : Int64))), .second, .val (.long (((own_min (9223372036854775807 : Int64) (own_nan q1)) - q4) - (((own_min (9223372036854775807 : Int64) (own_nan q1)) / (100 : Int64)) + (2000000 : Int64)))), .second] [(.long (((own_min (9223372036854775807 : Int64) (own_nan q1)) - q4) - (((own_min (9223372036854775807 : Int64) (own_nan q1)) / (100 : Int64)) + (2000000 : Int64))))])) _
    refine XS.lload X4.here hx rfl (hb hby at_145) rfl ?_
    show Steps p.tables e below (T4.setTop (mkF m 147 #[.val (.long q1), .second, .val (.long q2), .second, .val (.long q3), .second, .val (.long q4), .second, .val (.int p5), .val (.int (1 : Int32)), .val (.ref b1), .val (.long (own_nan q1)), .second, .val (.long ((((own_nan q1) - q4) - ((own_nan q1) / (100 : Int64))) - (2000000 : Int64))), .second, .val (.long (((own_min (9223372036854775807 : Int64) (own_nan q1)) - q4) - (((own_min (9223372036854775807 : Int64) (own_nan q1)) / (100 : Int64)) + (2000000 : Int64)))), .second] [(.long ((((own_nan q1) - q4) - ((own_nan q1) / (100 : Int64))) - (2000000 : Int64))), (.long (((own_min (9223372036854775807 : Int64) (own_nan q1)) - q4) - (((own_min (9223372036854775807 : Int64) (own_nan q1)) / (100 : Int64)) + (2000000 : Int64))))])) _
    refine XS.lcmp X4.here hx rfl (hb hby at_147) rfl ?_
    show Steps p.tables e below (T4.setTop (mkF m 148 #[.val (.long q1), .second, .val (.long q2), .second, .val (.long q3), .second, .val (.long q4), .second, .val (.int p5), .val (.int (1 : Int32)), .val (.ref b1), .val (.long (own_nan q1)), .second, .val (.long ((((own_nan q1) - q4) - ((own_nan q1) / (100 : Int64))) - (2000000 : Int64))), .second, .val (.long (((own_min (9223372036854775807 : Int64) (own_nan q1)) - q4) - (((own_min (9223372036854775807 : Int64) (own_nan q1)) / (100 : Int64)) + (2000000 : Int64)))), .second] [(.int (lcmpW (((own_min (9223372036854775807 : Int64) (own_nan q1)) - q4) - (((own_min (9223372036854775807 : Int64) (own_nan q1)) / (100 : Int64)) + (2000000 : Int64))) ((((own_nan q1) - q4) - ((own_nan q1) / (100 : Int64))) - (2000000 : Int64))))])) _
    refine XS.ifNo X4.here hx rfl (hb hby at_148) rfl ((if0 _ _).trans (teq ((lw_eq (((own_min (9223372036854775807 : Int64) (own_nan q1)) - q4) - (((own_min (9223372036854775807 : Int64) (own_nan q1)) / (100 : Int64)) + (2000000 : Int64))) ((((own_nan q1) - q4) - ((own_nan q1) / (100 : Int64))) - (2000000 : Int64))).mpr (own_fin_1 q1 q4))).2) ?_
    show Steps p.tables e below (T4.setTop (mkF m 151 #[.val (.long q1), .second, .val (.long q2), .second, .val (.long q3), .second, .val (.long q4), .second, .val (.int p5), .val (.int (1 : Int32)), .val (.ref b1), .val (.long (own_nan q1)), .second, .val (.long ((((own_nan q1) - q4) - ((own_nan q1) / (100 : Int64))) - (2000000 : Int64))), .second, .val (.long (((own_min (9223372036854775807 : Int64) (own_nan q1)) - q4) - (((own_min (9223372036854775807 : Int64) (own_nan q1)) / (100 : Int64)) + (2000000 : Int64)))), .second] [])) _
    refine XS.iconst X4.here hx rfl (hb hby at_151) ?_
    show Steps p.tables e below (T4.setTop (mkF m 152 #[.val (.long q1), .second, .val (.long q2), .second, .val (.long q3), .second, .val (.long q4), .second, .val (.int p5), .val (.int (1 : Int32)), .val (.ref b1), .val (.long (own_nan q1)), .second, .val (.long ((((own_nan q1) - q4) - ((own_nan q1) / (100 : Int64))) - (2000000 : Int64))), .second, .val (.long (((own_min (9223372036854775807 : Int64) (own_nan q1)) - q4) - (((own_min (9223372036854775807 : Int64) (own_nan q1)) / (100 : Int64)) + (2000000 : Int64)))), .second] [(.int (1 : Int32))])) _
    refine XS.goto X4.here hx rfl (pc0 := 152) (pc' := 156) rfl (hb hby at_152) (by decide) (by decide) ?_
    show Steps p.tables e below (T4.setTop (mkF m 156 #[.val (.long q1), .second, .val (.long q2), .second, .val (.long q3), .second, .val (.long q4), .second, .val (.int p5), .val (.int (1 : Int32)), .val (.ref b1), .val (.long (own_nan q1)), .second, .val (.long ((((own_nan q1) - q4) - ((own_nan q1) / (100 : Int64))) - (2000000 : Int64))), .second, .val (.long (((own_min (9223372036854775807 : Int64) (own_nan q1)) - q4) - (((own_min (9223372036854775807 : Int64) (own_nan q1)) / (100 : Int64)) + (2000000 : Int64)))), .second] [(.int (1 : Int32))])) _
    exact retN X4 hx (t := .boolean) Bd.returns (by simp) (hb hby at_156) hr
  · show QL (.int (1 : Int32)) n0 _ T4.heap _
    exact ⟨rfl, N4, trivial⟩
theorem own_fin_2 (q1 : Int64) (q2 : Int64) (q4 : Int64) : (((own_min (own_min (9223372036854775807 : Int64) (own_nan q1)) (own_nan q2)) - q4) - (((own_min (own_min (9223372036854775807 : Int64) (own_nan q1)) (own_nan q2)) / (100 : Int64)) + (2000000 : Int64))) = ((((own_min (own_nan q1) (own_nan q2)) - q4) - ((own_min (own_nan q1) (own_nan q2)) / (100 : Int64))) - (2000000 : Int64)) := by
  rw [own_sub4]
  rw [own_min_max]
theorem ef_rm0_2 (m : MethodId) (q1 : Int64) (q2 : Int64) (q3 : Int64) (q4 : Int64) (p5 : Int32) : entryFrame m #[(.long q1), (.long q2), (.long q3), (.long q4), (.int p5)] maxLocals = mkF m 0 #[.val (.long q1), .second, .val (.long q2), .second, .val (.long q3), .second, .val (.long q4), .second, .val (.int p5), .unset, .unset, .unset, .unset, .unset, .unset, .unset, .unset] [] := by first | (simp [entryFrame, mkF, argsToLocals, Value.category, maxLocals]; done) | rfl
set_option maxRecDepth 65536 in
set_option maxHeartbeats 40000000 in
theorem rm0_2 (l : Launch) (Z : State) (a0 : Array Value) (hw : ∀ d ∈ tables_1, d.before a0 Z = true) (ws : List Jvm.Cond) (q1 : Int64) (q2 : Int64) (q3 : Int64) (q4 : Int64) (p5 : Int32) (w_MS : Addr) (h0 : Heap) (n0 : Nat) (Z0 : n0 ≤ h0.size) (S_MS : Sta Z h0 "java/util/concurrent/TimeUnit" "MILLISECONDS" "Ljava/util/concurrent/TimeUnit;" (.ref w_MS)) (E_MS : Exa Z h0 w_MS "java/util/concurrent/TimeUnit") (F_scale : Fld Z h0 w_MS "java/util/concurrent/TimeUnit" "scale" "J" (.long (1000000 : Int64))) (F_max : Fld Z h0 w_MS "java/util/concurrent/TimeUnit" "maxNanos" "J" (.long (9223372036854 : Int64))) (S_RND : Sta Z h0 "com/example/portunus/portunus/MultiServerLock" "ROUNDING_NANOS" "J" (.long (2000000 : Int64))) (hk : p5 &&& (3 : Int32) = (2 : Int32)) :
    MetFree l x (head1 (Jvm.Cond.code x code maxLocals ret :: ws) room_1) (fun a U => a = #[(.long q1), (.long q2), (.long q3), (.long q4), (.int p5)] ∧ Z.Warmed39 U.vm ∧ U.heap = h0) (fun _ _ _ _ _ => True) (fun _ U o U' => ∃ v L, o = .returned v ∧ QL (.int (1 : Int32)) n0 v U'.heap L ∧ FrameEnd U o U' L room_1.cells room_1.slots) := by
  refine MetFree.of_bodySF (plainFor_of_name pnm_0) hisR ?_
  intro p e s m args below meth c s₁ Bd hml0 hP hK
  obtain ⟨rfl, hZ, hh⟩ := hP
  have hx := Bd.exec
  have hby := Bd.bytes
  have hml : c.maxLocals = 17 := hml0
  have hown : s.vm.findClass "com/example/portunus/portunus/MultiServerLockValidityNanosPinLaw" = some m.cls := findClass_of_methodNamed Bd.named
  have hnm := (name_of_methodNamed Bd.named Bd.method).1
  have X0 : Stand p l e room_1 s m #[(.long q1), (.long q2), (.long q3), (.long q4), (.int p5)] below meth c s₁ [] 0 0 := Stand.of_body Bd
  have e0 : s₁.heap = h0 := by rw [← hh, Bd.state]; rfl
  have N0 := Fr.nil n0
  have pre0 : ∀ t, Steps p.tables e below (s₁.setTop (mkF m 0 #[.val (.long q1), .second, .val (.long q2), .second, .val (.long q3), .second, .val (.long q4), .second, .val (.int p5), .unset, .unset, .unset, .unset, .unset, .unset, .unset, .unset] [])) t → Steps p.tables e below (s₁.setTop (entryFrame m #[(.long q1), (.long q2), (.long q3), (.long q4), (.int p5)] maxLocals)) t := fun t k => castTop (ef_rm0_2 m q1 q2 q3 q4 p5) k
  obtain ⟨T1, h1, k1, X1, e1, E1, A1, st1⟩ := newP X0 hx hZ (hw _ (List.mem_of_getElem? (i := 0) rfl)) e0 (g := (mkF m 8 #[.val (.long q1), .second, .val (.long q2), .second, .val (.long q3), .second, .val (.long q4), .second, .val (.int p5), .val (.int (2 : Int32)), .unset, .unset, .unset, .unset, .unset, .unset, .unset] [(.int (2 : Int32))])) rfl (hb hby at_8) rfl (by decide) (cap := 2) (by decide) (by decide) (by decide) (by decide)
  obtain ⟨b1, g1⟩ : ∃ z, z = h0.size := ⟨_, rfl⟩
  rw [← g1] at A1 st1
  have gb1 : n0 ≤ b1 := Nat.le_trans Z0 (Nat.le_of_eq g1.symm)
  have V_b1 : Arv Z h1 b1 k1 .long (2 : Int32) [(.long (0 : Int64)), (.long (0 : Int64))] (.long (0 : Int64)) := (Arv.new A1 (by decide)).pad (pad_rep [] (.long (0 : Int64)) 2)
  obtain ⟨cl_b1_21, Ar_b1_21, q_b1_21, S_b1_21, N_b1_21, H_b1_21, G_b1_21⟩ := id V_b1
  have hin21 : ¬ ((0 : Int32) < 0 ∨ cl_b1_21.slots.size ≤ ((0 : Int32)).toNatClampNeg) := inb_of S_b1_21 ⟨by decide, by decide⟩
  obtain ⟨T2, h2, X2, e2, W2, st2⟩ := stJ X1 hx hZ e1 Ar_b1_21 (j := (0 : Int32)) hin21 (g := (mkF m 21 #[.val (.long q1), .second, .val (.long q2), .second, .val (.long q3), .second, .val (.long q4), .second, .val (.int p5), .val (.int (2 : Int32)), .val (.ref b1), .unset, .unset, .unset, .unset, .unset, .unset] [(.long q1), (.int (0 : Int32)), (.ref b1)])) rfl rfl (hb hby at_21)
  have V_b1_2 : Arv Z h2 b1 k1 .long (2 : Int32) [(.long q1), (.long (0 : Int64))] (.long (0 : Int64)) := Arv.set Ar_b1_21 q_b1_21 S_b1_21 N_b1_21 H_b1_21 G_b1_21 rfl W2 0 rfl (Nat.le_of_ble_eq_true rfl)
  have Ec2 := own_extW E1 g1 W2
  have N2 := Fr.snoc X2 N0 gb1
  obtain ⟨cl_b1_32, Ar_b1_32, q_b1_32, S_b1_32, N_b1_32, H_b1_32, G_b1_32⟩ := id V_b1_2
  have hin32 : ¬ ((1 : Int32) < 0 ∨ cl_b1_32.slots.size ≤ ((1 : Int32)).toNatClampNeg) := inb_of S_b1_32 ⟨by decide, by decide⟩
  obtain ⟨T3, h3, X3, e3, W3, st3⟩ := stJ X2 hx hZ e2 Ar_b1_32 (j := (1 : Int32)) hin32 (g := (mkF m 32 #[.val (.long q1), .second, .val (.long q2), .second, .val (.long q3), .second, .val (.long q4), .second, .val (.int p5), .val (.int (2 : Int32)), .val (.ref b1), .unset, .unset, .unset, .unset, .unset, .unset] [(.long q2), (.int (1 : Int32)), (.ref b1)])) rfl rfl (hb hby at_32)
  have V_b1_3 : Arv Z h3 b1 k1 .long (2 : Int32) [(.long q1), (.long q2)] (.long (0 : Int64)) := Arv.set Ar_b1_32 q_b1_32 S_b1_32 N_b1_32 H_b1_32 G_b1_32 rfl W3 1 rfl (Nat.le_of_ble_eq_true rfl)
  have Ec3 := own_extW Ec2 g1 W3
  have N3 := Fr.snoc X3 N2 gb1
  obtain ⟨_, _, ⟨T4, L4, k4, n4⟩, -, X4, ⟨Lc4, hQ4, l4, y4, z4⟩, st4⟩ := Jvm.LawKit.callS X3 hx (y := (⟨"com/example/portunus/portunus/MultiServerLockValidityNanosPinLaw", "nanos", "(J)J"⟩ : MethodName)) hown (mvT hZ (hw _ (List.mem_of_getElem? (i := 1) rfl))) (mvT hZ (hw _ (List.mem_of_getElem? (i := 2) rfl))) (mvT hZ (hw _ (List.mem_of_getElem? (i := 3) rfl))) (mvT hZ (hw _ (List.mem_of_getElem? (i := 4) rfl))) (by decide) (backOf (W := 0) (rm1 l Z a0 hw [] q1 h3 n0 (Nat.le_trans Z0 Ec3.1) (own_nan q1) rfl) hZ (hw _ (List.mem_of_getElem? (i := 4) rfl)) (hw _ (List.mem_of_getElem? (i := 3) rfl)) (by decide) (by decide)) (g := (mkF m 80 #[.val (.long q1), .second, .val (.long q2), .second, .val (.long q3), .second, .val (.long q4), .second, .val (.int p5), .val (.int (2 : Int32)), .val (.ref b1), .unset, .unset, .unset, .unset, .unset, .unset] [(.long q1)])) rfl (by rw [hml]; rfl) (argsL := [(.long q1)]) (rest := []) (lenOf pdm_0 rfl) rfl (by show 2 * 0 + _ ≤ _; exact Nat.le_of_eq rfl) (hb hby at_80) (fun _ _ => ⟨rfl, e3, (by decide : 1 + 0 ≤ _), (by decide : 2 + 0 ≤ _)⟩)
  dsimp only [Pt.U, Pt.locs, Pt.cells, Pt.slots] at X4 l4 y4 z4 st4 hQ4
  subst l4 y4 z4
  obtain ⟨rfl, N4q, e4⟩ := hQ4
  have N4 := Fr.app N3 N4q
  obtain ⟨_, _, ⟨T5, L5, k5, n5⟩, -, X5, ⟨Lc5, hQ5, l5, y5, z5⟩, st5⟩ := Jvm.LawKit.callS X4 hx (y := (⟨"com/example/portunus/portunus/MultiServerLockValidityNanosPinLaw", "nanos", "(J)J"⟩ : MethodName)) hown (mvT hZ (hw _ (List.mem_of_getElem? (i := 1) rfl))) (mvT hZ (hw _ (List.mem_of_getElem? (i := 2) rfl))) (mvT hZ (hw _ (List.mem_of_getElem? (i := 3) rfl))) (mvT hZ (hw _ (List.mem_of_getElem? (i := 4) rfl))) (by decide) (backOf (W := 2) (rm1 l Z a0 hw [] q2 h3 n0 (Nat.le_trans Z0 Ec3.1) (own_nan q2) rfl) hZ (hw _ (List.mem_of_getElem? (i := 4) rfl)) (hw _ (List.mem_of_getElem? (i := 3) rfl)) (by decide) (by decide)) (g := (mkF m 84 #[.val (.long q1), .second, .val (.long q2), .second, .val (.long q3), .second, .val (.long q4), .second, .val (.int p5), .val (.int (2 : Int32)), .val (.ref b1), .unset, .unset, .unset, .unset, .unset, .unset] [(.long q2), (.long (own_nan q1))])) rfl (by rw [hml]; rfl) (argsL := [(.long q2)]) (rest := [(.long (own_nan q1))]) (lenOf pdm_0 rfl) rfl (by show 2 * 0 + _ ≤ _; exact Nat.le_of_eq rfl) (hb hby at_84) (fun _ _ => ⟨rfl, e4, (by decide : 1 + 0 ≤ _), (by decide : 2 + 0 ≤ _)⟩)
  dsimp only [Pt.U, Pt.locs, Pt.cells, Pt.slots] at X5 l5 y5 z5 st5 hQ5
  subst l5 y5 z5
  obtain ⟨rfl, N5q, e5⟩ := hQ5
  have N5 := Fr.app N4 N5q
  obtain ⟨_, _, ⟨T6, L6, k6, n6⟩, -, X6, ⟨Lc6, hQ6, l6, y6, z6⟩, st6⟩ := Jvm.LawKit.callS X5 hx (y := (⟨"java/lang/Math", "min", "(JJ)J"⟩ : MethodName)) hown (mvT hZ (hw _ (List.mem_of_getElem? (i := 9) rfl))) (mvT hZ (hw _ (List.mem_of_getElem? (i := 10) rfl))) (mvT hZ (hw _ (List.mem_of_getElem? (i := 11) rfl))) (mvT hZ (hw _ (List.mem_of_getElem? (i := 12) rfl))) (by decide) (backOf (W := 0) (rm2 l Z a0 hw [] (own_nan q1) (own_nan q2) h3 n0 (Nat.le_trans Z0 Ec3.1) (own_min (own_nan q1) (own_nan q2)) rfl) hZ (hw _ (List.mem_of_getElem? (i := 12) rfl)) (hw _ (List.mem_of_getElem? (i := 11) rfl)) (by decide) (by decide)) (g := (mkF m 87 #[.val (.long q1), .second, .val (.long q2), .second, .val (.long q3), .second, .val (.long q4), .second, .val (.int p5), .val (.int (2 : Int32)), .val (.ref b1), .unset, .unset, .unset, .unset, .unset, .unset] [(.long (own_nan q2)), (.long (own_nan q1))])) rfl (by rw [hml]; rfl) (argsL := [(.long (own_nan q1)), (.long (own_nan q2))]) (rest := []) (lenOf pdm_1 rfl) rfl (by show 2 * 0 + _ ≤ _; exact Nat.le_of_eq rfl) (hb hby at_87) (fun _ _ => ⟨rfl, e5, (by decide : 1 + 0 ≤ _), (by decide : 2 + 0 ≤ _)⟩)
  dsimp only [Pt.U, Pt.locs, Pt.cells, Pt.slots] at X6 l6 y6 z6 st6 hQ6
  subst l6 y6 z6
  obtain ⟨rfl, N6q, e6⟩ := hQ6
  have N6 := Fr.app N5 N6q
  obtain ⟨_, _, ⟨T7, L7, k7, n7⟩, -, X7, ⟨Lc7, hQ7, l7, y7, z7⟩, st7⟩ := Jvm.LawKit.callS X6 hx (y := (⟨"com/example/portunus/portunus/MultiServerLock", "validityNanos", "([JJ)J"⟩ : MethodName)) hown (mvT hZ (hw _ (List.mem_of_getElem? (i := 15) rfl))) (mvT hZ (hw _ (List.mem_of_getElem? (i := 16) rfl))) (mvT hZ (hw _ (List.mem_of_getElem? (i := 17) rfl))) (mvT hZ (hw _ (List.mem_of_getElem? (i := 18) rfl))) (by decide) (backOf (W := 0) (rm3_2 l Z a0 hw [] b1 q4 q1 q2 k1 w_MS h3 n0 (Nat.le_trans Z0 Ec3.1) V_b1_3 (S_MS.ext Ec3) (E_MS.ext Ec3) (F_scale.ext Ec3) (F_max.ext Ec3) (S_RND.ext Ec3) (((own_min (own_min (9223372036854775807 : Int64) (own_nan q1)) (own_nan q2)) - q4) - (((own_min (own_min (9223372036854775807 : Int64) (own_nan q1)) (own_nan q2)) / (100 : Int64)) + (2000000 : Int64))) rfl) hZ (hw _ (List.mem_of_getElem? (i := 18) rfl)) (hw _ (List.mem_of_getElem? (i := 17) rfl)) (by decide) (by decide)) (g := (mkF m 138 #[.val (.long q1), .second, .val (.long q2), .second, .val (.long q3), .second, .val (.long q4), .second, .val (.int p5), .val (.int (2 : Int32)), .val (.ref b1), .val (.long (own_min (own_nan q1) (own_nan q2))), .second, .val (.long ((((own_min (own_nan q1) (own_nan q2)) - q4) - ((own_min (own_nan q1) (own_nan q2)) / (100 : Int64))) - (2000000 : Int64))), .second, .unset, .unset] [(.long q4), (.ref b1)])) rfl (by rw [hml]; rfl) (argsL := [(.ref b1), (.long q4)]) (rest := []) (lenOf pdm_2 rfl) rfl (by show 2 * 0 + _ ≤ _; exact Nat.le_of_eq rfl) (hb hby at_138) (fun _ _ => ⟨rfl, e6, (by decide : 1 + 0 ≤ _), (by decide : 2 + 0 ≤ _)⟩)
  dsimp only [Pt.U, Pt.locs, Pt.cells, Pt.slots] at X7 l7 y7 z7 st7 hQ7
  subst l7 y7 z7
  obtain ⟨rfl, N7q, e7⟩ := hQ7
  have N7 := Fr.app N6 N7q
  obtain ⟨fs, hr, hrun, hended, hW, hsame⟩ := X7.leave (v := some (.int (1 : Int32))) (fun h => by rw [Bd.returns] at h; cases h)
  refine ⟨_, _, pre0 _ ?_, hrun, hended, _, _, rfl, ?_, ⟨_, rfl⟩, hW, hsame.mono (by decide) (by decide)⟩
  · show Steps p.tables e below (s₁.setTop (mkF m 0 #[.val (.long q1), .second, .val (.long q2), .second, .val (.long q3), .second, .val (.long q4), .second, .val (.int p5), .unset, .unset, .unset, .unset, .unset, .unset, .unset, .unset] [])) _
    refine XS.iload X0.here hx rfl (hb hby at_0) rfl ?_
    show Steps p.tables e below (s₁.setTop (mkF m 2 #[.val (.long q1), .second, .val (.long q2), .second, .val (.long q3), .second, .val (.long q4), .second, .val (.int p5), .unset, .unset, .unset, .unset, .unset, .unset, .unset, .unset] [(.int p5)])) _
    refine XS.iconst X0.here hx rfl (hb hby at_2) ?_
    show Steps p.tables e below (s₁.setTop (mkF m 3 #[.val (.long q1), .second, .val (.long q2), .second, .val (.long q3), .second, .val (.long q4), .second, .val (.int p5), .unset, .unset, .unset, .unset, .unset, .unset, .unset, .unset] [(.int (3 : Int32)), (.int p5)])) _
    refine XS.iand X0.here hx rfl (hb hby at_3) rfl ?_
    show Steps p.tables e below (s₁.setTop (mkF m 4 #[.val (.long q1), .second, .val (.long q2), .second, .val (.long q3), .second, .val (.long q4), .second, .val (.int p5), .unset, .unset, .unset, .unset, .unset, .unset, .unset, .unset] [(.int (p5 &&& (3 : Int32)))])) _
    rw [hk]
    show Steps p.tables e below (s₁.setTop (mkF m 4 #[.val (.long q1), .second, .val (.long q2), .second, .val (.long q3), .second, .val (.long q4), .second, .val (.int p5), .unset, .unset, .unset, .unset, .unset, .unset, .unset, .unset] [(.int (2 : Int32))])) _
    refine XS.istore X0.here hx rfl (hb hby at_4) rfl (l' := #[.val (.long q1), .second, .val (.long q2), .second, .val (.long q3), .second, .val (.long q4), .second, .val (.int p5), .val (.int (2 : Int32)), .unset, .unset, .unset, .unset, .unset, .unset, .unset]) rfl ?_
    show Steps p.tables e below (s₁.setTop (mkF m 6 #[.val (.long q1), .second, .val (.long q2), .second, .val (.long q3), .second, .val (.long q4), .second, .val (.int p5), .val (.int (2 : Int32)), .unset, .unset, .unset, .unset, .unset, .unset, .unset] [])) _
    refine XS.iload X0.here hx rfl (hb hby at_6) rfl ?_
    show Steps p.tables e below (s₁.setTop (mkF m 8 #[.val (.long q1), .second, .val (.long q2), .second, .val (.long q3), .second, .val (.long q4), .second, .val (.int p5), .val (.int (2 : Int32)), .unset, .unset, .unset, .unset, .unset, .unset, .unset] [(.int (2 : Int32))])) _
    refine st1 _ ?_
    show Steps p.tables e below (T1.setTop (mkF m 10 #[.val (.long q1), .second, .val (.long q2), .second, .val (.long q3), .second, .val (.long q4), .second, .val (.int p5), .val (.int (2 : Int32)), .unset, .unset, .unset, .unset, .unset, .unset, .unset] [(.ref b1)])) _
    refine XS.astore X1.here hx rfl (hb hby at_10) rfl rfl (l' := #[.val (.long q1), .second, .val (.long q2), .second, .val (.long q3), .second, .val (.long q4), .second, .val (.int p5), .val (.int (2 : Int32)), .val (.ref b1), .unset, .unset, .unset, .unset, .unset, .unset]) rfl ?_
    show Steps p.tables e below (T1.setTop (mkF m 12 #[.val (.long q1), .second, .val (.long q2), .second, .val (.long q3), .second, .val (.long q4), .second, .val (.int p5), .val (.int (2 : Int32)), .val (.ref b1), .unset, .unset, .unset, .unset, .unset, .unset] [])) _
    refine XS.iload X1.here hx rfl (hb hby at_12) rfl ?_
    show Steps p.tables e below (T1.setTop (mkF m 14 #[.val (.long q1), .second, .val (.long q2), .second, .val (.long q3), .second, .val (.long q4), .second, .val (.int p5), .val (.int (2 : Int32)), .val (.ref b1), .unset, .unset, .unset, .unset, .unset, .unset] [(.int (2 : Int32))])) _
    refine XS.ifNo X1.here hx rfl (hb hby at_14) rfl ((if0 _ _).trans (tlt (by decide : (0 : Int32) < (2 : Int32))).2.2.2) ?_
    show Steps p.tables e below (T1.setTop (mkF m 17 #[.val (.long q1), .second, .val (.long q2), .second, .val (.long q3), .second, .val (.long q4), .second, .val (.int p5), .val (.int (2 : Int32)), .val (.ref b1), .unset, .unset, .unset, .unset, .unset, .unset] [])) _
    refine XS.aload X1.here hx rfl (hb hby at_17) rfl rfl ?_
    show Steps p.tables e below (T1.setTop (mkF m 19 #[.val (.long q1), .second, .val (.long q2), .second, .val (.long q3), .second, .val (.long q4), .second, .val (.int p5), .val (.int (2 : Int32)), .val (.ref b1), .unset, .unset, .unset, .unset, .unset, .unset] [(.ref b1)])) _
    refine XS.iconst X1.here hx rfl (hb hby at_19) ?_
    show Steps p.tables e below (T1.setTop (mkF m 20 #[.val (.long q1), .second, .val (.long q2), .second, .val (.long q3), .second, .val (.long q4), .second, .val (.int p5), .val (.int (2 : Int32)), .val (.ref b1), .unset, .unset, .unset, .unset, .unset, .unset] [(.int (0 : Int32)), (.ref b1)])) _
    refine XS.lloadN X1.here hx rfl (hb hby at_20) rfl ?_
    show Steps p.tables e below (T1.setTop (mkF m 21 #[.val (.long q1), .second, .val (.long q2), .second, .val (.long q3), .second, .val (.long q4), .second, .val (.int p5), .val (.int (2 : Int32)), .val (.ref b1), .unset, .unset, .unset, .unset, .unset, .unset] [(.long q1), (.int (0 : Int32)), (.ref b1)])) _
    refine st2 _ ?_
    show Steps p.tables e below (T2.setTop (mkF m 22 #[.val (.long q1), .second, .val (.long q2), .second, .val (.long q3), .second, .val (.long q4), .second, .val (.int p5), .val (.int (2 : Int32)), .val (.ref b1), .unset, .unset, .unset, .unset, .unset, .unset] [])) _
    refine XS.iload X2.here hx rfl (hb hby at_22) rfl ?_
    show Steps p.tables e below (T2.setTop (mkF m 24 #[.val (.long q1), .second, .val (.long q2), .second, .val (.long q3), .second, .val (.long q4), .second, .val (.int p5), .val (.int (2 : Int32)), .val (.ref b1), .unset, .unset, .unset, .unset, .unset, .unset] [(.int (2 : Int32))])) _
    refine XS.iconst X2.here hx rfl (hb hby at_24) ?_
    show Steps p.tables e below (T2.setTop (mkF m 25 #[.val (.long q1), .second, .val (.long q2), .second, .val (.long q3), .second, .val (.long q4), .second, .val (.int p5), .val (.int (2 : Int32)), .val (.ref b1), .unset, .unset, .unset, .unset, .unset, .unset] [(.int (1 : Int32)), (.int (2 : Int32))])) _
    refine XS.icmpNo X2.here hx rfl (hb hby at_25) rfl (tlt (by decide : (1 : Int32) < (2 : Int32))).2.2.2 ?_
    show Steps p.tables e below (T2.setTop (mkF m 28 #[.val (.long q1), .second, .val (.long q2), .second, .val (.long q3), .second, .val (.long q4), .second, .val (.int p5), .val (.int (2 : Int32)), .val (.ref b1), .unset, .unset, .unset, .unset, .unset, .unset] [])) _
    refine XS.aload X2.here hx rfl (hb hby at_28) rfl rfl ?_
    show Steps p.tables e below (T2.setTop (mkF m 30 #[.val (.long q1), .second, .val (.long q2), .second, .val (.long q3), .second, .val (.long q4), .second, .val (.int p5), .val (.int (2 : Int32)), .val (.ref b1), .unset, .unset, .unset, .unset, .unset, .unset] [(.ref b1)])) _
    refine XS.iconst X2.here hx rfl (hb hby at_30) ?_
    show Steps p.tables e below (T2.setTop (mkF m 31 #[.val (.long q1), .second, .val (.long q2), .second, .val (.long q3), .second, .val (.long q4), .second, .val (.int p5), .val (.int (2 : Int32)), .val (.ref b1), .unset, .unset, .unset, .unset, .unset, .unset] [(.int (1 : Int32)), (.ref b1)])) _
    refine XS.lloadN X2.here hx rfl (hb hby at_31) rfl ?_
    show Steps p.tables e below (T2.setTop (mkF m 32 #[.val (.long q1), .second, .val (.long q2), .second, .val (.long q3), .second, .val (.long q4), .second, .val (.int p5), .val (.int (2 : Int32)), .val (.ref b1), .unset, .unset, .unset, .unset, .unset, .unset] [(.long q2), (.int (1 : Int32)), (.ref b1)])) _
    refine st3 _ ?_
    show Steps p.tables e below (T3.setTop (mkF m 33 #[.val (.long q1), .second, .val (.long q2), .second, .val (.long q3), .second, .val (.long q4), .second, .val (.int p5), .val (.int (2 : Int32)), .val (.ref b1), .unset, .unset, .unset, .unset, .unset, .unset] [])) _
    refine XS.iload X3.here hx rfl (hb hby at_33) rfl ?_
    show Steps p.tables e below (T3.setTop (mkF m 35 #[.val (.long q1), .second, .val (.long q2), .second, .val (.long q3), .second, .val (.long q4), .second, .val (.int p5), .val (.int (2 : Int32)), .val (.ref b1), .unset, .unset, .unset, .unset, .unset, .unset] [(.int (2 : Int32))])) _
    refine XS.iconst X3.here hx rfl (hb hby at_35) ?_
    show Steps p.tables e below (T3.setTop (mkF m 36 #[.val (.long q1), .second, .val (.long q2), .second, .val (.long q3), .second, .val (.long q4), .second, .val (.int p5), .val (.int (2 : Int32)), .val (.ref b1), .unset, .unset, .unset, .unset, .unset, .unset] [(.int (2 : Int32)), (.int (2 : Int32))])) _
    refine XS.icmpYes X3.here hx rfl (pc0 := 36) (pc' := 45) rfl (hb hby at_36) rfl (flt (by decide : ¬ ((2 : Int32) < (2 : Int32)))).2.2.2 (by decide) (by decide) ?_
    show Steps p.tables e below (T3.setTop (mkF m 45 #[.val (.long q1), .second, .val (.long q2), .second, .val (.long q3), .second, .val (.long q4), .second, .val (.int p5), .val (.int (2 : Int32)), .val (.ref b1), .unset, .unset, .unset, .unset, .unset, .unset] [])) _
    refine XS.iload X3.here hx rfl (hb hby at_45) rfl ?_
    show Steps p.tables e below (T3.setTop (mkF m 47 #[.val (.long q1), .second, .val (.long q2), .second, .val (.long q3), .second, .val (.long q4), .second, .val (.int p5), .val (.int (2 : Int32)), .val (.ref b1), .unset, .unset, .unset, .unset, .unset, .unset] [(.int (2 : Int32))])) _
    refine XS.ifYes X3.here hx rfl (pc0 := 47) (pc' := 58) rfl (hb hby at_47) rfl ((if0 _ _).trans (feq (by decide : ¬ ((2 : Int32) = (0 : Int32)))).2) (by decide) (by decide) ?_
    show Steps p.tables e below (T3.setTop (mkF m 58 #[.val (.long q1), .second, .val (.long q2), .second, .val (.long q3), .second, .val (.long q4), .second, .val (.int p5), .val (.int (2 : Int32)), .val (.ref b1), .unset, .unset, .unset, .unset, .unset, .unset] [])) _
    refine XS.iload X3.here hx rfl (hb hby at_58) rfl ?_
    show Steps p.tables e below (T3.setTop (mkF m 60 #[.val (.long q1), .second, .val (.long q2), .second, .val (.long q3), .second, .val (.long q4), .second, .val (.int p5), .val (.int (2 : Int32)), .val (.ref b1), .unset, .unset, .unset, .unset, .unset, .unset] [(.int (2 : Int32))])) _
    refine XS.iconst X3.here hx rfl (hb hby at_60) ?_
    show Steps p.tables e below (T3.setTop (mkF m 61 #[.val (.long q1), .second, .val (.long q2), .second, .val (.long q3), .second, .val (.long q4), .second, .val (.int p5), .val (.int (2 : Int32)), .val (.ref b1), .unset, .unset, .unset, .unset, .unset, .unset] [(.int (1 : Int32)), (.int (2 : Int32))])) _
    refine XS.icmpYes X3.here hx rfl (pc0 := 61) (pc' := 73) rfl (hb hby at_61) rfl (feq (by decide : ¬ ((2 : Int32) = (1 : Int32)))).2 (by decide) (by decide) ?_
    show Steps p.tables e below (T3.setTop (mkF m 73 #[.val (.long q1), .second, .val (.long q2), .second, .val (.long q3), .second, .val (.long q4), .second, .val (.int p5), .val (.int (2 : Int32)), .val (.ref b1), .unset, .unset, .unset, .unset, .unset, .unset] [])) _
    refine XS.iload X3.here hx rfl (hb hby at_73) rfl ?_
    show Steps p.tables e below (T3.setTop (mkF m 75 #[.val (.long q1), .second, .val (.long q2), .second, .val (.long q3), .second, .val (.long q4), .second, .val (.int p5), .val (.int (2 : Int32)), .val (.ref b1), .unset, .unset, .unset, .unset, .unset, .unset] [(.int (2 : Int32))])) _
    refine XS.iconst X3.here hx rfl (hb hby at_75) ?_
    show Steps p.tables e below (T3.setTop (mkF m 76 #[.val (.long q1), .second, .val (.long q2), .second, .val (.long q3), .second, .val (.long q4), .second, .val (.int p5), .val (.int (2 : Int32)), .val (.ref b1), .unset, .unset, .unset, .unset, .unset, .unset] [(.int (2 : Int32)), (.int (2 : Int32))])) _
    refine XS.icmpNo X3.here hx rfl (hb hby at_76) rfl (teq (by decide : (2 : Int32) = (2 : Int32))).2 ?_
    show Steps p.tables e below (T3.setTop (mkF m 79 #[.val (.long q1), .second, .val (.long q2), .second, .val (.long q3), .second, .val (.long q4), .second, .val (.int p5), .val (.int (2 : Int32)), .val (.ref b1), .unset, .unset, .unset, .unset, .unset, .unset] [])) _
    refine XS.lloadN X3.here hx rfl (hb hby at_79) rfl ?_
    show Steps p.tables e below (T3.setTop (mkF m 80 #[.val (.long q1), .second, .val (.long q2), .second, .val (.long q3), .second, .val (.long q4), .second, .val (.int p5), .val (.int (2 : Int32)), .val (.ref b1), .unset, .unset, .unset, .unset, .unset, .unset] [(.long q1)])) _
    refine st4 _ ?_
    show Steps p.tables e below (T4.setTop (mkF m 83 #[.val (.long q1), .second, .val (.long q2), .second, .val (.long q3), .second, .val (.long q4), .second, .val (.int p5), .val (.int (2 : Int32)), .val (.ref b1), .unset, .unset, .unset, .unset, .unset, .unset] [(.long (own_nan q1))])) _
    refine XS.lloadN X4.here hx rfl (hb hby at_83) rfl ?_
    show Steps p.tables e below (T4.setTop (mkF m 84 #[.val (.long q1), .second, .val (.long q2), .second, .val (.long q3), .second, .val (.long q4), .second, .val (.int p5), .val (.int (2 : Int32)), .val (.ref b1), .unset, .unset, .unset, .unset, .unset, .unset] [(.long q2), (.long (own_nan q1))])) _
    refine st5 _ ?_
    show Steps p.tables e below (T5.setTop (mkF m 87 #[.val (.long q1), .second, .val (.long q2), .second, .val (.long q3), .second, .val (.long q4), .second, .val (.int p5), .val (.int (2 : Int32)), .val (.ref b1), .unset, .unset, .unset, .unset, .unset, .unset] [(.long (own_nan q2)), (.long (own_nan q1))])) _
    refine st6 _ ?_
    show Steps p.tables e below (T6.setTop (mkF m 90 #[.val (.long q1), .second, .val (.long q2), .second, .val (.long q3), .second, .val (.long q4), .second, .val (.int p5), .val (.int (2 : Int32)), .val (.ref b1), .unset, .unset, .unset, .unset, .unset, .unset] [(.long (own_min (own_nan q1) (own_nan q2)))])) _
    refine XS.lstore X6.here hx rfl (hb hby at_90) rfl (l' := #[.val (.long q1), .second, .val (.long q2), .second, .val (.long q3), .second, .val (.long q4), .second, .val (.int p5), .val (.int (2 : Int32)), .val (.ref b1), .val (.long (own_min (own_nan q1) (own_nan q2))), .second, .unset, .unset, .unset, .unset]) rfl ?_
    show Steps p.tables e below (T6.setTop (mkF m 92 #[.val (.long q1), .second, .val (.long q2), .second, .val (.long q3), .second, .val (.long q4), .second, .val (.int p5), .val (.int (2 : Int32)), .val (.ref b1), .val (.long (own_min (own_nan q1) (own_nan q2))), .second, .unset, .unset, .unset, .unset] [])) _
    refine XS.goto X6.here hx rfl (pc0 := 92) (pc' := 116) rfl (hb hby at_92) (by decide) (by decide) ?_
    show Steps p.tables e below (T6.setTop (mkF m 116 #[.val (.long q1), .second, .val (.long q2), .second, .val (.long q3), .second, .val (.long q4), .second, .val (.int p5), .val (.int (2 : Int32)), .val (.ref b1), .val (.long (own_min (own_nan q1) (own_nan q2))), .second, .unset, .unset, .unset, .unset] [])) _
    refine XS.lload X6.here hx rfl (hb hby at_116) rfl ?_
    show Steps p.tables e below (T6.setTop (mkF m 118 #[.val (.long q1), .second, .val (.long q2), .second, .val (.long q3), .second, .val (.long q4), .second, .val (.int p5), .val (.int (2 : Int32)), .val (.ref b1), .val (.long (own_min (own_nan q1) (own_nan q2))), .second, .unset, .unset, .unset, .unset] [(.long (own_min (own_nan q1) (own_nan q2)))])) _
    refine XS.lload X6.here hx rfl (hb hby at_118) rfl ?_
    show Steps p.tables e below (T6.setTop (mkF m 120 #[.val (.long q1), .second, .val (.long q2), .second, .val (.long q3), .second, .val (.long q4), .second, .val (.int p5), .val (.int (2 : Int32)), .val (.ref b1), .val (.long (own_min (own_nan q1) (own_nan q2))), .second, .unset, .unset, .unset, .unset] [(.long q4), (.long (own_min (own_nan q1) (own_nan q2)))])) _
    refine XS.lsub X6.here hx rfl (hb hby at_120) rfl ?_
    show Steps p.tables e below (T6.setTop (mkF m 121 #[.val (.long q1), .second, .val (.long q2), .second, .val (.long q3), .second, .val (.long q4), .second, .val (.int p5), .val (.int (2 : Int32)), .val (.ref b1), .val (.long (own_min (own_nan q1) (own_nan q2))), .second, .unset, .unset, .unset, .unset] [(.long ((own_min (own_nan q1) (own_nan q2)) - q4))])) _
    refine XS.lload X6.here hx rfl (hb hby at_121) rfl ?_
    show Steps p.tables e below (T6.setTop (mkF m 123 #[.val (.long q1), .second, .val (.long q2), .second, .val (.long q3), .second, .val (.long q4), .second, .val (.int p5), .val (.int (2 : Int32)), .val (.ref b1), .val (.long (own_min (own_nan q1) (own_nan q2))), .second, .unset, .unset, .unset, .unset] [(.long (own_min (own_nan q1) (own_nan q2))), (.long ((own_min (own_nan q1) (own_nan q2)) - q4))])) _
    refine X6.ldc2Long hx hown (mvT hZ (hw _ (List.mem_of_getElem? (i := 13) rfl))) (g := (mkF m 123 #[.val (.long q1), .second, .val (.long q2), .second, .val (.long q3), .second, .val (.long q4), .second, .val (.int p5), .val (.int (2 : Int32)), .val (.ref b1), .val (.long (own_min (own_nan q1) (own_nan q2))), .second, .unset, .unset, .unset, .unset] [(.long (own_min (own_nan q1) (own_nan q2))), (.long ((own_min (own_nan q1) (own_nan q2)) - q4))])) rfl (hb hby at_123) _ ?_
    show Steps p.tables e below (T6.setTop (mkF m 126 #[.val (.long q1), .second, .val (.long q2), .second, .val (.long q3), .second, .val (.long q4), .second, .val (.int p5), .val (.int (2 : Int32)), .val (.ref b1), .val (.long (own_min (own_nan q1) (own_nan q2))), .second, .unset, .unset, .unset, .unset] [(.long (100 : Int64)), (.long (own_min (own_nan q1) (own_nan q2))), (.long ((own_min (own_nan q1) (own_nan q2)) - q4))])) _
    refine XS.ldiv X6.here hx rfl (hb hby at_126) rfl (by decide) ?_
    show Steps p.tables e below (T6.setTop (mkF m 127 #[.val (.long q1), .second, .val (.long q2), .second, .val (.long q3), .second, .val (.long q4), .second, .val (.int p5), .val (.int (2 : Int32)), .val (.ref b1), .val (.long (own_min (own_nan q1) (own_nan q2))), .second, .unset, .unset, .unset, .unset] [(.long ((own_min (own_nan q1) (own_nan q2)) / (100 : Int64))), (.long ((own_min (own_nan q1) (own_nan q2)) - q4))])) _
    refine XS.lsub X6.here hx rfl (hb hby at_127) rfl ?_
    show Steps p.tables e below (T6.setTop (mkF m 128 #[.val (.long q1), .second, .val (.long q2), .second, .val (.long q3), .second, .val (.long q4), .second, .val (.int p5), .val (.int (2 : Int32)), .val (.ref b1), .val (.long (own_min (own_nan q1) (own_nan q2))), .second, .unset, .unset, .unset, .unset] [(.long (((own_min (own_nan q1) (own_nan q2)) - q4) - ((own_min (own_nan q1) (own_nan q2)) / (100 : Int64))))])) _
    refine X6.ldc2Long hx hown (mvT hZ (hw _ (List.mem_of_getElem? (i := 14) rfl))) (g := (mkF m 128 #[.val (.long q1), .second, .val (.long q2), .second, .val (.long q3), .second, .val (.long q4), .second, .val (.int p5), .val (.int (2 : Int32)), .val (.ref b1), .val (.long (own_min (own_nan q1) (own_nan q2))), .second, .unset, .unset, .unset, .unset] [(.long (((own_min (own_nan q1) (own_nan q2)) - q4) - ((own_min (own_nan q1) (own_nan q2)) / (100 : Int64))))])) rfl (hb hby at_128) _ ?_
    show Steps p.tables e below (T6.setTop (mkF m 131 #[.val (.long q1), .second, .val (.long q2), .second, .val (.long q3), .second, .val (.long q4), .second, .val (.int p5), .val (.int (2 : Int32)), .val (.ref b1), .val (.long (own_min (own_nan q1) (own_nan q2))), .second, .unset, .unset, .unset, .unset] [(.long (2000000 : Int64)), (.long (((own_min (own_nan q1) (own_nan q2)) - q4) - ((own_min (own_nan q1) (own_nan q2)) / (100 : Int64))))])) _
    refine XS.lsub X6.here hx rfl (hb hby at_131) rfl ?_
    show Steps p.tables e below (T6.setTop (mkF m 132 #[.val (.long q1), .second, .val (.long q2), .second, .val (.long q3), .second, .val (.long q4), .second, .val (.int p5), .val (.int (2 : Int32)), .val (.ref b1), .val (.long (own_min (own_nan q1) (own_nan q2))), .second, .unset, .unset, .unset, .unset] [(.long ((((own_min (own_nan q1) (own_nan q2)) - q4) - ((own_min (own_nan q1) (own_nan q2)) / (100 : Int64))) - (2000000 : Int64)))])) _
    refine XS.lstore X6.here hx rfl (hb hby at_132) rfl (l' := #[.val (.long q1), .second, .val (.long q2), .second, .val (.long q3), .second, .val (.long q4), .second, .val (.int p5), .val (.int (2 : Int32)), .val (.ref b1), .val (.long (own_min (own_nan q1) (own_nan q2))), .second, .val (.long ((((own_min (own_nan q1) (own_nan q2)) - q4) - ((own_min (own_nan q1) (own_nan q2)) / (100 : Int64))) - (2000000 : Int64))), .second, .unset, .unset]) rfl ?_
    show Steps p.tables e below (T6.setTop (mkF m 134 #[.val (.long q1), .second, .val (.long q2), .second, .val (.long q3), .second, .val (.long q4), .second, .val (.int p5), .val (.int (2 : Int32)), .val (.ref b1), .val (.long (own_min (own_nan q1) (own_nan q2))), .second, .val (.long ((((own_min (own_nan q1) (own_nan q2)) - q4) - ((own_min (own_nan q1) (own_nan q2)) / (100 : Int64))) - (2000000 : Int64))), .second, .unset, .unset] [])) _
    refine XS.aload X6.here hx rfl (hb hby at_134) rfl rfl ?_
    show Steps p.tables e below (T6.setTop (mkF m 136 #[.val (.long q1), .second, .val (.long q2), .second, .val (.long q3), .second, .val (.long q4), .second, .val (.int p5), .val (.int (2 : Int32)), .val (.ref b1), .val (.long (own_min (own_nan q1) (own_nan q2))), .second, .val (.long ((((own_min (own_nan q1) (own_nan q2)) - q4) - ((own_min (own_nan q1) (own_nan q2)) / (100 : Int64))) - (2000000 : Int64))), .second, .unset, .unset] [(.ref b1)])) _
    refine XS.lload X6.here hx rfl (hb hby at_136) rfl ?_
    show Steps p.tables e below (T6.setTop (mkF m 138 #[.val (.long q1), .second, .val (.long q2), .second, .val (.long q3), .second, .val (.long q4), .second, .val (.int p5), .val (.int (2 : Int32)), .val (.ref b1), .val (.long (own_min (own_nan q1) (own_nan q2))), .second, .val (.long ((((own_min (own_nan q1) (own_nan q2)) - q4) - ((own_min (own_nan q1) (own_nan q2)) / (100 : Int64))) - (2000000 : Int64))), .second, .unset, .unset] [(.long q4), (.ref b1)])) _
    refine st7 _ ?_
    show Steps p.tables e below (T7.setTop (mkF m 141 #[.val (.long q1), .second, .val (.long q2), .second, .val (.long q3), .second, .val (.long q4), .second, .val (.int p5), .val (.int (2 : Int32)), .val (.ref b1), .val (.long (own_min (own_nan q1) (own_nan q2))), .second, .val (.long ((((own_min (own_nan q1) (own_nan q2)) - q4) - ((own_min (own_nan q1) (own_nan q2)) / (100 : Int64))) - (2000000 : Int64))), .second, .unset, .unset] [(.long (((own_min (own_min (9223372036854775807 : Int64) (own_nan q1)) (own_nan q2)) - q4) - (((own_min (own_min (9223372036854775807 : Int64) (own_nan q1)) (own_nan q2)) / (100 : Int64)) + (2000000 : Int64))))])) _
    refine XS.lstore X7.here hx rfl (hb hby at_141) rfl (l' := #[.val (.long q1), .second, .val (.long q2), .second, .val (.long q3), .second, .val (.long q4), .second, .val (.int p5), .val (.int (2 : Int32)), .val (.ref b1), .val (.long (own_min (own_nan q1) (own_nan q2))), .second, .val (.long ((((own_min (own_nan q1) (own_nan q2)) - q4) - ((own_min (own_nan q1) (own_nan q2)) / (100 : Int64))) - (2000000 : Int64))), .second, .val (.long (((own_min (own_min (9223372036854775807 : Int64) (own_nan q1)) (own_nan q2)) - q4) - (((own_min (own_min (9223372036854775807 : Int64) (own_nan q1)) (own_nan q2)) / (100 : Int64)) + (2000000 : Int64)))), .second]) rfl ?_
    show Steps p.tables e below (T7.setTop (mkF m 143 #[.val (.long q1), .second, .val (.long q2), .second, .val (.long q3), .second, .val (.long q4), .second, .val (.int p5), .val (.int (2 : Int32)), .val (.ref b1), .val (.long (own_min (own_nan q1) (own_nan q2))), .second, .val (.long ((((own_min (own_nan q1) (own_nan q2)) - q4) - ((own_min (own_nan q1) (own_nan q2)) / (100 : Int64))) - (2000000 : Int64))), .second, .val (.long (((own_min (own_min (9223372036854775807 : Int64) (own_nan q1)) (own_nan q2)) - q4) - (((own_min (own_min (9223372036854775807 : Int64) (own_nan q1)) (own_nan q2)) / (100 : Int64)) + (2000000 : Int64)))), .second] [])) _
    refine XS.lload X7.here hx rfl (hb hby at_143) rfl ?_
    show Steps p.tables e below (T7.setTop (mkF m 145 #[.val (.long q1), .second, .val (.long q2), .second, .val (.long q3), .second, .val (.long q4), .second, .val (.int p5), .val (.int (2 : Int32)), .val (.ref b1), .val (.long (own_min (own_nan q1) (own_nan q2))), .second, .val (.long ((((own_min (own_nan q1) (own_nan q2)) - q4) - ((own_min (own_nan q1) (own_nan q2)) / (100 : Int64))) - (2000000 : Int64))), .second, .val (.long (((own_min (own_min (9223372036854775807 : Int64) (own_nan q1)) (own_nan q2)) - q4) - (((own_min (own_min (9223372036854775807 : Int64) (own_nan q1)) (own_nan q2)) / (100 : Int64)) + (2000000 : Int64)))), .second] [(.long (((own_min (own_min (9223372036854775807 : Int64) (own_nan q1)) (own_nan q2)) - q4) - (((own_min (own_min (9223372036854775807 : Int64) (own_nan q1)) (own_nan q2)) / (100 : Int64)) + (2000000 : Int64))))])) _
    refine XS.lload X7.here hx rfl (hb hby at_145) rfl ?_
    show Steps p.tables e below (T7.setTop (mkF m 147 #[.val (.long q1), .second, .val (.long q2), .second, .val (.long q3), .second, .val (.long q4), .second, .val (.int p5), .val (.int (2 : Int32)), .val (.ref b1), .val (.long (own_min (own_nan q1) (own_nan q2))), .second, .val (.long ((((own_min (own_nan q1) (own_nan q2)) - q4) - ((own_min (own_nan q1) (own_nan q2)) / (100 : Int64))) - (2000000 : Int64))), .second, .val (.long (((own_min (own_min (9223372036854775807 : Int64) (own_nan q1)) (own_nan q2)) - q4) - (((own_min (own_min (9223372036854775807 : Int64) (own_nan q1)) (own_nan q2)) / (100 : Int64)) + (2000000 : Int64)))), .second] [(.long ((((own_min (own_nan q1) (own_nan q2)) - q4) - ((own_min (own_nan q1) (own_nan q2)) / (100 : Int64))) - (2000000 : Int64))), (.long (((own_min (own_min (9223372036854775807 : Int64) (own_nan q1)) (own_nan q2)) - q4) - (((own_min (own_min (9223372036854775807 : Int64) (own_nan q1)) (own_nan q2)) / (100 : Int64)) + (2000000 : Int64))))])) _
    refine XS.lcmp X7.here hx rfl (hb hby at_147) rfl ?_
    show Steps p.tables e below (T7.setTop (mkF m 148 #[.val (.long q1), .second, .val (.long q2), .second, .val (.long q3), .second, .val (.long q4), .second, .val (.int p5), .val (.int (2 : Int32)), .val (.ref b1), .val (.long (own_min (own_nan q1) (own_nan q2))), .second, .val (.long ((((own_min (own_nan q1) (own_nan q2)) - q4) - ((own_min (own_nan q1) (own_nan q2)) / (100 : Int64))) - (2000000 : Int64))), .second, .val (.long (((own_min (own_min (9223372036854775807 : Int64) (own_nan q1)) (own_nan q2)) - q4) - (((own_min (own_min (9223372036854775807 : Int64) (own_nan q1)) (own_nan q2)) / (100 : Int64)) + (2000000 : Int64)))), .second] [(.int (lcmpW (((own_min (own_min (9223372036854775807 : Int64) (own_nan q1)) (own_nan q2)) - q4) - (((own_min (own_min (9223372036854775807 : Int64) (own_nan q1)) (own_nan q2)) / (100 : Int64)) + (2000000 : Int64))) ((((own_min (own_nan q1) (own_nan q2)) - q4) - ((own_min (own_nan q1) (own_nan q2)) / (100 : Int64))) - (2000000 : Int64))))])) _
    refine XS.ifNo X7.here hx rfl (hb hby at_148) rfl ((if0 _ _).trans (teq ((lw_eq (((own_min (own_min (9223372036854775807 : Int64) (own_nan q1)) (own_nan q2)) - q4) - (((own_min (own_min (9223372036854775807 : Int64) (own_nan q1)) (own_nan q2)) / (100 : Int64)) + (2000000 : Int64))) ((((own_min (own_nan q1) (own_nan q2)) - q4) - ((own_min (own_nan q1) (own_nan q2)) / (100 : Int64))) - (2000000 : Int64))).mpr (own_fin_2 q1 q2 q4))).2) ?_
    show Steps p.tables e below (T7.setTop (mkF m 151 #[.val (.long q1), .second, .val (.long q2), .second, .val (.long q3), .second, .val (.long q4), .second, .val (.int p5), .val (.int (2 : Int32)), .val (.ref b1), .val (.long (own_min (own_nan q1) (own_nan q2))), .second, .val (.long ((((own_min (own_nan q1) (own_nan q2)) - q4) - ((own_min (own_nan q1) (own_nan q2)) / (100 : Int64))) - (2000000 : Int64))), .second, .val (.long (((own_min (own_min (9223372036854775807 : Int64) (own_nan q1)) (own_nan q2)) - q4) - (((own_min (own_min (9223372036854775807 : Int64) (own_nan q1)) (own_nan q2)) / (100 : Int64)) + (2000000 : Int64)))), .second] [])) _
    refine XS.iconst X7.here hx rfl (hb hby at_151) ?_
    show Steps p.tables e below (T7.setTop (mkF m 152 #[.val (.long q1), .second, .val (.long q2), .second, .val (.long q3), .second, .val (.long q4), .second, .val (.int p5), .val (.int (2 : Int32)), .val (.ref b1), .val (.long (own_min (own_nan q1) (own_nan q2))), .second, .val (.long ((((own_min (own_nan q1) (own_nan q2)) - q4) - ((own_min (own_nan q1) (own_nan q2)) / (100 : Int64))) - (2000000 : Int64))), .second, .val (.long (((own_min (own_min (9223372036854775807 : Int64) (own_nan q1)) (own_nan q2)) - q4) - (((own_min (own_min (9223372036854775807 : Int64) (own_nan q1)) (own_nan q2)) / (100 : Int64)) + (2000000 : Int64)))), .second] [(.int (1 : Int32))])) _
    refine XS.goto X7.here hx rfl (pc0 := 152) (pc' := 156) rfl (hb hby at_152) (by decide) (by decide) ?_
    show Steps p.tables e below (T7.setTop (mkF m 156 #[.val (.long q1), .second, .val (.long q2), .second, .val (.long q3), .second, .val (.long q4), .second, .val (.int p5), .val (.int (2 : Int32)), .val (.ref b1), .val (.long (own_min (own_nan q1) (own_nan q2))), .second, .val (.long ((((own_min (own_nan q1) (own_nan q2)) - q4) - ((own_min (own_nan q1) (own_nan q2)) / (100 : Int64))) - (2000000 : Int64))), .second, .val (.long (((own_min (own_min (9223372036854775807 : Int64) (own_nan q1)) (own_nan q2)) - q4) - (((own_min (own_min (9223372036854775807 : Int64) (own_nan q1)) (own_nan q2)) / (100 : Int64)) + (2000000 : Int64)))), .second] [(.int (1 : Int32))])) _
    exact retN X7 hx (t := .boolean) Bd.returns (by simp) (hb hby at_156) hr
  · show QL (.int (1 : Int32)) n0 _ T7.heap _
    exact ⟨rfl, N7, trivial⟩
theorem own_fin_3 (q1 : Int64) (q2 : Int64) (q3 : Int64) (q4 : Int64) : (((own_min (own_min (own_min (9223372036854775807 : Int64) (own_nan q1)) (own_nan q2)) (own_nan q3)) - q4) - (((own_min (own_min (own_min (9223372036854775807 : Int64) (own_nan q1)) (own_nan q2)) (own_nan q3)) / (100 : Int64)) + (2000000 : Int64))) = ((((own_min (own_nan q1) (own_min (own_nan q2) (own_nan q3))) - q4) - ((own_min (own_nan q1) (own_min (own_nan q2) (own_nan q3))) / (100 : Int64))) - (2000000 : Int64)) := by
  rw [own_sub4]
  rw [own_min_max, own_min_assoc]
theorem ef_rm0_3 (m : MethodId) (q1 : Int64) (q2 : Int64) (q3 : Int64) (q4 : Int64) (p5 : Int32) : entryFrame m #[(.long q1), (.long q2), (.long q3), (.long q4), (.int p5)] maxLocals = mkF m 0 #[.val (.long q1), .second, .val (.long q2), .second, .val (.long q3), .second, .val (.long q4), .second, .val (.int p5), .unset, .unset, .unset, .unset, .unset, .unset, .unset, .unset] [] := by first | (simp [entryFrame, mkF, argsToLocals, Value.category, maxLocals]; done) | rfl
set_option maxRecDepth 65536 in
set_option maxHeartbeats 40000000 in
theorem rm0_3 (l : Launch) (Z : State) (a0 : Array Value) (hw : ∀ d ∈ tables_1, d.before a0 Z = true) (ws : List Jvm.Cond) (q1 : Int64) (q2 : Int64) (q3 : Int64) (q4 : Int64) (p5 : Int32) (w_MS : Addr) (h0 : Heap) (n0 : Nat) (Z0 : n0 ≤ h0.size) (S_MS : Sta Z h0 "java/util/concurrent/TimeUnit" "MILLISECONDS" "Ljava/util/concurrent/TimeUnit;" (.ref w_MS)) (E_MS : Exa Z h0 w_MS "java/util/concurrent/TimeUnit") (F_scale : Fld Z h0 w_MS "java/util/concurrent/TimeUnit" "scale" "J" (.long (1000000 : Int64))) (F_max : Fld Z h0 w_MS "java/util/concurrent/TimeUnit" "maxNanos" "J" (.long (9223372036854 : Int64))) (S_RND : Sta Z h0 "com/example/portunus/portunus/MultiServerLock" "ROUNDING_NANOS" "J" (.long (2000000 : Int64))) (hk : p5 &&& (3 : Int32) = (3 : Int32)) :
    MetFree l x (head1 (Jvm.Cond.code x code maxLocals ret :: ws) room_1) (fun a U => a = #[(.long q1), (.long q2), (.long q3), (.long q4), (.int p5)] ∧ Z.Warmed39 U.vm ∧ U.heap = h0) (fun _ _ _ _ _ => True) (fun _ U o U' => ∃ v L, o = .returned v ∧ QL (.int (1 : Int32)) n0 v U'.heap L ∧ FrameEnd U o U' L room_1.cells room_1.slots) := by
  refine MetFree.of_bodySF (plainFor_of_name pnm_0) hisR ?_
  intro p e s m args below meth c s₁ Bd hml0 hP hK
  obtain ⟨rfl, hZ, hh⟩ := hP
  have hx := Bd.exec
  have hby := Bd.bytes
  have hml : c.maxLocals = 17 := hml0
  have hown : s.vm.findClass "com/example/portunus/portunus/MultiServerLockValidityNanosPinLaw" = some m.cls := findClass_of_methodNamed Bd.named
  have hnm := (name_of_methodNamed Bd.named Bd.method).1
  have X0 : Stand p l e room_1 s m #[(.long q1), (.long q2), (.long q3), (.long q4), (.int p5)] below meth c s₁ [] 0 0 := Stand.of_body Bd
  have e0 : s₁.heap = h0 := by rw [← hh, Bd.state]; rfl
  have N0 := Fr.nil n0
  have pre0 : ∀ t, Steps p.tables e below (s₁.setTop (mkF m 0 #[.val (.long q1), .second, .val (.long q2), .second, .val (.long q3), .second, .val (.long q4), .second, .val (.int p5), .unset, .unset, .unset, .unset, .unset, .unset, .unset, .unset] [])) t → Steps p.tables e below (s₁.setTop (entryFrame m #[(.long q1), (.long q2), (.long q3), (.long q4), (.int p5)] maxLocals)) t := fun t k => castTop (ef_rm0_3 m q1 q2 q3 q4 p5) k
  obtain ⟨T1, h1, k1, X1, e1, E1, A1, st1⟩ := newP X0 hx hZ (hw _ (List.mem_of_getElem? (i := 0) rfl)) e0 (g := (mkF m 8 #[.val (.long q1), .second, .val (.long q2), .second, .val (.long q3), .second, .val (.long q4), .second, .val (.int p5), .val (.int (3 : Int32)), .unset, .unset, .unset, .unset, .unset, .unset, .unset] [(.int (3 : Int32))])) rfl (hb hby at_8) rfl (by decide) (cap := 3) (by decide) (by decide) (by decide) (by decide)
  obtain ⟨b1, g1⟩ : ∃ z, z = h0.size := ⟨_, rfl⟩
  rw [← g1] at A1 st1
  have gb1 : n0 ≤ b1 := Nat.le_trans Z0 (Nat.le_of_eq g1.symm)
  have V_b1 : Arv Z h1 b1 k1 .long (3 : Int32) [(.long (0 : Int64)), (.long (0 : Int64)), (.long (0 : Int64))] (.long (0 : Int64)) := (Arv.new A1 (by decide)).pad (pad_rep [] (.long (0 : Int64)) 3)
  obtain ⟨cl_b1_21, Ar_b1_21, q_b1_21, S_b1_21, N_b1_21, H_b1_21, G_b1_21⟩ := id V_b1
  have hin21 : ¬ ((0 : Int32) < 0 ∨ cl_b1_21.slots.size ≤ ((0 : Int32)).toNatClampNeg) := inb_of S_b1_21 ⟨by decide, by decide⟩
  obtain ⟨T2, h2, X2, e2, W2, st2⟩ := stJ X1 hx hZ e1 Ar_b1_21 (j := (0 : Int32)) hin21 (g := (mkF m 21 #[.val (.long q1), .second, .val (.long q2), .second, .val (.long q3), .second, .val (.long q4), .second, .val (.int p5), .val (.int (3 : Int32)), .val (.ref b1), .unset, .unset, .unset, .unset, .unset, .unset] [(.long q1), (.int (0 : Int32)), (.ref b1)])) rfl rfl (hb hby at_21)
  have V_b1_2 : Arv Z h2 b1 k1 .long (3 : Int32) [(.long q1), (.long (0 : Int64)), (.long (0 : Int64))] (.long (0 : Int64)) := Arv.set Ar_b1_21 q_b1_21 S_b1_21 N_b1_21 H_b1_21 G_b1_21 rfl W2 0 rfl (Nat.le_of_ble_eq_true rfl)
  have Ec2 := own_extW E1 g1 W2
  have N2 := Fr.snoc X2 N0 gb1
  obtain ⟨cl_b1_32, Ar_b1_32, q_b1_32, S_b1_32, N_b1_32, H_b1_32, G_b1_32⟩ := id V_b1_2
  have hin32 : ¬ ((1 : Int32) < 0 ∨ cl_b1_32.slots.size ≤ ((1 : Int32)).toNatClampNeg) := inb_of S_b1_32 ⟨by decide, by decide⟩
  obtain ⟨T3, h3, X3, e3, W3, st3⟩ := stJ X2 hx hZ e2 Ar_b1_32 (j := (1 : Int32)) hin32 (g := (mkF m 32 #[.val (.long q1), .second, .val (.long q2), .second, .val (.long q3), .second, .val (.long q4), .second, .val (.int p5), .val (.int (3 : Int32)), .val (.ref b1), .unset, .unset, .unset, .unset, .unset, .unset] [(.long q2), (.int (1 : Int32)), (.ref b1)])) rfl rfl (hb hby at_32)
  have V_b1_3 : Arv Z h3 b1 k1 .long (3 : Int32) [(.long q1), (.long q2), (.long (0 : Int64))] (.long (0 : Int64)) := Arv.set Ar_b1_32 q_b1_32 S_b1_32 N_b1_32 H_b1_32 G_b1_32 rfl W3 1 rfl (Nat.le_of_ble_eq_true rfl)
  have Ec3 := own_extW Ec2 g1 W3
  have N3 := Fr.snoc X3 N2 gb1
  obtain ⟨cl_b1_44, Ar_b1_44, q_b1_44, S_b1_44, N_b1_44, H_b1_44, G_b1_44⟩ := id V_b1_3
  have hin44 : ¬ ((2 : Int32) < 0 ∨ cl_b1_44.slots.size ≤ ((2 : Int32)).toNatClampNeg) := inb_of S_b1_44 ⟨by decide, by decide⟩
  obtain ⟨T4, h4, X4, e4, W4, st4⟩ := stJ X3 hx hZ e3 Ar_b1_44 (j := (2 : Int32)) hin44 (g := (mkF m 44 #[.val (.long q1), .second, .val (.long q2), .second, .val (.long q3), .second, .val (.long q4), .second, .val (.int p5), .val (.int (3 : Int32)), .val (.ref b1), .unset, .unset, .unset, .unset, .unset, .unset] [(.long q3), (.int (2 : Int32)), (.ref b1)])) rfl rfl (hb hby at_44)
  have V_b1_4 : Arv Z h4 b1 k1 .long (3 : Int32) [(.long q1), (.long q2), (.long q3)] (.long (0 : Int64)) := Arv.set Ar_b1_44 q_b1_44 S_b1_44 N_b1_44 H_b1_44 G_b1_44 rfl W4 2 rfl (Nat.le_of_ble_eq_true rfl)
  have Ec4 := own_extW Ec3 g1 W4
  have N4 := Fr.snoc X4 N3 gb1
  obtain ⟨_, _, ⟨T5, L5, k5, n5⟩, -, X5, ⟨Lc5, hQ5, l5, y5, z5⟩, st5⟩ := Jvm.LawKit.callS X4 hx (y := (⟨"com/example/portunus/portunus/MultiServerLockValidityNanosPinLaw", "nanos", "(J)J"⟩ : MethodName)) hown (mvT hZ (hw _ (List.mem_of_getElem? (i := 1) rfl))) (mvT hZ (hw _ (List.mem_of_getElem? (i := 2) rfl))) (mvT hZ (hw _ (List.mem_of_getElem? (i := 3) rfl))) (mvT hZ (hw _ (List.mem_of_getElem? (i := 4) rfl))) (by decide) (backOf (W := 0) (rm1 l Z a0 hw [] q1 h4 n0 (Nat.le_trans Z0 Ec4.1) (own_nan q1) rfl) hZ (hw _ (List.mem_of_getElem? (i := 4) rfl)) (hw _ (List.mem_of_getElem? (i := 3) rfl)) (by decide) (by decide)) (g := (mkF m 96 #[.val (.long q1), .second, .val (.long q2), .second, .val (.long q3), .second, .val (.long q4), .second, .val (.int p5), .val (.int (3 : Int32)), .val (.ref b1), .unset, .unset, .unset, .unset, .unset, .unset] [(.long q1)])) rfl (by rw [hml]; rfl) (argsL := [(.long q1)]) (rest := []) (lenOf pdm_0 rfl) rfl (by show 2 * 0 + _ ≤ _; exact Nat.le_of_eq rfl) (hb hby at_96) (fun _ _ => ⟨rfl, e4, (by decide : 1 + 0 ≤ _), (by decide : 3 + 0 ≤ _)⟩)
  dsimp only [Pt.U, Pt.locs, Pt.cells, Pt.slots] at X5 l5 y5 z5 st5 hQ5
  subst l5 y5 z5
  obtain ⟨rfl, N5q, e5⟩ := hQ5
  have N5 := Fr.app N4 N5q
  obtain ⟨_, _, ⟨T6, L6, k6, n6⟩, -, X6, ⟨Lc6, hQ6, l6, y6, z6⟩, st6⟩ := Jvm.LawKit.callS X5 hx (y := (⟨"com/example/portunus/portunus/MultiServerLockValidityNanosPinLaw", "nanos", "(J)J"⟩ : MethodName)) hown (mvT hZ (hw _ (List.mem_of_getElem? (i := 1) rfl))) (mvT hZ (hw _ (List.mem_of_getElem? (i := 2) rfl))) (mvT hZ (hw _ (List.mem_of_getElem? (i := 3) rfl))) (mvT hZ (hw _ (List.mem_of_getElem? (i := 4) rfl))) (by decide) (backOf (W := 2) (rm1 l Z a0 hw [] q2 h4 n0 (Nat.le_trans Z0 Ec4.1) (own_nan q2) rfl) hZ (hw _ (List.mem_of_getElem? (i := 4) rfl)) (hw _ (List.mem_of_getElem? (i := 3) rfl)) (by decide) (by decide)) (g := (mkF m 100 #[.val (.long q1), .second, .val (.long q2), .second, .val (.long q3), .second, .val (.long q4), .second, .val (.int p5), .val (.int (3 : Int32)), .val (.ref b1), .unset, .unset, .unset, .unset, .unset, .unset] [(.long q2), (.long (own_nan q1))])) rfl (by rw [hml]; rfl) (argsL := [(.long q2)]) (rest := [(.long (own_nan q1))]) (lenOf pdm_0 rfl) rfl (by show 2 * 0 + _ ≤ _; exact Nat.le_of_eq rfl) (hb hby at_100) (fun _ _ => ⟨rfl, e5, (by decide : 1 + 0 ≤ _), (by decide : 3 + 0 ≤ _)⟩)
  dsimp only [Pt.U, Pt.locs, Pt.cells, Pt.slots] at X6 l6 y6 z6 st6 hQ6
  subst l6 y6 z6
  obtain ⟨rfl, N6q, e6⟩ := hQ6
  have N6 := Fr.app N5 N6q
  obtain ⟨_, _, ⟨T7, L7, k7, n7⟩, -, X7, ⟨Lc7, hQ7, l7, y7, z7⟩, st7⟩ := Jvm.LawKit.callS X6 hx (y := (⟨"com/example/portunus/portunus/MultiServerLockValidityNanosPinLaw", "nanos", "(J)J"⟩ : MethodName)) hown (mvT hZ (hw _ (List.mem_of_getElem? (i := 1) rfl))) (mvT hZ (hw _ (List.mem_of_getElem? (i := 2) rfl))) (mvT hZ (hw _ (List.mem_of_getElem? (i := 3) rfl))) (mvT hZ (hw _ (List.mem_of_getElem? (i := 4) rfl))) (by decide) (backOf (W := 4) (rm1 l Z a0 hw [] q3 h4 n0 (Nat.le_trans Z0 Ec4.1) (own_nan q3) rfl) hZ (hw _ (List.mem_of_getElem? (i := 4) rfl)) (hw _ (List.mem_of_getElem? (i := 3) rfl)) (by decide) (by decide)) (g := (mkF m 105 #[.val (.long q1), .second, .val (.long q2), .second, .val (.long q3), .second, .val (.long q4), .second, .val (.int p5), .val (.int (3 : Int32)), .val (.ref b1), .unset, .unset, .unset, .unset, .unset, .unset] [(.long q3), (.long (own_nan q2)), (.long (own_nan q1))])) rfl (by rw [hml]; rfl) (argsL := [(.long q3)]) (rest := [(.long (own_nan q2)), (.long (own_nan q1))]) (lenOf pdm_0 rfl) rfl (by show 2 * 0 + _ ≤ _; exact Nat.le_of_eq rfl) (hb hby at_105) (fun _ _ => ⟨rfl, e6, (by decide : 1 + 0 ≤ _), (by decide : 3 + 0 ≤ _)⟩)
  dsimp only [Pt.U, Pt.locs, Pt.cells, Pt.slots] at X7 l7 y7 z7 st7 hQ7
  subst l7 y7 z7
  obtain ⟨rfl, N7q, e7⟩ := hQ7
  have N7 := Fr.app N6 N7q
  obtain ⟨_, _, ⟨T8, L8, k8, n8⟩, -, X8, ⟨Lc8, hQ8, l8, y8, z8⟩, st8⟩ := Jvm.LawKit.callS X7 hx (y := (⟨"java/lang/Math", "min", "(JJ)J"⟩ : MethodName)) hown (mvT hZ (hw _ (List.mem_of_getElem? (i := 9) rfl))) (mvT hZ (hw _ (List.mem_of_getElem? (i := 10) rfl))) (mvT hZ (hw _ (List.mem_of_getElem? (i := 11) rfl))) (mvT hZ (hw _ (List.mem_of_getElem? (i := 12) rfl))) (by decide) (backOf (W := 2) (rm2 l Z a0 hw [] (own_nan q2) (own_nan q3) h4 n0 (Nat.le_trans Z0 Ec4.1) (own_min (own_nan q2) (own_nan q3)) rfl) hZ (hw _ (List.mem_of_getElem? (i := 12) rfl)) (hw _ (List.mem_of_getElem? (i := 11) rfl)) (by decide) (by decide)) (g := (mkF m 108 #[.val (.long q1), .second, .val (.long q2), .second, .val (.long q3), .second, .val (.long q4), .second, .val (.int p5), .val (.int (3 : Int32)), .val (.ref b1), .unset, .unset, .unset, .unset, .unset, .unset] [(.long (own_nan q3)), (.long (own_nan q2)), (.long (own_nan q1))])) rfl (by rw [hml]; rfl) (argsL := [(.long (own_nan q2)), (.long (own_nan q3))]) (rest := [(.long (own_nan q1))]) (lenOf pdm_1 rfl) rfl (by show 2 * 0 + _ ≤ _; exact Nat.le_of_eq rfl) (hb hby at_108) (fun _ _ => ⟨rfl, e7, (by decide : 1 + 0 ≤ _), (by decide : 3 + 0 ≤ _)⟩)
  dsimp only [Pt.U, Pt.locs, Pt.cells, Pt.slots] at X8 l8 y8 z8 st8 hQ8
  subst l8 y8 z8
  obtain ⟨rfl, N8q, e8⟩ := hQ8
  have N8 := Fr.app N7 N8q
  obtain ⟨_, _, ⟨T9, L9, k9, n9⟩, -, X9, ⟨Lc9, hQ9, l9, y9, z9⟩, st9⟩ := Jvm.LawKit.callS X8 hx (y := (⟨"java/lang/Math", "min", "(JJ)J"⟩ : MethodName)) hown (mvT hZ (hw _ (List.mem_of_getElem? (i := 9) rfl))) (mvT hZ (hw _ (List.mem_of_getElem? (i := 10) rfl))) (mvT hZ (hw _ (List.mem_of_getElem? (i := 11) rfl))) (mvT hZ (hw _ (List.mem_of_getElem? (i := 12) rfl))) (by decide) (backOf (W := 0) (rm2 l Z a0 hw [] (own_nan q1) (own_min (own_nan q2) (own_nan q3)) h4 n0 (Nat.le_trans Z0 Ec4.1) (own_min (own_nan q1) (own_min (own_nan q2) (own_nan q3))) rfl) hZ (hw _ (List.mem_of_getElem? (i := 12) rfl)) (hw _ (List.mem_of_getElem? (i := 11) rfl)) (by decide) (by decide)) (g := (mkF m 111 #[.val (.long q1), .second, .val (.long q2), .second, .val (.long q3), .second, .val (.long q4), .second, .val (.int p5), .val (.int (3 : Int32)), .val (.ref b1), .unset, .unset, .unset, .unset, .unset, .unset] [(.long (own_min (own_nan q2) (own_nan q3))), (.long (own_nan q1))])) rfl (by rw [hml]; rfl) (argsL := [(.long (own_nan q1)), (.long (own_min (own_nan q2) (own_nan q3)))]) (rest := []) (lenOf pdm_1 rfl) rfl (by show 2 * 0 + _ ≤ _; exact Nat.le_of_eq rfl) (hb hby at_111) (fun _ _ => ⟨rfl, e8, (by decide : 1 + 0 ≤ _), (by decide : 3 + 0 ≤ _)⟩)
  dsimp only [Pt.U, Pt.locs, Pt.cells, Pt.slots] at X9 l9 y9 z9 st9 hQ9
  subst l9 y9 z9
  obtain ⟨rfl, N9q, e9⟩ := hQ9
  have N9 := Fr.app N8 N9q
  obtain ⟨_, _, ⟨T10, L10, k10, n10⟩, -, X10, ⟨Lc10, hQ10, l10, y10, z10⟩, st10⟩ := Jvm.LawKit.callS X9 hx (y := (⟨"com/example/portunus/portunus/MultiServerLock", "validityNanos", "([JJ)J"⟩ : MethodName)) hown (mvT hZ (hw _ (List.mem_of_getElem? (i := 15) rfl))) (mvT hZ (hw _ (List.mem_of_getElem? (i := 16) rfl))) (mvT hZ (hw _ (List.mem_of_getElem? (i := 17) rfl))) (mvT hZ (hw _ (List.mem_of_getElem? (i := 18) rfl))) (by decide) (backOf (W := 0) (rm3_3 l Z a0 hw [] b1 q4 q1 q2 q3 k1 w_MS h4 n0 (Nat.le_trans Z0 Ec4.1) V_b1_4 (S_MS.ext Ec4) (E_MS.ext Ec4) (F_scale.ext Ec4) (F_max.ext Ec4) (S_RND.ext Ec4) (((own_min (own_min (own_min (9223372036854775807 : Int64) (own_nan q1)) (own_nan q2)) (own_nan q3)) - q4) - (((own_min (own_min (own_min (9223372036854775807 : Int64) (own_nan q1)) (own_nan q2)) (own_nan q3)) / (100 : Int64)) + (2000000 : Int64))) rfl) hZ (hw _ (List.mem_of_getElem? (i := 18) rfl)) (hw _ (List.mem_of_getElem? (i := 17) rfl)) (by decide) (by decide)) (g := (mkF m 138 #[.val (.long q1), .second, .val (.long q2), .second, .val (.long q3), .second, .val (.long q4), .second, .val (.int p5), .val (.int (3 : Int32)), .val (.ref b1), .val (.long (own_min (own_nan q1) (own_min (own_nan q2) (own_nan q3)))), .second, .val (.long ((((own_min (own_nan q1) (own_min (own_nan q2) (own_nan q3))) - q4) - ((own_min (own_nan q1) (own_min (own_nan q2) (own_nan q3))) / (100 : Int64))) - (2000000 : Int64))), .second, .unset, .unset] [(.long q4), (.ref b1)])) rfl (by rw [hml]; rfl) (argsL := [(.ref b1), (.long q4)]) (rest := []) (lenOf pdm_2 rfl) rfl (by show 2 * 0 + _ ≤ _; exact Nat.le_of_eq rfl) (hb hby at_138) (fun _ _ => ⟨rfl, e9, (by decide : 1 + 0 ≤ _), (by decide : 3 + 0 ≤ _)⟩)
  dsimp only [Pt.U, Pt.locs, Pt.cells, Pt.slots] at X10 l10 y10 z10 st10 hQ10
  subst l10 y10 z10
  obtain ⟨rfl, N10q, e10⟩ := hQ10
  have N10 := Fr.app N9 N10q
  obtain ⟨fs, hr, hrun, hended, hW, hsame⟩ := X10.leave (v := some (.int (1 : Int32))) (fun h => by rw [Bd.returns] at h; cases h)
  refine ⟨_, _, pre0 _ ?_, hrun, hended, _, _, rfl, ?_, ⟨_, rfl⟩, hW, hsame.mono (by decide) (by decide)⟩
  · show Steps p.tables e below (s₁.setTop (mkF m 0 #[.val (.long q1), .second, .val (.long q2), .second, .val (.long q3), .second, .val (.long q4), .second, .val (.int p5), .unset, .unset, .unset, .unset, .unset, .unset, .unset, .unset] [])) _
    refine XS.iload X0.here hx rfl (hb hby at_0) rfl ?_
    show Steps p.tables e below (s₁.setTop (mkF m 2 #[.val (.long q1), .second, .val (.long q2), .second, .val (.long q3), .second, .val (.long q4), .second, .val (.int p5), .unset, .unset, .unset, .unset, .unset, .unset, .unset, .unset] [(.int p5)])) _
    refine XS.iconst X0.here hx rfl (hb hby at_2) ?_
    show Steps p.tables e below (s₁.setTop (mkF m 3 #[.val (.long q1), .second, .val (.long q2), .second, .val (.long q3), .second, .val (.long q4), .second, .val (.int p5), .unset, .unset, .unset, .unset, .unset, .unset, .unset, .unset] [(.int (3 : Int32)), (.int p5)])) _
    refine XS.iand X0.here hx rfl (hb hby at_3) rfl ?_
    show Steps p.tables e below (s₁.setTop (mkF m 4 #[.val (.long q1), .second, .val (.long q2), .second, .val (.long q3), .second, .val (.long q4), .second, .val (.int p5), .unset, .unset, .unset, .unset, .unset, .unset, .unset, .unset] [(.int (p5 &&& (3 : Int32)))])) _
    rw [hk]
    show Steps p.tables e below (s₁.setTop (mkF m 4 #[.val (.long q1), .second, .val (.long q2), .second, .val (.long q3), .second, .val (.long q4), .second, .val (.int p5), .unset, .unset, .unset, .unset, .unset, .unset, .unset, .unset] [(.int (3 : Int32))])) _
    refine XS.istore X0.here hx rfl (hb hby at_4) rfl (l' := #[.val (.long q1), .second, .val (.long q2), .second, .val (.long q3), .second, .val (.long q4), .second, .val (.int p5), .val (.int (3 : Int32)), .unset, .unset, .unset, .unset, .unset, .unset, .unset]) rfl ?_
    show Steps p.tables e below (s₁.setTop (mkF m 6 #[.val (.long q1), .second, .val (.long q2), .second, .val (.long q3), .second, .val (.long q4), .second, .val (.int p5), .val (.int (3 : Int32)), .unset, .unset, .unset, .unset, .unset, .unset, .unset] [])) _
    refine XS.iload X0.here hx rfl (hb hby at_6) rfl ?_
    show Steps p.tables e below (s₁.setTop (mkF m 8 #[.val (.long q1), .second, .val (.long q2), .second, .val (.long q3), .second, .val (.long q4), .second, .val (.int p5), .val (.int (3 : Int32)), .unset, .unset, .unset, .unset, .unset, .unset, .unset] [(.int (3 : Int32))])) _
    refine st1 _ ?_
    show Steps p.tables e below (T1.setTop (mkF m 10 #[.val (.long q1), .second, .val (.long q2), .second, .val (.long q3), .second, .val (.long q4), .second, .val (.int p5), .val (.int (3 : Int32)), .unset, .unset, .unset, .unset, .unset, .unset, .unset] [(.ref b1)])) _
    refine XS.astore X1.here hx rfl (hb hby at_10) rfl rfl (l' := #[.val (.long q1), .second, .val (.long q2), .second, .val (.long q3), .second, .val (.long q4), .second, .val (.int p5), .val (.int (3 : Int32)), .val (.ref b1), .unset, .unset, .unset, .unset, .unset, .unset]) rfl ?_
    show Steps p.tables e below (T1.setTop (mkF m 12 #[.val (.long q1), .second, .val (.long q2), .second, .val (.long q3), .second, .val (.long q4), .second, .val (.int p5), .val (.int (3 : Int32)), .val (.ref b1), .unset, .unset, .unset, .unset, .unset, .unset] [])) _
    refine XS.iload X1.here hx rfl (hb hby at_12) rfl ?_
    show Steps p.tables e below (T1.setTop (mkF m 14 #[.val (.long q1), .second, .val (.long q2), .second, .val (.long q3), .second, .val (.long q4), .second, .val (.int p5), .val (.int (3 : Int32)), .val (.ref b1), .unset, .unset, .unset, .unset, .unset, .unset] [(.int (3 : Int32))])) _
    refine XS.ifNo X1.here hx rfl (hb hby at_14) rfl ((if0 _ _).trans (tlt (by decide : (0 : Int32) < (3 : Int32))).2.2.2) ?_
    show Steps p.tables e below (T1.setTop (mkF m 17 #[.val (.long q1), .second, .val (.long q2), .second, .val (.long q3), .second, .val (.long q4), .second, .val (.int p5), .val (.int (3 : Int32)), .val (.ref b1), .unset, .unset, .unset, .unset, .unset, .unset] [])) _
    refine XS.aload X1.here hx rfl (hb hby at_17) rfl rfl ?_
    show Steps p.tables e below (T1.setTop (mkF m 19 #[.val (.long q1), .second, .val (.long q2), .second, .val (.long q3), .second, .val (.long q4), .second, .val (.int p5), .val (.int (3 : Int32)), .val (.ref b1), .unset, .unset, .unset, .unset, .unset, .unset] [(.ref b1)])) _
    refine XS.iconst X1.here hx rfl (hb hby at_19) ?_
    show Steps p.tables e below (T1.setTop (mkF m 20 #[.val (.long q1), .second, .val (.long q2), .second, .val (.long q3), .second, .val (.long q4), .second, .val (.int p5), .val (.int (3 : Int32)), .val (.ref b1), .unset, .unset, .unset, .unset, .unset, .unset] [(.int (0 : Int32)), (.ref b1)])) _
    refine XS.lloadN X1.here hx rfl (hb hby at_20) rfl ?_
    show Steps p.tables e below (T1.setTop (mkF m 21 #[.val (.long q1), .second, .val (.long q2), .second, .val (.long q3), .second, .val (.long q4), .second, .val (.int p5), .val (.int (3 : Int32)), .val (.ref b1), .unset, .unset, .unset, .unset, .unset, .unset] [(.long q1), (.int (0 : Int32)), (.ref b1)])) _
    refine st2 _ ?_
    show Steps p.tables e below (T2.setTop (mkF m 22 #[.val (.long q1), .second, .val (.long q2), .second, .val (.long q3), .second, .val (.long q4), .second, .val (.int p5), .val (.int (3 : Int32)), .val (.ref b1), .unset, .unset, .unset, .unset, .unset, .unset] [])) _
    refine XS.iload X2.here hx rfl (hb hby at_22) rfl ?_
    show Steps p.tables e below (T2.setTop (mkF m 24 #[.val (.long q1), .second, .val (.long q2), .second, .val (.long q3), .second, .val (.long q4), .second, .val (.int p5), .val (.int (3 : Int32)), .val (.ref b1), .unset, .unset, .unset, .unset, .unset, .unset] [(.int (3 : Int32))])) _
    refine XS.iconst X2.here hx rfl (hb hby at_24) ?_
    show Steps p.tables e below (T2.setTop (mkF m 25 #[.val (.long q1), .second, .val (.long q2), .second, .val (.long q3), .second, .val (.long q4), .second, .val (.int p5), .val (.int (3 : Int32)), .val (.ref b1), .unset, .unset, .unset, .unset, .unset, .unset] [(.int (1 : Int32)), (.int (3 : Int32))])) _
    refine XS.icmpNo X2.here hx rfl (hb hby at_25) rfl (tlt (by decide : (1 : Int32) < (3 : Int32))).2.2.2 ?_
    show Steps p.tables e below (T2.setTop (mkF m 28 #[.val (.long q1), .second, .val (.long q2), .second, .val (.long q3), .second, .val (.long q4), .second, .val (.int p5), .val (.int (3 : Int32)), .val (.ref b1), .unset, .unset, .unset, .unset, .unset, .unset] [])) _
    refine XS.aload X2.here hx rfl (hb hby at_28) rfl rfl ?_
    show Steps p.tables e below (T2.setTop (mkF m 30 #[.val (.long q1), .second, .val (.long q2), .second, .val (.long q3), .second, .val (.long q4), .second, .val (.int p5), .val (.int (3 : Int32)), .val (.ref b1), .unset, .unset, .unset, .unset, .unset, .unset] [(.ref b1)])) _
    refine XS.iconst X2.here hx rfl (hb hby at_30) ?_
    show Steps p.tables e below (T2.setTop (mkF m 31 #[.val (.long q1), .second, .val (.long q2), .second, .val (.long q3), .second, .val (.long q4), .second, .val (.int p5), .val (.int (3 : Int32)), .val (.ref b1), .unset, .unset, .unset, .unset, .unset, .unset] [(.int (1 : Int32)), (.ref b1)])) _
    refine XS.lloadN X2.here hx rfl (hb hby at_31) rfl ?_
    show Steps p.tables e below (T2.setTop (mkF m 32 #[.val (.long q1), .second, .val (.long q2), .second, .val (.long q3), .second, .val (.long q4), .second, .val (.int p5), .val (.int (3 : Int32)), .val (.ref b1), .unset, .unset, .unset, .unset, .unset, .unset] [(.long q2), (.int (1 : Int32)), (.ref b1)])) _
    refine st3 _ ?_
    show Steps p.tables e below (T3.setTop (mkF m 33 #[.val (.long q1), .second, .val (.long q2), .second, .val (.long q3), .second, .val (.long q4), .second, .val (.int p5), .val (.int (3 : Int32)), .val (.ref b1), .unset, .unset, .unset, .unset, .unset, .unset] [])) _
    refine XS.iload X3.here hx rfl (hb hby at_33) rfl ?_
    show Steps p.tables e below (T3.setTop (mkF m 35 #[.val (.long q1), .second, .val (.long q2), .second, .val (.long q3), .second, .val (.long q4), .second, .val (.int p5), .val (.int (3 : Int32)), .val (.ref b1), .unset, .unset, .unset, .unset, .unset, .unset] [(.int (3 : Int32))])) _
    refine XS.iconst X3.here hx rfl (hb hby at_35) ?_
    show Steps p.tables e below (T3.setTop (mkF m 36 #[.val (.long q1), .second, .val (.long q2), .second, .val (.long q3), .second, .val (.long q4), .second, .val (.int p5), .val (.int (3 : Int32)), .val (.ref b1), .unset, .unset, .unset, .unset, .unset, .unset] [(.int (2 : Int32)), (.int (3 : Int32))])) _
    refine XS.icmpNo X3.here hx rfl (hb hby at_36) rfl (tlt (by decide : (2 : Int32) < (3 : Int32))).2.2.2 ?_
    show Steps p.tables e below (T3.setTop (mkF m 39 #[.val (.long q1), .second, .val (.long q2), .second, .val (.long q3), .second, .val (.long q4), .second, .val (.int p5), .val (.int (3 : Int32)), .val (.ref b1), .unset, .unset, .unset, .unset, .unset, .unset] [])) _
    refine XS.aload X3.here hx rfl (hb hby at_39) rfl rfl ?_
    show Steps p.tables e below (T3.setTop (mkF m 41 #[.val (.long q1), .second, .val (.long q2), .second, .val (.long q3), .second, .val (.long q4), .second, .val (.int p5), .val (.int (3 : Int32)), .val (.ref b1), .unset, .unset, .unset, .unset, .unset, .unset] [(.ref b1)])) _
    refine XS.iconst X3.here hx rfl (hb hby at_41) ?_
    show Steps p.tables e below (T3.setTop (mkF m 42 #[.val (.long q1), .second, .val (.long q2), .second, .val (.long q3), .second, .val (.long q4), .second, .val (.int p5), .val (.int (3 : Int32)), .val (.ref b1), .unset, .unset, .unset, .unset, .unset, .unset] [(.int (2 : Int32)), (.ref b1)])) _
    refine XS.lload X3.here hx rfl (hb hby at_42) rfl ?_
    show Steps p.tables e below (T3.setTop (mkF m 44 #[.val (.long q1), .second, .val (.long q2), .second, .val (.long q3), .second, .val (.long q4), .second, .val (.int p5), .val (.int (3 : Int32)), .val (.ref b1), .unset, .unset, .unset, .unset, .unset, .unset] [(.long q3), (.int (2 : Int32)), (.ref b1)])) _
    refine st4 _ ?_
    show Steps p.tables e below (T4.setTop (mkF m 45 #[.val (.long q1), .second, .val (.long q2), .second, .val (.long q3), .second, .val (.long q4), .second, .val (.int p5), .val (.int (3 : Int32)), .val (.ref b1), .unset, .unset, .unset, .unset, .unset, .unset] [])) _
    refine XS.iload X4.here hx rfl (hb hby at_45) rfl ?_
    show Steps p.tables e below (T4.setTop (mkF m 47 #[.val (.long q1), .second, .val (.long q2), .second, .val (.long q3), .second, .val (.long q4), .second, .val (.int p5), .val (.int (3 : Int32)), .val (.ref b1), .unset, .unset, .unset, .unset, .unset, .unset] [(.int (3 : Int32))])) _
    refine XS.ifYes X4.here hx rfl (pc0 := 47) (pc' := 58) rfl (hb hby at_47) rfl ((if0 _ _).trans (feq (by decide : ¬ ((3 : Int32) = (0 : Int32)))).2) (by decide) (by decide) ?_
    show Steps p.tables e below (T4.setTop (mkF m 58 #[.val (.long q1), .second, .val (.long q2), .second, .val (.long q3), .second, .val (.long q4), .second, .val (.int p5), .val (.int (3 : Int32)), .val (.ref b1), .unset, .unset, .unset, .unset, .unset, .unset] [])) _
    refine XS.iload X4.here hx rfl (hb hby at_58) rfl ?_
    show Steps p.tables e below (T4.setTop (mkF m 60 #[.val (.long q1), .second, .val (.long q2), .second, .val (.long q3), .second, .val (.long q4), .second, .val (.int p5), .val (.int (3 : Int32)), .val (.ref b1), .unset, .unset, .unset, .unset, .unset, .unset] [(.int (3 : Int32))])) _
    refine XS.iconst X4.here hx rfl (hb hby at_60) ?_
    show Steps p.tables e below (T4.setTop (mkF m 61 #[.val (.long q1), .second, .val (.long q2), .second, .val (.long q3), .second, .val (.long q4), .second, .val (.int p5), .val (.int (3 : Int32)), .val (.ref b1), .unset, .unset, .unset, .unset, .unset, .unset] [(.int (1 : Int32)), (.int (3 : Int32))])) _
    refine XS.icmpYes X4.here hx rfl (pc0 := 61) (pc' := 73) rfl (hb hby at_61) rfl (feq (by decide : ¬ ((3 : Int32) = (1 : Int32)))).2 (by decide) (by decide) ?_
    show Steps p.tables e below (T4.setTop (mkF m 73 #[.val (.long q1), .second, .val (.long q2), .second, .val (.long q3), .second, .val (.long q4), .second, .val (.int p5), .val (.int (3 : Int32)), .val (.ref b1), .unset, .unset, .unset, .unset, .unset, .unset] [])) _
    refine XS.iload X4.here hx rfl (hb hby at_73) rfl ?_
    show Steps p.tables e below (T4.setTop (mkF m 75 #[.val (.long q1), .second, .val (.long q2), .second, .val (.long q3), .second, .val (.long q4), .second, .val (.int p5), .val (.int (3 : Int32)), .val (.ref b1), .unset, .unset, .unset, .unset, .unset, .unset] [(.int (3 : Int32))])) _
    refine XS.iconst X4.here hx rfl (hb hby at_75) ?_
    show Steps p.tables e below (T4.setTop (mkF m 76 #[.val (.long q1), .second, .val (.long q2), .second, .val (.long q3), .second, .val (.long q4), .second, .val (.int p5), .val (.int (3 : Int32)), .val (.ref b1), .unset, .unset, .unset, .unset, .unset, .unset] [(.int (2 : Int32)), (.int (3 : Int32))])) _
    refine XS.icmpYes X4.here hx rfl (pc0 := 76) (pc' := 95) rfl (hb hby at_76) rfl (feq (by decide : ¬ ((3 : Int32) = (2 : Int32)))).2 (by decide) (by decide) ?_
    show Steps p.tables e below (T4.setTop (mkF m 95 #[.val (.long q1), .second, .val (.long q2), .second, .val (.long q3), .second, .val (.long q4), .second, .val (.int p5), .val (.int (3 : Int32)), .val (.ref b1), .unset, .unset, .unset, .unset, .unset, .unset] [])) _
    refine XS.lloadN X4.here hx rfl (hb hby at_95) rfl ?_
    show Steps p.tables e below (T4.setTop (mkF m 96 #[.val (.long q1), .second, .val (.long q2), .second, .val (.long q3), .second, .val (.long q4), .second, .val (.int p5), .val (.int (3 : Int32)), .val (.ref b1), .unset, .unset, .unset, .unset, .unset, .unset] [(.long q1)])) _
    refine st5 _ ?_
    show Steps p.tables e below (T5.setTop (mkF m 99 #[.val (.long q1), .second, .val (.long q2), .second, .val (.long q3), .second, .val (.long q4), .second, .val (.int p5), .val (.int (3 : Int32)), .val (.ref b1), .unset, .unset, .unset, .unset, .unset, .unset] [(.long (own_nan q1))])) _
    refine XS.lloadN X5.here hx rfl (hb hby at_99) rfl ?_
    show Steps p.tables e below (T5.setTop (mkF m 100 #[.val (.long q1), .second, .val (.long q2), .second, .val (.long q3), .second, .val (.long q4), .second, .val (.int p5), .val (.int (3 : Int32)), .val (.ref b1), .unset, .unset, .unset, .unset, .unset, .unset] [(.long q2), (.long (own_nan q1))])) _
    refine st6 _ ?_
    show Steps p.tables e below (T6.setTop (mkF m 103 #[.val (.long q1), .second, .val (.long q2), .second, .val (.long q3), .second, .val (.long q4), .second, .val (.int p5), .val (.int (3 : Int32)), .val (.ref b1), .unset, .unset, .unset, .unset, .unset, .unset] [(.long (own_nan q2)), (.long (own_nan q1))])) _
    refine XS.lload X6.here hx rfl (hb hby at_103) rfl ?_
    show Steps p.tables e below (T6.setTop (mkF m 105 #[.val (.long q1), .second, .val (.long q2), .second, .val (.long q3), .second, .val (.long q4), .second, .val (.int p5), .val (.int (3 : Int32)), .val (.ref b1), .unset, .unset, .unset, .unset, .unset, .unset] [(.long q3), (.long (own_nan q2)), (.long (own_nan q1))])) _
    refine st7 _ ?_
    show Steps p.tables e below (T7.setTop (mkF m 108 #[.val (.long q1), .second, .val (.long q2), .second, .val (.long q3), .second, .val (.long q4), .second, .val (.int p5), .val (.int (3 : Int32)), .val (.ref b1), .unset, .unset, .unset, .unset, .unset, .unset] [(.long (own_nan q3)), (.long (own_nan q2)), (.long (own_nan q1))])) _
    refine st8 _ ?_
    show Steps p.tables e below (T8.setTop (mkF m 111 #[.val (.long q1), .second, .val (.long q2), .second, .val (.long q3), .second, .val (.long q4), .second, .val (.int p5), .val (.int (3 : Int32)), .val (.ref b1), .unset, .unset, .unset, .unset, .unset, .unset] [(.long (own_min (own_nan q2) (own_nan q3))), (.long (own_nan q1))])) _
    refine st9 _ ?_
    show Steps p.tables e below (T9.setTop (mkF m 114 #[.val (.long q1), .second, .val (.long q2), .second, .val (.long q3), .second, .val (.long q4), .second, .val (.int p5), .val (.int (3 : Int32)), .val (.ref b1), .unset, .unset, .unset, .unset, .unset, .unset] [(.long (own_min (own_nan q1) (own_min (own_nan q2) (own_nan q3))))])) _
    refine XS.lstore X9.here hx rfl (hb hby at_114) rfl (l' := #[.val (.long q1), .second, .val (.long q2), .second, .val (.long q3), .second, .val (.long q4), .second, .val (.int p5), .val (.int (3 : Int32)), .val (.ref b1), .val (.long (own_min (own_nan q1) (own_min (own_nan q2) (own_nan q3)))), .second, .unset, .unset, .unset, .unset]) rfl ?_
    show Steps p.tables e below (T9.setTop (mkF m 116 #[.val (.long q1), .second, .val (.long q2), .second, .val (.long q3), .second, .val (.long q4), .second, .val (.int p5), .val (.int (3 : Int32)), .val (.ref b1), .val (.long (own_min (own_nan q1) (own_min (own_nan q2) (own_nan q3)))), .second, .unset, .unset, .unset, .unset] [])) _
    refine XS.lload X9.here hx rfl (hb hby at_116) rfl ?_
    show Steps p.tables e below (T9.setTop (mkF m 118 #[.val (.long q1), .second, .val (.long q2), .second, .val (.long q3), .second, .val (.long q4), .second, .val (.int p5), .val (.int (3 : Int32)), .val (.ref b1), .val (.long (own_min (own_nan q1) (own_min (own_nan q2) (own_nan q3)))), .second, .unset, .unset, .unset, .unset] [(.long (own_min (own_nan q1) (own_min (own_nan q2) (own_nan q3))))])) _
    refine XS.lload X9.here hx rfl (hb hby at_118) rfl ?_
    show Steps p.tables e below (T9.setTop (mkF m 120 #[.val (.long q1), .second, .val (.long q2), .second, .val (.long q3), .second, .val (.long q4), .second, .val (.int p5), .val (.int (3 : Int32)), .val (.ref b1), .val (.long (own_min (own_nan q1) (own_min (own_nan q2) (own_nan q3)))), .second, .unset, .unset, .unset, .unset] [(.long q4), (.long (own_min (own_nan q1) (own_min (own_nan q2) (own_nan q3))))])) _
    refine XS.lsub X9.here hx rfl (hb hby at_120) rfl ?_
    show Steps p.tables e below (T9.setTop (mkF m 121 #[.val (.long q1), .second, .val (.long q2), .second, .val (.long q3), .second, .val (.long q4), .second, .val (.int p5), .val (.int (3 : Int32)), .val (.ref b1), .val (.long (own_min (own_nan q1) (own_min (own_nan q2) (own_nan q3)))), .second, .unset, .unset, .unset, .unset] [(.long ((own_min (own_nan q1) (own_min (own_nan q2) (own_nan q3))) - q4))])) _
    refine XS.lload X9.here hx rfl (hb hby at_121) rfl ?_
    show Steps p.tables e below (T9.setTop (mkF m 123 #[.val (.long q1), .second, .val (.long q2), .second, .val (.long q3), .second, .val (.long q4), .second, .val (.int p5), .val (.int (3 : Int32)), .val (.ref b1), .val (.long (own_min (own_nan q1) (own_min (own_nan q2) (own_nan q3)))), .second, .unset, .unset, .unset, .unset] [(.long (own_min (own_nan q1) (own_min (own_nan q2) (own_nan q3)))), (.long ((own_min (own_nan q1) (own_min (own_nan q2) (own_nan q3))) - q4))])) _
    refine X9.ldc2Long hx hown (mvT hZ (hw _ (List.mem_of_getElem? (i := 13) rfl))) (g := (mkF m 123 #[.val (.long q1), .second, .val (.long q2), .second, .val (.long q3), .second, .val (.long q4), .second, .val (.int p5), .val (.int (3 : Int32)), .val (.ref b1), .val (.long (own_min (own_nan q1) (own_min (own_nan q2) (own_nan q3)))), .second, .unset, .unset, .unset, .unset] [(.long (own_min (own_nan q1) (own_min (own_nan q2) (own_nan q3)))), (.long ((own_min (own_nan q1) (own_min (own_nan q2) (own_nan q3))) - q4))])) rfl (hb hby at_123) _ ?_
    show Steps p.tables e below (T9.setTop (mkF m 126 #[.val (.long q1), .second, .val (.long q2), .second, .val (.long q3), .second, .val (.long q4), .second, .val (.int p5), .val (.int (3 : Int32)), .val (.ref b1), .val (.long (own_min (own_nan q1) (own_min (own_nan q2) (own_nan q3)))), .second, .unset, .unset, .unset, .unset] [(.long (100 : Int64)), (.long (own_min (own_nan q1) (own_min (own_nan q2) (own_nan q3)))), (.long ((own_min (own_nan q1) (own_min (own_nan q2) (own_nan q3))) - q4))])) _
    refine XS.ldiv X9.here hx rfl (hb hby at_126) rfl (by decide) ?_
    show Steps p.tables e below (T9.setTop (mkF m 127 #[.val (.long q1), .second, .val (.long q2), .second, .val (.long q3), .second, .val (.long q4), .second, .val (.int p5), .val (.int (3 : Int32)), .val (.ref b1), .val (.long (own_min (own_nan q1) (own_min (own_nan q2) (own_nan q3)))), .second, .unset, .unset, .unset, .unset] [(.long ((own_min (own_nan q1) (own_min (own_nan q2) (own_nan q3))) / (100 : Int64))), (.long ((own_min (own_nan q1) (own_min (own_nan q2) (own_nan q3))) - q4))])) _
    refine XS.lsub X9.here hx rfl (hb hby at_127) rfl ?_
    show Steps p.tables e below (T9.setTop (mkF m 128 #[.val (.long q1), .second, .val (.long q2), .second, .val (.long q3), .second, .val (.long q4), .second, .val (.int p5), .val (.int (3 : Int32)), .val (.ref b1), .val (.long (own_min (own_nan q1) (own_min (own_nan q2) (own_nan q3)))), .second, .unset, .unset, .unset, .unset] [(.long (((own_min (own_nan q1) (own_min (own_nan q2) (own_nan q3))) - q4) - ((own_min (own_nan q1) (own_min (own_nan q2) (own_nan q3))) / (100 : Int64))))])) _
    refine X9.ldc2Long hx hown (mvT hZ (hw _ (List.mem_of_getElem? (i := 14) rfl))) (g := (mkF m 128 #[.val (.long q1), .second, .val (.long q2), .second, .val (.long q3), .second, .val (.long q4), .second, .val (.int p5), .val (.int (3 : Int32)), .val (.ref b1), .val (.long (own_min (own_nan q1) (own_min (own_nan q2) (own_nan q3)))), .second, .unset, .unset, .unset, .unset] [(.long (((own_min (own_nan q1) (own_min (own_nan q2) (own_nan q3))) - q4) - ((own_min (own_nan q1) (own_min (own_nan q2) (own_nan q3))) / (100 : Int64))))])) rfl (hb hby at_128) _ ?_
    show Steps p.tables e below (T9.setTop (mkF m 131 #[.val (.long q1), .second, .val (.long q2), .second, .val (.long q3), .second, .val (.long q4), .second, .val (.int p5), .val (.int (3 : Int32)), .val (.ref b1), .val (.long (own_min (own_nan q1) (own_min (own_nan q2) (own_nan q3)))), .second, .unset, .unset, .unset, .unset] [(.long (2000000 : Int64)), (.long (((own_min (own_nan q1) (own_min (own_nan q2) (own_nan q3))) - q4) - ((own_min (own_nan q1) (own_min (own_nan q2) (own_nan q3))) / (100 : Int64))))])) _
    refine XS.lsub X9.here hx rfl (hb hby at_131) rfl ?_
    show Steps p.tables e below (T9.setTop (mkF m 132 #[.val (.long q1), .second, .val (.long q2), .second, .val (.long q3), .second, .val (.long q4), .second, .val (.int p5), .val (.int (3 : Int32)), .val (.ref b1), .val (.long (own_min (own_nan q1) (own_min (own_nan q2) (own_nan q3)))), .second, .unset, .unset, .unset, .unset] [(.long ((((own_min (own_nan q1) (own_min (own_nan q2) (own_nan q3))) - q4) - ((own_min (own_nan q1) (own_min (own_nan q2) (own_nan q3))) / (100 : Int64))) - (2000000 : Int64)))])) _
    refine XS.lstore X9.here hx rfl (hb hby at_132) rfl (l' := #[.val (.long q1), .second, .val (.long q2), .second, .val (.long q3), .second, .val (.long q4), .second, .val (.int p5), .val (.int (3 : Int32)), .val (.ref b1), .val (.long (own_min (own_nan q1) (own_min (own_nan q2) (own_nan q3)))), .second, .val (.long ((((own_min (own_nan q1) (own_min (own_nan q2) (own_nan q3))) - q4) - ((own_min (own_nan q1) (own_min (own_nan q2) (own_nan q3))) / (100 : Int64))) - (2000000 : Int64))), .second, .unset, .unset]) rfl ?_
    show Steps p.tables e below (T9.setTop (mkF m 134 #[.val (.long q1), .second, .val (.long q2), .second, .val (.long q3), .second, .val (.long q4), .second, .val (.int p5), .val (.int (3 : Int32)), .val (.ref b1), .val (.long (own_min (own_nan q1) (own_min (own_nan q2) (own_nan q3)))), .second, .val (.long ((((own_min (own_nan q1) (own_min (own_nan q2) (own_nan q3))) - q4) - ((own_min (own_nan q1) (own_min (own_nan q2) (own_nan q3))) / (100 : Int64))) - (2000000 : Int64))), .second, .unset, .unset] [])) _
    refine XS.aload X9.here hx rfl (hb hby at_134) rfl rfl ?_
    show Steps p.tables e below (T9.setTop (mkF m 136 #[.val (.long q1), .second, .val (.long q2), .second, .val (.long q3), .second, .val (.long q4), .second, .val (.int p5), .val (.int (3 : Int32)), .val (.ref b1), .val (.long (own_min (own_nan q1) (own_min (own_nan q2) (own_nan q3)))), .second, .val (.long ((((own_min (own_nan q1) (own_min (own_nan q2) (own_nan q3))) - q4) - ((own_min (own_nan q1) (own_min (own_nan q2) (own_nan q3))) / (100 : Int64))) - (2000000 : Int64))), .second, .unset, .unset] [(.ref b1)])) _
    refine XS.lload X9.here hx rfl (hb hby at_136) rfl ?_
    show Steps p.tables e below (T9.setTop (mkF m 138 #[.val (.long q1), .second, .val (.long q2), .second, .val (.long q3), .second, .val (.long q4), .second, .val (.int p5), .val (.int (3 : Int32)), .val (.ref b1), .val (.long (own_min (own_nan q1) (own_min (own_nan q2) (own_nan q3)))), .second, .val (.long ((((own_min (own_nan q1) (own_min (own_nan q2) (own_nan q3))) - q4) - ((own_min (own_nan q1) (own_min (own_nan q2) (own_nan q3))) / (100 : Int64))) - (2000000 : Int64))), .second, .unset, .unset] [(.long q4), (.ref b1)])) _
    refine st10 _ ?_
    show Steps p.tables e below (T10.setTop (mkF m 141 #[.val (.long q1), .second, .val (.long q2), .second, .val (.long q3), .second, .val (.long q4), .second, .val (.int p5), .val (.int (3 : Int32)), .val (.ref b1), .val (.long (own_min (own_nan q1) (own_min (own_nan q2) (own_nan q3)))), .second, .val (.long ((((own_min (own_nan q1) (own_min (own_nan q2) (own_nan q3))) - q4) - ((own_min (own_nan q1) (own_min (own_nan q2) (own_nan q3))) / (100 : Int64))) - (2000000 : Int64))), .second, .unset, .unset] [(.long (((own_min (own_min (own_min (9223372036854775807 : Int64) (own_nan q1)) (own_nan q2)) (own_nan q3)) - q4) - (((own_min (own_min (own_min (9223372036854775807 : Int64) (own_nan q1)) (own_nan q2)) (own_nan q3)) / (100 : Int64)) + (2000000 : Int64))))])) _
    refine XS.lstore X10.here hx rfl (hb hby at_141) rfl (l' := #[.val (.long q1), .second, .val (.long q2), .second, .val (.long q3), .second, .val (.long q4), .second, .val (.int p5), .val (.int (3 : Int32)), .val (.ref b1), .val (.long (own_min (own_nan q1) (own_min (own_nan q2) (own_nan q3)))), .second, .val (.long ((((own_min (own_nan q1) (own_min (own_nan q2) (own_nan q3))) - q4) - ((own_min (own_nan q1) (own_min (own_nan q2) (own_nan q3))) / (100 : Int64))) - (2000000 : Int64))), .second, .val (.long (((own_min (own_min (own_min (9223372036854775807 : Int64) (own_nan q1)) (own_nan q2)) (own_nan q3)) - q4) - (((own_min (own_min (own_min (9223372036854775807 : Int64) (own_nan q1)) (own_nan q2)) (own_nan q3)) / (100 : Int64)) + (2000000 : Int64)))), .second]) rfl ?_
    show Steps p.tables e below (T10.setTop (mkF m 143 #[.val (.long q1), .second, .val (.long q2), .second, .val (.long q3), .second, .val (.long q4), .second, .val (.int p5), .val (.int (3 : Int32)), .val (.ref b1), .val (.long (own_min (own_nan q1) (own_min (own_nan q2) (own_nan q3)))), .second, .val (.long ((((own_min (own_nan q1) (own_min (own_nan q2) (own_nan q3))) - q4) - ((own_min (own_nan q1) (own_min (own_nan q2) (own_nan q3))) / (100 : Int64))) - (2000000 : Int64))), .second, .val (.long (((own_min (own_min (own_min (9223372036854775807 : Int64) (own_nan q1)) (own_nan q2)) (own_nan q3)) - q4) - (((own_min (own_min (own_min (9223372036854775807 : Int64) (own_nan q1)) (own_nan q2)) (own_nan q3)) / (100 : Int64)) + (2000000 : Int64)))), .second] [])) _
    refine XS.lload X10.here hx rfl (hb hby at_143) rfl ?_
    show Steps p.tables e below (T10.setTop (mkF m 145 #[.val (.long q1), .second, .val (.long q2), .second, .val (.long q3), .second, .val (.long q4), .second, .val (.int p5), .val (.int (3 : Int32)), .val (.ref b1), .val (.long (own_min (own_nan q1) (own_min (own_nan q2) (own_nan q3)))), .second, .val (.long ((((own_min (own_nan q1) (own_min (own_nan q2) (own_nan q3))) - q4) - ((own_min (own_nan q1) (own_min (own_nan q2) (own_nan q3))) / (100 : Int64))) - (2000000 : Int64))), .second, .val (.long (((own_min (own_min (own_min (9223372036854775807 : Int64) (own_nan q1)) (own_nan q2)) (own_nan q3)) - q4) - (((own_min (own_min (own_min (9223372036854775807 : Int64) (own_nan q1)) (own_nan q2)) (own_nan q3)) / (100 : Int64)) + (2000000 : Int64)))), .second] [(.long (((own_min (own_min (own_min (9223372036854775807 : Int64) (own_nan q1)) (own_nan q2)) (own_nan q3)) - q4) - (((own_min (own_min (own_min (9223372036854775807 : Int64) (own_nan q1)) (own_nan q2)) (own_nan q3)) / (100 : Int64)) + (2000000 : Int64))))])) _
    refine XS.lload X10.here hx rfl (hb hby at_145) rfl ?_
    show Steps p.tables e below (T10.setTop (mkF m 147 #[.val (.long q1), .second, .val (.long q2), .second, .val (.long q3), .second, .val (.long q4), .second, .val (.int p5), .val (.int (3 : Int32)), .val (.ref b1), .val (.long (own_min (own_nan q1) (own_min (own_nan q2) (own_nan q3)))), .second, .val (.long ((((own_min (own_nan q1) (own_min (own_nan q2) (own_nan q3))) - q4) - ((own_min (own_nan q1) (own_min (own_nan q2) (own_nan q3))) / (100 : Int64))) - (2000000 : Int64))), .second, .val (.long (((own_min (own_min (own_min (9223372036854775807 : Int64) (own_nan q1)) (own_nan q2)) (own_nan q3)) - q4) - (((own_min (own_min (own_min (9223372036854775807 : Int64) (own_nan q1)) (own_nan q2)) (own_nan q3)) / (100 : Int64)) + (2000000 : Int64)))), .second] [(.long ((((own_min (own_nan q1) (own_min (own_nan q2) (own_nan q3))) - q4) - ((own_min (own_nan q1) (own_min (own_nan q2) (own_nan q3))) / (100 : Int64))) - (2000000 : Int64))), (.long (((own_min (own_min (own_min (9223372036854775807 : Int64) (own_nan q1)) (own_nan q2)) (own_nan q3)) - q4) - (((own_min (own_min (own_min (9223372036854775807 : Int64) (own_nan q1)) (own_nan q2)) (own_nan q3)) / (100 : Int64)) + (2000000 : Int64))))])) _
    refine XS.lcmp X10.here hx rfl (hb hby at_147) rfl ?_
    show Steps p.tables e below (T10.setTop (mkF m 148 #[.val (.long q1), .second, .val (.long q2), .second, .val (.long q3), .second, .val (.long q4), .second, .val (.int p5), .val (.int (3 : Int32)), .val (.ref b1), .val (.long (own_min (own_nan q1) (own_min (own_nan q2) (own_nan q3)))), .second, .val (.long ((((own_min (own_nan q1) (own_min (own_nan q2) (own_nan q3))) - q4) - ((own_min (own_nan q1) (own_min (own_nan q2) (own_nan q3))) / (100 : Int64))) - (2000000 : Int64))), .second, .val (.long (((own_min (own_min (own_min (9223372036854775807 : Int64) (own_nan q1)) (own_nan q2)) (own_nan q3)) - q4) - (((own_min (own_min (own_min (9223372036854775807 : Int64) (own_nan q1)) (own_nan q2)) (own_nan q3)) / (100 : Int64)) + (2000000 : Int64)))), .second] [(.int (lcmpW (((own_min (own_min (own_min (9223372036854775807 : Int64) (own_nan q1)) (own_nan q2)) (own_nan q3)) - q4) - (((own_min (own_min (own_min (9223372036854775807 : Int64) (own_nan q1)) (own_nan q2)) (own_nan q3)) / (100 : Int64)) + (2000000 : Int64))) ((((own_min (own_nan q1) (own_min (own_nan q2) (own_nan q3))) - q4) - ((own_min (own_nan q1) (own_min (own_nan q2) (own_nan q3))) / (100 : Int64))) - (2000000 : Int64))))])) _
    refine XS.ifNo X10.here hx rfl (hb hby at_148) rfl ((if0 _ _).trans (teq ((lw_eq (((own_min (own_min (own_min (9223372036854775807 : Int64) (own_nan q1)) (own_nan q2)) (own_nan q3)) - q4) - (((own_min (own_min (own_min (9223372036854775807 : Int64) (own_nan q1)) (own_nan q2)) (own_nan q3)) / (100 : Int64)) + (2000000 : Int64))) ((((own_min (own_nan q1) (own_min (own_nan q2) (own_nan q3))) - q4) - ((own_min (own_nan q1) (own_min (own_nan q2) (own_nan q3))) / (100 : Int64))) - (2000000 : Int64))).mpr (own_fin_3 q1 q2 q3 q4))).2) ?_
    show Steps p.tables e below (T10.setTop (mkF m 151 #[.val (.long q1), .second, .val (.long q2), .second, .val (.long q3), .second, .val (.long q4), .second, .val (.int p5), .val (.int (3 : Int32)), .val (.ref b1), .val (.long (own_min (own_nan q1) (own_min (own_nan q2) (own_nan q3)))), .second, .val (.long ((((own_min (own_nan q1) (own_min (own_nan q2) (own_nan q3))) - q4) - ((own_min (own_nan q1) (own_min (own_nan q2) (own_nan q3))) / (100 : Int64))) - (2000000 : Int64))), .second, .val (.long (((own_min (own_min (own_min (9223372036854775807 : Int64) (own_nan q1)) (own_nan q2)) (own_nan q3)) - q4) - (((own_min (own_min (own_min (9223372036854775807 : Int64) (own_nan q1)) (own_nan q2)) (own_nan q3)) / (100 : Int64)) + (2000000 : Int64)))), .second] [])) _
    refine XS.iconst X10.here hx rfl (hb hby at_151) ?_
    show Steps p.tables e below (T10.setTop (mkF m 152 #[.val (.long q1), .second, .val (.long q2), .second, .val (.long q3), .second, .val (.long q4), .second, .val (.int p5), .val (.int (3 : Int32)), .val (.ref b1), .val (.long (own_min (own_nan q1) (own_min (own_nan q2) (own_nan q3)))), .second, .val (.long ((((own_min (own_nan q1) (own_min (own_nan q2) (own_nan q3))) - q4) - ((own_min (own_nan q1) (own_min (own_nan q2) (own_nan q3))) / (100 : Int64))) - (2000000 : Int64))), .second, .val (.long (((own_min (own_min (own_min (9223372036854775807 : Int64) (own_nan q1)) (own_nan q2)) (own_nan q3)) - q4) - (((own_min (own_min (own_min (9223372036854775807 : Int64) (own_nan q1)) (own_nan q2)) (own_nan q3)) / (100 : Int64)) + (2000000 : Int64)))), .second] [(.int (1 : Int32))])) _
    refine XS.goto X10.here hx rfl (pc0 := 152) (pc' := 156) rfl (hb hby at_152) (by decide) (by decide) ?_
    show Steps p.tables e below (T10.setTop (mkF m 156 #[.val (.long q1), .second, .val (.long q2), .second, .val (.long q3), .second, .val (.long q4), .second, .val (.int p5), .val (.int (3 : Int32)), .val (.ref b1), .val (.long (own_min (own_nan q1) (own_min (own_nan q2) (own_nan q3)))), .second, .val (.long ((((own_min (own_nan q1) (own_min (own_nan q2) (own_nan q3))) - q4) - ((own_min (own_nan q1) (own_min (own_nan q2) (own_nan q3))) / (100 : Int64))) - (2000000 : Int64))), .second, .val (.long (((own_min (own_min (own_min (9223372036854775807 : Int64) (own_nan q1)) (own_nan q2)) (own_nan q3)) - q4) - (((own_min (own_min (own_min (9223372036854775807 : Int64) (own_nan q1)) (own_nan q2)) (own_nan q3)) / (100 : Int64)) + (2000000 : Int64)))), .second] [(.int (1 : Int32))])) _
    exact retN X10 hx (t := .boolean) Bd.returns (by simp) (hb hby at_156) hr
  · show QL (.int (1 : Int32)) n0 _ T10.heap _
    exact ⟨rfl, N10, trivial⟩
set_option maxRecDepth 65536 in
set_option maxHeartbeats 40000000 in
theorem comes_1 {Post : Tables → Env → Array Value → State → Outcome → State → Prop} (hpost : ∀ tb e args s v u, (limb_1_1.after args s (.returned v) u = true ∧ limb_1_2.after args s (.returned v) u = true ∧ True) → FrameEnd s (.returned v) u (Jvm.fieldLocs frame_1_writes args s ++ Jvm.arrayLocs frame_1_arrays args s ++ Jvm.staticLocs frame_1_statics s) 16 128 → Post tb e args s (.returned v) u) :
    ArmFor flags0 classFile x code maxLocals ret World_1 tables_1 room_1 Calls_1 rest_1 Pre_1 Post := by
  intro l hfl _ _ p e ha hc hk s m args below hf hA hF happ hP
  obtain ⟨hcalls, hrest, hpre⟩ := hP
  obtain ⟨-, -, -, hnamed, -, -, -, hat⟩ := (Spec.applies_iff hf).mp happ
  obtain ⟨hg, hn⟩ := and_e (Cond.before_iff.mp (show (Jvm.Cond.and given_1 narrow_1).before args s = true from hpre))
  obtain ⟨hg0, hgr0⟩ := and_e hg
  obtain ⟨hg1, hgr1⟩ := and_e hgr0
  obtain ⟨hg2, hgr2⟩ := and_e hgr1
  obtain ⟨hg3, hgr3⟩ := and_e hgr2
  obtain ⟨hg4, hgr4⟩ := and_e hgr3
  have hg5 := hgr4
  obtain ⟨w0, w1, w2, w3, w4, rfl⟩ : ∃ w0 w1 w2 w3 w4 : Value, args = #[w0, w1, w2, w3, w4] := by
    have hs : args.size = 5 := by simpa [Cond.value, given_1] using hg0
    obtain ⟨L⟩ := args
    match L, hs with
    | [w0, w1, w2, w3, w4], _ => exact ⟨w0, w1, w2, w3, w4, rfl⟩
  have hw := fun d (hd : d ∈ tables_1) => atoms_spec (ws := Jvm.Cond.code x code maxLocals ret :: tables_1) hat d (List.mem_cons_of_mem _ hd)
  have hfit : Fit s := fun {y c} hc i hi => by
    obtain ⟨ha, rfl⟩ := Array.getElem?_eq_some_iff.mp hc
    have q := List.all_eq_true.mp ((Array.all_eq_true_iff_forall_mem.mp hF) _ (Array.getElem_mem ha)) i (List.mem_range.mpr hi)
    simpa [Array.getElem?_eq_getElem hi] using q
  obtain ⟨hsets, hown0⟩ := atoms_of _ (rest_1_c_eq ▸ (show rest_1_c.before _ s = true from hrest))
  obtain ⟨i0, ei0⟩ := isL_v hg1
  obtain rfl : w0 = (.long i0) := Option.some.inj ei0
  obtain ⟨i1, ei1⟩ := isL_v hg2
  obtain rfl : w1 = (.long i1) := Option.some.inj ei1
  obtain ⟨i2, ei2⟩ := isL_v hg3
  obtain rfl : w2 = (.long i2) := Option.some.inj ei2
  obtain ⟨i3, ei3⟩ := isL_v hg4
  obtain rfl : w3 = (.long i3) := Option.some.inj ei3
  obtain ⟨i4, ei4⟩ := is_v hg5
  obtain rfl : w4 = (.int i4) := Option.some.inj ei4
  have hn0 := hn
  have hnx := hn
  have S_RND := Sta.start (own_staJ hn) (Or.inr ⟨(hw _ (List.mem_of_getElem? (i := 17) rfl)), (hw _ (List.mem_of_getElem? (i := 35) rfl))⟩)
  obtain ⟨w_MS, ev_MS⟩ := exa_v (Cond.before_iff.mp (hsets _ (List.mem_of_getElem? (i := 2) rfl)))
  have S_MS := Sta.start ev_MS (Or.inl (hsets _ (List.mem_of_getElem? (i := 1) rfl)))
  have E_MS := Exa.start ev_MS (Cond.before_iff.mp (hsets _ (List.mem_of_getElem? (i := 2) rfl)))
  have F_scale := own_fldJ ev_MS (Cond.before_iff.mp (hsets _ (List.mem_of_getElem? (i := 5) rfl)))
  have F_max := own_fldJ ev_MS (Cond.before_iff.mp (hsets _ (List.mem_of_getElem? (i := 6) rfl)))
  rcases own_k3 i4 with hv | hv | hv | hv
  · obtain ⟨n, o, h1, h2, h3, _, L, rfl, ⟨rfl, N, -⟩, hq⟩ := rm0_0 l s _ hw tables_1 i0 i1 i2 i3 i4 w_MS s.heap s.heap.size (Nat.le_refl _) S_MS E_MS F_scale F_max S_RND hv p e ha hc hk s m _ below hf ((Spec.applies_iff_loose hf).mp happ).1 ⟨rfl, State.Warmed39.refl s, rfl⟩ trivial
    exact ⟨n, _, h1, h2, h3, hpost _ _ _ _ _ _ ⟨Cond.after_iff.mpr rfl, Cond.after_iff.mpr (eq_i res_at (Term.int_eval (1)) rfl), trivial⟩ ⟨hq.1, hq.2.1, (hq.2.2.sift fun y hy => Or.inr (N y hy)).mono (by decide) (by decide)⟩⟩
  · obtain ⟨n, o, h1, h2, h3, _, L, rfl, ⟨rfl, N, -⟩, hq⟩ := rm0_1 l s _ hw tables_1 i0 i1 i2 i3 i4 w_MS s.heap s.heap.size (Nat.le_refl _) S_MS E_MS F_scale F_max S_RND hv p e ha hc hk s m _ below hf ((Spec.applies_iff_loose hf).mp happ).1 ⟨rfl, State.Warmed39.refl s, rfl⟩ trivial
    exact ⟨n, _, h1, h2, h3, hpost _ _ _ _ _ _ ⟨Cond.after_iff.mpr rfl, Cond.after_iff.mpr (eq_i res_at (Term.int_eval (1)) rfl), trivial⟩ ⟨hq.1, hq.2.1, (hq.2.2.sift fun y hy => Or.inr (N y hy)).mono (by decide) (by decide)⟩⟩
  · obtain ⟨n, o, h1, h2, h3, _, L, rfl, ⟨rfl, N, -⟩, hq⟩ := rm0_2 l s _ hw tables_1 i0 i1 i2 i3 i4 w_MS s.heap s.heap.size (Nat.le_refl _) S_MS E_MS F_scale F_max S_RND hv p e ha hc hk s m _ below hf ((Spec.applies_iff_loose hf).mp happ).1 ⟨rfl, State.Warmed39.refl s, rfl⟩ trivial
    exact ⟨n, _, h1, h2, h3, hpost _ _ _ _ _ _ ⟨Cond.after_iff.mpr rfl, Cond.after_iff.mpr (eq_i res_at (Term.int_eval (1)) rfl), trivial⟩ ⟨hq.1, hq.2.1, (hq.2.2.sift fun y hy => Or.inr (N y hy)).mono (by decide) (by decide)⟩⟩
  · obtain ⟨n, o, h1, h2, h3, _, L, rfl, ⟨rfl, N, -⟩, hq⟩ := rm0_3 l s _ hw tables_1 i0 i1 i2 i3 i4 w_MS s.heap s.heap.size (Nat.le_refl _) S_MS E_MS F_scale F_max S_RND hv p e ha hc hk s m _ below hf ((Spec.applies_iff_loose hf).mp happ).1 ⟨rfl, State.Warmed39.refl s, rfl⟩ trivial
    exact ⟨n, _, h1, h2, h3, hpost _ _ _ _ _ _ ⟨Cond.after_iff.mpr rfl, Cond.after_iff.mpr (eq_i res_at (Term.int_eval (1)) rfl), trivial⟩ ⟨hq.1, hq.2.1, (hq.2.2.sift fun y hy => Or.inr (N y hy)).mono (by decide) (by decide)⟩⟩
theorem main_1_1 : Claimed_1_1 := comes_1 fun _ _ _ _ _ _ h hF => ⟨h.1, hF⟩
theorem main_1_2 : Claimed_1_2 := comes_1 fun _ _ _ _ _ _ h hF => ⟨h.2.1, hF⟩
end Jvm.Pilot.@@N@@
namespace Jvm.Pilot.@@N@@
open Jvm Jvm.ClassFile Sem Op Lib Jvm.Free Jvm.Stand Jvm.Pilot.@@N@@.Jvm.D
/-! MADE BY PROGRAM (witnessworld.py) out of the Statement's table words and the real class files: 22 classes; the members and pool entries that the words name. The judged class is class 1, her method 2. -/
namespace start1
open Jvm.ClassFile
def u (s : String) : CpInfo := .utf8 (stringToUtf16 s)
/-- a pool by its gaps: so many unusable entries, then the entry; so many at the end -/
def gap : Nat → List CpInfo → List CpInfo
  | 0, r => r
  | n + 1, r => .unusable :: gap n r
def poolList (es : List (Nat × CpInfo)) (last : Nat) : List CpInfo := es.foldr (fun e r => gap e.1 (e.2 :: r)) (gap last [])
def pool (es : List (Nat × CpInfo)) (last : Nat) : Array CpInfo := ⟨poolList es last⟩
def fileOf (pool : Array CpInfo) (this : Nat) (attrs : Array Attribute := #[]) (ms : Array MethodInfo := #[]) (fl : Nat := 33) (sup : Nat := 0) (ifs : Array Nat := #[]) (fds : Array FieldInfo := #[]) : ClassFile where
  minorVersion := 0
  majorVersion := 65
  constantPool := pool
  accessFlags := fl
  thisClass := this
  superClass := sup
  interfaces := ifs
  fields := fds
  methods := ms
  attributes := attrs
def plain (name : String) (sup : Option ClassId) : Class where
  name := name
  kind := .ordinary
  loader := none
  accessFlags := 33
  super := sup
  interfaces := #[]
  cf := none
  fields := #[]
  methods := #[]
  instanceTypes := #[]
  staticTypes := #[]
  resolved := #[]
  callSites := []
  init := .initialized
  statics := none
  mirror := none

def pool0 : Array CpInfo := pool [(5, u "<init>"), (0, u "()V"), (1, .class_ 10), (1, u "java/lang/Object")] 113

def k0m0 : Method := { name := "<init>", desc := "()V", sig := { parameters := [], returnType := none }, accessFlags := 1, code := none }
/-- java/lang/Object -/
def k0 : Class := { plain "java/lang/Object" none with
  accessFlags := 33
  interfaces := #[]
  cf := some (fileOf pool0 8 #[] #[{ accessFlags := 1, nameIndex := 5, descriptorIndex := 6, attributes := #[] }] 33 0 #[] #[])
  fields := #[]
  methods := #[k0m0]
  instanceTypes := #[]
  staticTypes := #[]
  resolved := Array.replicate 124 none
  statics := none }

def pool1 : Array CpInfo := pool [(2, .class_ 4), (1, u "java/lang/Object"), (0, u "<init>"), (0, u "()V"), (0, .long 9223372036854), (3, .long 9223372036854775807), (1, .long 18446734850337514762), (1, .long 9223372036854775808), (1, .long 1000000), (1, .methodref 20 21), (0, .class_ 22), (0, .nameAndType 23 24), (0, u "com/example/portunus/portunus/MultiServerLockValidityNanosPinLaw"), (0, u "nanos"), (0, u "(J)J"), (0, .methodref 26 27), (0, .class_ 28), (0, .nameAndType 29 30), (0, u "java/lang/Math"), (0, u "min"), (0, u "(JJ)J"), (0, .long 100), (1, .long 2000000), (1, .methodref 36 37), (0, .class_ 38), (0, .nameAndType 39 40), (0, u "com/example/portunus/portunus/MultiServerLock"), (0, u "validityNanos"), (0, u "([JJ)J"), (3, u "law"), (0, u "(JJJJI)Z")] 4

def k1m0 : Method := { name := "<init>", desc := "()V", sig := { parameters := [], returnType := none }, accessFlags := 2, code := none }
def k1c1 : Code := { maxStack := 4, maxLocals := 2, code := method_2_code, exceptionTable := #[], attributes := #[] }
def k1m1 : Method := { name := "nanos", desc := "(J)J", sig := { parameters := [.long], returnType := some .long }, accessFlags := 10, code := some k1c1 }
def k1c2 : Code := { maxStack := 6, maxLocals := 17, code := code, exceptionTable := #[], attributes := #[] }
def k1m2 : Method := { name := "law", desc := "(JJJJI)Z", sig := { parameters := [.long, .long, .long, .long, .int], returnType := some .boolean }, accessFlags := 9, code := some k1c2 }
/-- com/example/portunus/portunus/MultiServerLockValidityNanosPinLaw -/
def k1 : Class := { plain "com/example/portunus/portunus/MultiServerLockValidityNanosPinLaw" (some 0) with
  accessFlags := 49
  interfaces := #[]
  cf := some (fileOf pool1 20 #[] #[{ accessFlags := 2, nameIndex := 5, descriptorIndex := 6, attributes := #[] }, { accessFlags := 10, nameIndex := 23, descriptorIndex := 24, attributes := #[] }, { accessFlags := 9, nameIndex := 44, descriptorIndex := 45, attributes := #[] }] 49 2 #[] #[])
  fields := #[]
  methods := #[k1m0, k1m1, k1m2]
  instanceTypes := #[]
  staticTypes := #[]
  resolved := Array.replicate 50 none
  statics := none }

def pool2 : Array CpInfo := pool [(1, .class_ 2), (0, u "java/lang/Math"), (1, .class_ 6), (1, u "java/lang/Object"), (0, u "<init>"), (0, u "()V"), (89, .class_ 100), (1, u "java/lang/Math$RandomNumberGeneratorHolder"), (20, u "(JJ)J"), (50, u "negativeZeroFloatBits"), (0, u "J"), (2, u "negativeZeroDoubleBits"), (24, u "min"), (43, u "$assertionsDisabled"), (0, u "Z"), (91, u "twoToTheDoubleScaleDown"), (0, u "D"), (4, u "twoToTheDoubleScaleUp"), (9, u "E"), (3, u "PI"), (2, u "TAU"), (2, u "DEGREES_TO_RADIANS"), (0, u "RADIANS_TO_DEGREES")] 94

def k2m0 : Method := { name := "<init>", desc := "()V", sig := { parameters := [], returnType := none }, accessFlags := 2, code := none }
def k2c1 : Code := { maxStack := 4, maxLocals := 4, code := jdk_29_method_70_code, exceptionTable := #[], attributes := #[] }
def k2m1 : Method := { name := "min", desc := "(JJ)J", sig := { parameters := [.long, .long], returnType := some .long }, accessFlags := 9, code := some k2c1 }
/-- java/lang/Math -/
def k2 : Class := { plain "java/lang/Math" (some 0) with
  accessFlags := 49
  interfaces := #[]
  cf := some (fileOf pool2 1 #[.nestMembers #[98]] #[{ accessFlags := 2, nameIndex := 7, descriptorIndex := 8, attributes := #[] }, { accessFlags := 9, nameIndex := 201, descriptorIndex := 121, attributes := #[] }] 49 4 #[] #[{ accessFlags := 25, nameIndex := 354, descriptorIndex := 339, attributes := #[] }, { accessFlags := 25, nameIndex := 358, descriptorIndex := 339, attributes := #[] }, { accessFlags := 25, nameIndex := 361, descriptorIndex := 339, attributes := #[] }, { accessFlags := 26, nameIndex := 364, descriptorIndex := 339, attributes := #[] }, { accessFlags := 26, nameIndex := 365, descriptorIndex := 339, attributes := #[] }, { accessFlags := 26, nameIndex := 172, descriptorIndex := 173, attributes := #[] }, { accessFlags := 26, nameIndex := 176, descriptorIndex := 173, attributes := #[] }, { accessFlags := 8, nameIndex := 344, descriptorIndex := 339, attributes := #[] }, { accessFlags := 8, nameIndex := 338, descriptorIndex := 339, attributes := #[] }, { accessFlags := 4120, nameIndex := 245, descriptorIndex := 246, attributes := #[] }])
  fields := #[{ name := "E", type := .double, accessFlags := 25, slot := 0, constantValue := 0 }, { name := "PI", type := .double, accessFlags := 25, slot := 1, constantValue := 0 }, { name := "TAU", type := .double, accessFlags := 25, slot := 2, constantValue := 0 }, { name := "DEGREES_TO_RADIANS", type := .double, accessFlags := 26, slot := 3, constantValue := 0 }, { name := "RADIANS_TO_DEGREES", type := .double, accessFlags := 26, slot := 4, constantValue := 0 }, { name := "negativeZeroFloatBits", type := .long, accessFlags := 26, slot := 5, constantValue := 0 }, { name := "negativeZeroDoubleBits", type := .long, accessFlags := 26, slot := 6, constantValue := 0 }, { name := "twoToTheDoubleScaleUp", type := .double, accessFlags := 8, slot := 7, constantValue := 0 }, { name := "twoToTheDoubleScaleDown", type := .double, accessFlags := 8, slot := 8, constantValue := 0 }, { name := "$assertionsDisabled", type := .boolean, accessFlags := 4120, slot := 9, constantValue := 0 }]
  methods := #[k2m0, k2m1]
  instanceTypes := #[]
  staticTypes := #[.double, .double, .double, .double, .double, .long, .long, .double, .double, .boolean]
  resolved := Array.replicate 460 none
  statics := none }

def pool3 : Array CpInfo := pool [(1, .class_ 2), (0, u "java/util/concurrent/locks/Lock"), (0, .class_ 4), (0, u "java/lang/Object")] 14

/-- java/util/concurrent/locks/Lock -/
def k3 : Class := { plain "java/util/concurrent/locks/Lock" (some 0) with
  accessFlags := 1537
  interfaces := #[]
  cf := some (fileOf pool3 1 #[] #[] 1537 3 #[] #[])
  fields := #[]
  methods := #[]
  instanceTypes := #[]
  staticTypes := #[]
  resolved := Array.replicate 19 none
  statics := none }

def pool4 : Array CpInfo := pool [(1, .class_ 2), (0, u "com/example/portunus/portunus/PortunusLock"), (0, .class_ 4), (0, u "java/lang/Object"), (0, .class_ 6), (0, u "java/util/concurrent/locks/Lock")] 14

/-- com/example/portunus/portunus/PortunusLock -/
def k4 : Class := { plain "com/example/portunus/portunus/PortunusLock" (some 0) with
  accessFlags := 1537
  interfaces := #[3]
  cf := some (fileOf pool4 1 #[] #[] 1537 3 #[5] #[])
  fields := #[]
  methods := #[]
  instanceTypes := #[]
  staticTypes := #[]
  resolved := Array.replicate 21 none
  statics := none }

def pool5 : Array CpInfo := pool [(4, .class_ 6), (1, u "java/lang/Object"), (3, .class_ 12), (1, u "com/example/portunus/portunus/AbstractPortunusLock"), (0, u "names"), (0, u "Ljava/util/List;"), (2, u "clientId"), (0, u "Ljava/lang/String;"), (139, .class_ 159), (0, u "com/example/portunus/portunus/PortunusLock"), (0, u "NO_LIMIT"), (0, u "J")] 63

/-- com/example/portunus/portunus/AbstractPortunusLock -/
def k5 : Class := { plain "com/example/portunus/portunus/AbstractPortunusLock" (some 0) with
  accessFlags := 1056
  interfaces := #[4]
  cf := some (fileOf pool5 10 #[] #[] 1056 4 #[158] #[{ accessFlags := 24, nameIndex := 160, descriptorIndex := 161, attributes := #[] }, { accessFlags := 16, nameIndex := 13, descriptorIndex := 14, attributes := #[] }, { accessFlags := 18, nameIndex := 17, descriptorIndex := 18, attributes := #[] }])
  fields := #[{ name := "NO_LIMIT", type := .long, accessFlags := 24, slot := 0, constantValue := 0 }, { name := "names", type := (.object "java/util/List"), accessFlags := 16, slot := 0, constantValue := 0 }, { name := "clientId", type := (.object "java/lang/String"), accessFlags := 18, slot := 1, constantValue := 0 }]
  methods := #[]
  instanceTypes := #[(.object "java/util/List"), (.object "java/lang/String")]
  staticTypes := #[.long]
  resolved := Array.replicate 225 none
  statics := none }

def pool6 : Array CpInfo := pool [(2, .class_ 4), (1, u "com/example/portunus/portunus/AbstractPortunusLock"), (3, .class_ 10), (1, u "com/example/portunus/portunus/MultiServerLock"), (0, u "servers"), (0, u "Lcom/example/portunus/portunus/RedisServers;"), (2, u "watchdog"), (0, u "Lcom/example/portunus/portunus/Watchdog;"), (2, u "ownCounts"), (0, u "Lcom/example/portunus/portunus/HoldCounts;"), (2, u "retryPause"), (0, u "Lcom/example/portunus/portunus/RetryPause;"), (67, u "validityNanos"), (0, u "([JJ)J"), (28, u "(JJ)J"), (1, .class_ 126), (1, u "java/util/concurrent/TimeUnit"), (1, u "Ljava/util/concurrent/TimeUnit;"), (5, .methodref 135 136), (0, .class_ 137), (0, .nameAndType 138 122), (0, u "java/lang/Math"), (0, u "min"), (146, .long 9223372036854775807), (1, .fieldref 124 288), (0, .nameAndType 289 128), (0, u "MILLISECONDS"), (0, .methodref 124 291), (0, .nameAndType 292 293), (0, u "toNanos"), (0, u "(J)J"), (0, .long 100), (1, .fieldref 8 297), (0, .nameAndType 298 299), (0, u "ROUNDING_NANOS"), (0, u "J"), (36, u "DRIFT_DIVISOR")] 135

def k6c0 : Code := { maxStack := 5, maxLocals := 10, code := prog_15_method_10_code, exceptionTable := #[], attributes := #[] }
def k6m0 : Method := { name := "validityNanos", desc := "([JJ)J", sig := { parameters := [(.array .long), .long], returnType := some .long }, accessFlags := 8, code := some k6c0 }
/-- com/example/portunus/portunus/MultiServerLock -/
def k6 : Class := { plain "com/example/portunus/portunus/MultiServerLock" (some 5) with
  accessFlags := 48
  interfaces := #[]
  cf := some (fileOf pool6 8 #[] #[{ accessFlags := 8, nameIndex := 92, descriptorIndex := 93, attributes := #[] }] 48 2 #[] #[{ accessFlags := 26, nameIndex := 336, descriptorIndex := 299, attributes := #[] }, { accessFlags := 26, nameIndex := 298, descriptorIndex := 299, attributes := #[] }, { accessFlags := 18, nameIndex := 11, descriptorIndex := 12, attributes := #[] }, { accessFlags := 18, nameIndex := 15, descriptorIndex := 16, attributes := #[] }, { accessFlags := 18, nameIndex := 19, descriptorIndex := 20, attributes := #[] }, { accessFlags := 18, nameIndex := 23, descriptorIndex := 24, attributes := #[] }])
  fields := #[{ name := "DRIFT_DIVISOR", type := .long, accessFlags := 26, slot := 0, constantValue := 0 }, { name := "ROUNDING_NANOS", type := .long, accessFlags := 26, slot := 1, constantValue := 0 }, { name := "servers", type := (.object "com/example/portunus/portunus/RedisServers"), accessFlags := 18, slot := 2, constantValue := 0 }, { name := "watchdog", type := (.object "com/example/portunus/portunus/Watchdog"), accessFlags := 18, slot := 3, constantValue := 0 }, { name := "ownCounts", type := (.object "com/example/portunus/portunus/HoldCounts"), accessFlags := 18, slot := 4, constantValue := 0 }, { name := "retryPause", type := (.object "com/example/portunus/portunus/RetryPause"), accessFlags := 18, slot := 5, constantValue := 0 }]
  methods := #[k6m0]
  instanceTypes := #[(.object "java/util/List"), (.object "java/lang/String"), (.object "com/example/portunus/portunus/RedisServers"), (.object "com/example/portunus/portunus/Watchdog"), (.object "com/example/portunus/portunus/HoldCounts"), (.object "com/example/portunus/portunus/RetryPause")]
  staticTypes := #[.long, .long]
  resolved := Array.replicate 472 none
  statics := some 0 }

def pool7 : Array CpInfo := pool [(1, .class_ 2), (0, u "java/lang/constant/Constable"), (0, .class_ 4), (0, u "java/lang/Object")] 6

/-- java/lang/constant/Constable -/
def k7 : Class := { plain "java/lang/constant/Constable" (some 0) with
  accessFlags := 1537
  interfaces := #[]
  cf := some (fileOf pool7 1 #[] #[] 1537 3 #[] #[])
  fields := #[]
  methods := #[]
  instanceTypes := #[]
  staticTypes := #[]
  resolved := Array.replicate 11 none
  statics := none }

def pool8 : Array CpInfo := pool [(1, .class_ 2), (0, u "java/lang/Comparable"), (0, .class_ 4), (0, u "java/lang/Object")] 7

/-- java/lang/Comparable -/
def k8 : Class := { plain "java/lang/Comparable" (some 0) with
  accessFlags := 1537
  interfaces := #[]
  cf := some (fileOf pool8 1 #[] #[] 1537 3 #[] #[])
  fields := #[]
  methods := #[]
  instanceTypes := #[]
  staticTypes := #[]
  resolved := Array.replicate 12 none
  statics := none }

def pool9 : Array CpInfo := pool [(1, .class_ 2), (0, u "java/io/Serializable"), (0, .class_ 4), (0, u "java/lang/Object")] 2

/-- java/io/Serializable -/
def k9 : Class := { plain "java/io/Serializable" (some 0) with
  accessFlags := 1537
  interfaces := #[]
  cf := some (fileOf pool9 1 #[] #[] 1537 3 #[] #[])
  fields := #[]
  methods := #[]
  instanceTypes := #[]
  staticTypes := #[]
  resolved := Array.replicate 7 none
  statics := none }

def pool10 : Array CpInfo := pool [(2, .class_ 4), (1, u "java/lang/Enum"), (0, u "name"), (0, u "Ljava/lang/String;"), (2, u "ordinal"), (0, u "I"), (1, .class_ 14), (1, u "java/lang/Object"), (4, u "hash"), (86, .class_ 108), (1, u "java/lang/Enum$EnumDesc"), (2, .class_ 112), (0, u "java/lang/constant/Constable"), (0, .class_ 114), (0, u "java/lang/Comparable"), (0, .class_ 116), (0, u "java/io/Serializable")] 87

/-- java/lang/Enum -/
def k10 : Class := { plain "java/lang/Enum" (some 0) with
  accessFlags := 1057
  interfaces := #[7, 8, 9]
  cf := some (fileOf pool10 2 #[.nestMembers #[106]] #[] 1057 12 #[111, 113, 115] #[{ accessFlags := 18, nameIndex := 5, descriptorIndex := 6, attributes := #[] }, { accessFlags := 18, nameIndex := 9, descriptorIndex := 10, attributes := #[] }, { accessFlags := 2, nameIndex := 19, descriptorIndex := 10, attributes := #[] }])
  fields := #[{ name := "name", type := (.object "java/lang/String"), accessFlags := 18, slot := 0, constantValue := 0 }, { name := "ordinal", type := .int, accessFlags := 18, slot := 1, constantValue := 0 }, { name := "hash", type := .int, accessFlags := 2, slot := 2, constantValue := 0 }]
  methods := #[]
  instanceTypes := #[(.object "java/lang/String"), .int, .int]
  staticTypes := #[]
  resolved := Array.replicate 204 none
  statics := none }

def pool11 : Array CpInfo := pool [(1, .class_ 2), (0, u "java/util/concurrent/TimeUnit"), (2, u "NANOSECONDS"), (0, u "Ljava/util/concurrent/TimeUnit;"), (2, u "MICROSECONDS"), (2, u "MILLISECONDS"), (2, u "SECONDS"), (2, u "MINUTES"), (2, u "HOURS"), (2, u "DAYS"), (2, u "$VALUES"), (0, u "[Ljava/util/concurrent/TimeUnit;"), (6, .class_ 37), (1, u "java/lang/Enum"), (6, .fieldref 1 45), (0, .nameAndType 46 47), (0, u "scale"), (0, u "J"), (2, .long 9223372036854775807), (1, .fieldref 1 53), (0, .nameAndType 54 47), (0, u "maxNanos"), (4, u "microRatio"), (2, u "maxMicros"), (4, u "milliRatio"), (0, u "I"), (2, u "maxMillis"), (4, u "secRatio"), (2, u "maxSecs"), (0, .long 9223372036854775808), (7, u "toNanos"), (0, u "(J)J"), (73, .class_ 165), (1, u "java/util/concurrent/TimeUnit$1"), (46, u "NANO_SCALE"), (3, u "MICRO_SCALE"), (0, u "MILLI_SCALE"), (0, u "SECOND_SCALE"), (0, u "MINUTE_SCALE"), (0, u "HOUR_SCALE"), (0, u "DAY_SCALE")] 61

def k11c0 : Code := { maxStack := 6, maxLocals := 7, code := jdk_2799_method_7_code, exceptionTable := #[], attributes := #[] }
def k11m0 : Method := { name := "toNanos", desc := "(J)J", sig := { parameters := [.long], returnType := some .long }, accessFlags := 1, code := some k11c0 }
/-- java/util/concurrent/TimeUnit -/
def k11 : Class := { plain "java/util/concurrent/TimeUnit" (some 10) with
  accessFlags := 16433
  interfaces := #[]
  cf := some (fileOf pool11 1 #[.nestMembers #[163]] #[{ accessFlags := 1, nameIndex := 88, descriptorIndex := 89, attributes := #[] }] 16433 35 #[] #[{ accessFlags := 16409, nameIndex := 5, descriptorIndex := 6, attributes := #[] }, { accessFlags := 16409, nameIndex := 9, descriptorIndex := 6, attributes := #[] }, { accessFlags := 16409, nameIndex := 12, descriptorIndex := 6, attributes := #[] }, { accessFlags := 16409, nameIndex := 15, descriptorIndex := 6, attributes := #[] }, { accessFlags := 16409, nameIndex := 18, descriptorIndex := 6, attributes := #[] }, { accessFlags := 16409, nameIndex := 21, descriptorIndex := 6, attributes := #[] }, { accessFlags := 16409, nameIndex := 24, descriptorIndex := 6, attributes := #[] }, { accessFlags := 26, nameIndex := 212, descriptorIndex := 47, attributes := #[] }, { accessFlags := 26, nameIndex := 216, descriptorIndex := 47, attributes := #[] }, { accessFlags := 26, nameIndex := 217, descriptorIndex := 47, attributes := #[] }, { accessFlags := 26, nameIndex := 218, descriptorIndex := 47, attributes := #[] }, { accessFlags := 26, nameIndex := 219, descriptorIndex := 47, attributes := #[] }, { accessFlags := 26, nameIndex := 220, descriptorIndex := 47, attributes := #[] }, { accessFlags := 26, nameIndex := 221, descriptorIndex := 47, attributes := #[] }, { accessFlags := 18, nameIndex := 46, descriptorIndex := 47, attributes := #[] }, { accessFlags := 18, nameIndex := 54, descriptorIndex := 47, attributes := #[] }, { accessFlags := 18, nameIndex := 62, descriptorIndex := 47, attributes := #[] }, { accessFlags := 18, nameIndex := 71, descriptorIndex := 47, attributes := #[] }, { accessFlags := 18, nameIndex := 79, descriptorIndex := 47, attributes := #[] }, { accessFlags := 18, nameIndex := 59, descriptorIndex := 47, attributes := #[] }, { accessFlags := 18, nameIndex := 67, descriptorIndex := 68, attributes := #[] }, { accessFlags := 18, nameIndex := 76, descriptorIndex := 68, attributes := #[] }, { accessFlags := 4122, nameIndex := 27, descriptorIndex := 28, attributes := #[] }])
  fields := #[{ name := "NANOSECONDS", type := (.object "java/util/concurrent/TimeUnit"), accessFlags := 16409, slot := 0, constantValue := 0 }, { name := "MICROSECONDS", type := (.object "java/util/concurrent/TimeUnit"), accessFlags := 16409, slot := 1, constantValue := 0 }, { name := "MILLISECONDS", type := (.object "java/util/concurrent/TimeUnit"), accessFlags := 16409, slot := 2, constantValue := 0 }, { name := "SECONDS", type := (.object "java/util/concurrent/TimeUnit"), accessFlags := 16409, slot := 3, constantValue := 0 }, { name := "MINUTES", type := (.object "java/util/concurrent/TimeUnit"), accessFlags := 16409, slot := 4, constantValue := 0 }, { name := "HOURS", type := (.object "java/util/concurrent/TimeUnit"), accessFlags := 16409, slot := 5, constantValue := 0 }, { name := "DAYS", type := (.object "java/util/concurrent/TimeUnit"), accessFlags := 16409, slot := 6, constantValue := 0 }, { name := "NANO_SCALE", type := .long, accessFlags := 26, slot := 7, constantValue := 0 }, { name := "MICRO_SCALE", type := .long, accessFlags := 26, slot := 8, constantValue := 0 }, { name := "MILLI_SCALE", type := .long, accessFlags := 26, slot := 9, constantValue := 0 }, { name := "SECOND_SCALE", type := .long, accessFlags := 26, slot := 10, constantValue := 0 }, { name := "MINUTE_SCALE", type := .long, accessFlags := 26, slot := 11, constantValue := 0 }, { name := "HOUR_SCALE", type := .long, accessFlags := 26, slot := 12, constantValue := 0 }, { name := "DAY_SCALE", type := .long, accessFlags := 26, slot := 13, constantValue := 0 }, { name := "scale", type := .long, accessFlags := 18, slot := 3, constantValue := 0 }, { name := "maxNanos", type := .long, accessFlags := 18, slot := 4, constantValue := 0 }, { name := "maxMicros", type := .long, accessFlags := 18, slot := 5, constantValue := 0 }, { name := "maxMillis", type := .long, accessFlags := 18, slot := 6, constantValue := 0 }, { name := "maxSecs", type := .long, accessFlags := 18, slot := 7, constantValue := 0 }, { name := "microRatio", type := .long, accessFlags := 18, slot := 8, constantValue := 0 }, { name := "milliRatio", type := .int, accessFlags := 18, slot := 9, constantValue := 0 }, { name := "secRatio", type := .int, accessFlags := 18, slot := 10, constantValue := 0 }, { name := "$VALUES", type := (.array (.object "java/util/concurrent/TimeUnit")), accessFlags := 4122, slot := 14, constantValue := 0 }]
  methods := #[k11m0]
  instanceTypes := #[(.object "java/lang/String"), .int, .int, .long, .long, .long, .long, .long, .long, .int, .int]
  staticTypes := #[(.object "java/util/concurrent/TimeUnit"), (.object "java/util/concurrent/TimeUnit"), (.object "java/util/concurrent/TimeUnit"), (.object "java/util/concurrent/TimeUnit"), (.object "java/util/concurrent/TimeUnit"), (.object "java/util/concurrent/TimeUnit"), (.object "java/util/concurrent/TimeUnit"), .long, .long, .long, .long, .long, .long, .long, (.array (.object "java/util/concurrent/TimeUnit"))]
  resolved := Array.replicate 283 none
  statics := some 1 }

def pool12 : Array CpInfo := pool [(2, .class_ 4), (1, u "java/lang/CharSequence"), (42, .class_ 48), (0, u "java/lang/CharSequence$1CodePointIterator"), (10, .class_ 60), (0, u "java/lang/CharSequence$1CharIterator"), (5, .class_ 67), (0, u "java/lang/Object")] 63

/-- java/lang/CharSequence -/
def k12 : Class := { plain "java/lang/CharSequence" (some 0) with
  accessFlags := 1537
  interfaces := #[]
  cf := some (fileOf pool12 2 #[.nestMembers #[47, 59]] #[] 1537 66 #[] #[])
  fields := #[]
  methods := #[]
  instanceTypes := #[]
  staticTypes := #[]
  resolved := Array.replicate 131 none
  statics := none }

def pool13 : Array CpInfo := pool [(1, .class_ 2), (0, u "java/lang/constant/ConstantDesc"), (0, .class_ 4), (0, u "java/lang/Object")] 32

/-- java/lang/constant/ConstantDesc -/
def k13 : Class := { plain "java/lang/constant/ConstantDesc" (some 0) with
  accessFlags := 1537
  interfaces := #[]
  cf := some (fileOf pool13 1 #[] #[] 1537 3 #[] #[])
  fields := #[]
  methods := #[]
  instanceTypes := #[]
  staticTypes := #[]
  resolved := Array.replicate 37 none
  statics := none }

def pool14 : Array CpInfo := pool [(2, .class_ 4), (1, u "java/lang/Object"), (0, u "<init>"), (0, u "()V"), (3, .class_ 12), (1, u "java/lang/String"), (0, u "value"), (0, u "[B"), (2, u "coder"), (0, u "B"), (2, u "hash"), (0, u "I"), (2, u "hashIsZero"), (0, u "Z"), (13, u "COMPACT_STRINGS"), (534, .class_ 576), (0, u "java/lang/CharSequence"), (22, u "CASE_INSENSITIVE_ORDER"), (0, u "Ljava/util/Comparator;"), (500, u "serialPersistentFields"), (0, u "[Ljava/io/ObjectStreamField;"), (0, .class_ 1104), (0, u "java/lang/String$CaseInsensitiveComparator"), (1, .class_ 1107), (0, u "java/io/Serializable"), (0, .class_ 1109), (0, u "java/lang/Comparable"), (0, .class_ 1111), (0, u "java/lang/constant/Constable"), (0, .class_ 1113), (0, u "java/lang/constant/ConstantDesc"), (2, u "serialVersionUID"), (0, u "J"), (3, u "REPL"), (0, u "C"), (2, u "LATIN1"), (1, u "UTF16")] 323

def k14m0 : Method := { name := "<init>", desc := "()V", sig := { parameters := [], returnType := none }, accessFlags := 1, code := none }
/-- java/lang/String -/
def k14 : Class := { plain "java/lang/String" (some 0) with
  accessFlags := 49
  interfaces := #[9, 8, 12, 7, 13]
  cf := some (fileOf pool14 10 #[.nestMembers #[1103]] #[{ accessFlags := 1, nameIndex := 5, descriptorIndex := 6, attributes := #[] }] 49 2 #[1106, 1108, 575, 1110, 1112] #[{ accessFlags := 18, nameIndex := 13, descriptorIndex := 14, attributes := #[] }, { accessFlags := 18, nameIndex := 17, descriptorIndex := 18, attributes := #[] }, { accessFlags := 2, nameIndex := 21, descriptorIndex := 22, attributes := #[] }, { accessFlags := 2, nameIndex := 25, descriptorIndex := 26, attributes := #[] }, { accessFlags := 26, nameIndex := 1116, descriptorIndex := 1117, attributes := #[] }, { accessFlags := 24, nameIndex := 40, descriptorIndex := 26, attributes := #[] }, { accessFlags := 26, nameIndex := 1101, descriptorIndex := 1102, attributes := #[] }, { accessFlags := 26, nameIndex := 1121, descriptorIndex := 1122, attributes := #[] }, { accessFlags := 25, nameIndex := 599, descriptorIndex := 600, attributes := #[] }, { accessFlags := 24, nameIndex := 1125, descriptorIndex := 18, attributes := #[] }, { accessFlags := 24, nameIndex := 1127, descriptorIndex := 18, attributes := #[] }])
  fields := #[{ name := "value", type := (.array .byte), accessFlags := 18, slot := 0, constantValue := 0 }, { name := "coder", type := .byte, accessFlags := 18, slot := 1, constantValue := 0 }, { name := "hash", type := .int, accessFlags := 2, slot := 2, constantValue := 0 }, { name := "hashIsZero", type := .boolean, accessFlags := 2, slot := 3, constantValue := 0 }, { name := "serialVersionUID", type := .long, accessFlags := 26, slot := 0, constantValue := 0 }, { name := "COMPACT_STRINGS", type := .boolean, accessFlags := 24, slot := 1, constantValue := 0 }, { name := "serialPersistentFields", type := (.array (.object "java/io/ObjectStreamField")), accessFlags := 26, slot := 2, constantValue := 0 }, { name := "REPL", type := .char, accessFlags := 26, slot := 3, constantValue := 0 }, { name := "CASE_INSENSITIVE_ORDER", type := (.object "java/util/Comparator"), accessFlags := 25, slot := 4, constantValue := 0 }, { name := "LATIN1", type := .byte, accessFlags := 24, slot := 5, constantValue := 0 }, { name := "UTF16", type := .byte, accessFlags := 24, slot := 6, constantValue := 0 }]
  methods := #[k14m0]
  instanceTypes := #[(.array .byte), .byte, .int, .boolean]
  staticTypes := #[.long, .boolean, (.array (.object "java/io/ObjectStreamField")), .char, (.object "java/util/Comparator"), .byte, .byte]
  resolved := Array.replicate 1451 none
  statics := none }

def pool15 : Array CpInfo := pool [(1, u "java/lang/Cloneable"), (0, .class_ 1), (0, u "java/lang/Object"), (0, .class_ 3)] 3

/-- java/lang/Cloneable -/
def k15 : Class := { plain "java/lang/Cloneable" (some 0) with
  accessFlags := 1537
  interfaces := #[]
  cf := some (fileOf pool15 2 #[] #[] 1537 4 #[] #[])
  fields := #[]
  methods := #[]
  instanceTypes := #[]
  staticTypes := #[]
  resolved := Array.replicate 8 none
  statics := none }

/-- the primitive byte -/
def k16 : Class := { plain "byte" none with kind := .primitive 'B', accessFlags := 0x411 }
/-- [B -/
def k17 : Class := { plain "[B" (some 0) with kind := .array 16 .byte, interfaces := #[15, 9], accessFlags := 1041 }

/-- the primitive int -/
def k18 : Class := { plain "int" none with kind := .primitive 'I', accessFlags := 0x411 }
/-- [I -/
def k19 : Class := { plain "[I" (some 0) with kind := .array 18 .int, interfaces := #[15, 9], accessFlags := 1041 }

/-- the primitive long -/
def k20 : Class := { plain "long" none with kind := .primitive 'J', accessFlags := 0x411 }
/-- [J -/
def k21 : Class := { plain "[J" (some 0) with kind := .array 20 .long, interfaces := #[15, 9], accessFlags := 1041 }

def heap : Heap := #[{ cls := 6, slots := #[.long 0, .long 2000000], vm := .statics 6 },
  { cls := 11, slots := #[.null, .null, .ref 3, .null, .null, .null, .null, .long 0, .long 0, .long 0, .long 0, .long 0, .long 0, .long 0, .null], vm := .statics 11 },
  { cls := 14, slots := #[.null, .int 0, .int 0, .int 0], vm := .none },
  { cls := 11, slots := #[.ref 2, .int 2, .int 0, .long 1000000, .long 9223372036854, .long 9223372036854775, .long 9223372036854775807, .long 9223372036854775, .long 1000, .int 1, .int 1000], vm := .none }]
def classes : Array Class := #[k0, k1, k2, k3, k4, k5, k6, k7, k8, k9, k10, k11, k12, k13, k14, k15, k16, k17, k18, k19, k20, k21]
def interned : List (Array UInt16 × Addr) := []
def slotsUsed : Nat := 32
def theMethod : MethodId := ⟨1, 2⟩
def args0 : Array Value := #[.long 1, .long 2, .long 3, .long 4, .int 2]
def aboutOver (below : List Frame) : State where
  vm := { classes := classes, interned := interned.toArray }
  heap := heap
  slotsUsed := slotsUsed
  threads := #[{ frames := .invoking theMethod args0 :: below }]
def below0 : List Frame := [.native { method := ⟨0, 0⟩, args := #[] }]
def about1 : State := aboutOver below0
def p0 : Program := .bare "" "" ""
def e0 : Env := launch0.env 0 0 0
theorem w_frames : about1.frames = Frame.invoking theMethod args0 :: below0 := rfl
set_option maxRecDepth 65536 in
theorem w_args : argsFit about1.vm theMethod args0 = true := by decide +kernel
set_option maxRecDepth 65536 in
theorem w_heap : heapFits about1 = true := by decide +kernel
set_option maxRecDepth 65536 in
theorem w_runnable : about1.curStatus? = some .runnable := by decide +kernel
set_option maxRecDepth 65536 in
theorem w_alone : about1.alone = true := by decide +kernel
set_option maxRecDepth 65536 in
theorem w_named : about1.methodNamed? x = some theMethod := by decide +kernel
set_option maxRecDepth 65536 in
theorem w_hears : about1.hears theMethod below0 = true := by decide +kernel
set_option maxRecDepth 65536 in
theorem w_ripe : about1.ripe theMethod args0 below0 = true := by decide +kernel
theorem w_running : about1.status = .running := rfl
set_option maxRecDepth 65536 in
theorem w_room : about1.hasRoom e0.platform room_1 = true :=
  launch0.hasRoom_least _ room_1 (by decide +kernel) (by decide +kernel) (by decide +kernel) (by decide +kernel) (by decide +kernel) (by decide +kernel)
theorem allAtoms_all (ts : List Jvm.Cond) (a : Array Jvm.Value) (st : Jvm.State) : (allAtoms ts).before a st = ts.all (fun c => c.before a st) := by
  induction ts with
  | nil => rfl
  | cons c t ih =>
    show (Jvm.Cond.and c (allAtoms t)).before a st = _
    rw [Jvm.Cond.before_and, ih, List.all_cons]
def words1 : List Jvm.Cond := Jvm.Cond.code x code maxLocals ret :: tables_1
/-- a 'code' word, met by the world's own term for the bytes: nothing is compared byte by byte -/
theorem code_word {y : MethodName} {bytes : ByteArray} {mx : Nat} {rt : Option FieldType} {a : Array Value} {s : State} {m : MethodId} {meth : Method} {c : Code} (h1 : s.methodNamed? y = some m) (h2 : s.vm.method? m = some meth) (h3 : meth.code = some c) (h4 : c.code = bytes)
    (h5 : (c.maxLocals == mx && c.exceptionTable.isEmpty && decide (c.maxStack ≤ mostOperands) && decide (meth.sig.returnType = rt) && !meth.locks && decide (parseMethodDescriptor y.desc = some meth.sig)) = true) : (Jvm.Cond.code y bytes mx rt).before a s = true := by
  simp only [Bool.and_eq_true, beq_iff_eq, Bool.not_eq_true', decide_eq_true_eq] at h5
  obtain ⟨⟨⟨⟨⟨g1, g2⟩, g3⟩, g4⟩, g5⟩, g6⟩ := h5
  simp [Cond.before, Cond.holds, Cond.value, h1, h2, h3, h4, g1, g2, g3, g4, g5, g6]
def isCode : Jvm.Cond → Bool
  | .code _ _ _ _ => true
  | _ => false
theorem all_split {L : List Jvm.Cond} {P : Jvm.Cond → Bool} (h1 : L.all (fun c => isCode c || P c) = true) (h2 : ∀ c ∈ L.filter isCode, P c = true) : L.all P = true := by
  refine List.all_eq_true.mpr fun c hc => ?_
  have h := List.all_eq_true.mp h1 c hc
  rcases Bool.eq_false_or_eq_true (isCode c) with hi | hi
  · exact h2 c (List.mem_filter.mpr ⟨hc, hi⟩)
  · simpa [hi] using h
set_option maxRecDepth 65536 in
theorem w_c0 : (Jvm.Cond.code x code maxLocals ret).before args0 about1 = true := code_word (m := ⟨1, 2⟩) (meth := k1m2) (c := k1c2) (by decide +kernel) rfl rfl rfl (by decide +kernel)
set_option maxRecDepth 65536 in
theorem w_c1 : (Jvm.Cond.code ({ cls := "com/example/portunus/portunus/MultiServerLockValidityNanosPinLaw", name := "nanos", desc := "(J)J" } : Jvm.MethodName) method_2_code (2 : Nat) (Option.some Jvm.ClassFile.FieldType.long)).before args0 about1 = true := code_word (m := ⟨1, 1⟩) (meth := k1m1) (c := k1c1) (by decide +kernel) rfl rfl rfl (by decide +kernel)
set_option maxRecDepth 65536 in
theorem w_c2 : (Jvm.Cond.code ({ cls := "java/lang/Math", name := "min", desc := "(JJ)J" } : Jvm.MethodName) jdk_29_method_70_code (4 : Nat) (Option.some Jvm.ClassFile.FieldType.long)).before args0 about1 = true := code_word (m := ⟨2, 1⟩) (meth := k2m1) (c := k2c1) (by decide +kernel) rfl rfl rfl (by decide +kernel)
set_option maxRecDepth 65536 in
theorem w_c3 : (Jvm.Cond.code ({ cls := "com/example/portunus/portunus/MultiServerLock", name := "validityNanos", desc := "([JJ)J" } : Jvm.MethodName) prog_15_method_10_code (10 : Nat) (Option.some Jvm.ClassFile.FieldType.long)).before args0 about1 = true := code_word (m := ⟨6, 0⟩) (meth := k6m0) (c := k6c0) (by decide +kernel) rfl rfl rfl (by decide +kernel)
set_option maxRecDepth 65536 in
theorem w_c4 : (Jvm.Cond.code ({ cls := "java/util/concurrent/TimeUnit", name := "toNanos", desc := "(J)J" } : Jvm.MethodName) jdk_2799_method_7_code (7 : Nat) (Option.some Jvm.ClassFile.FieldType.long)).before args0 about1 = true := code_word (m := ⟨11, 0⟩) (meth := k11m0) (c := k11c0) (by decide +kernel) rfl rfl rfl (by decide +kernel)
def codes1 : List Jvm.Cond := [Jvm.Cond.code x code maxLocals ret, Jvm.Cond.code ({ cls := "com/example/portunus/portunus/MultiServerLockValidityNanosPinLaw", name := "nanos", desc := "(J)J" } : Jvm.MethodName) method_2_code (2 : Nat) (Option.some Jvm.ClassFile.FieldType.long), Jvm.Cond.code ({ cls := "java/lang/Math", name := "min", desc := "(JJ)J" } : Jvm.MethodName) jdk_29_method_70_code (4 : Nat) (Option.some Jvm.ClassFile.FieldType.long), Jvm.Cond.code ({ cls := "com/example/portunus/portunus/MultiServerLock", name := "validityNanos", desc := "([JJ)J" } : Jvm.MethodName) prog_15_method_10_code (10 : Nat) (Option.some Jvm.ClassFile.FieldType.long), Jvm.Cond.code ({ cls := "java/util/concurrent/TimeUnit", name := "toNanos", desc := "(J)J" } : Jvm.MethodName) jdk_2799_method_7_code (7 : Nat) (Option.some Jvm.ClassFile.FieldType.long)]
set_option maxRecDepth 65536 in
theorem codes_eq : words1.filter isCode = codes1 := rfl
theorem w_codes : ∀ c ∈ words1.filter isCode, c.before args0 about1 = true := by
  rw [codes_eq]
  intro c hc
  simp only [codes1, List.mem_cons, List.not_mem_nil, or_false] at hc
  rcases hc with rfl | rfl | rfl | rfl | rfl
  · exact w_c0
  · exact w_c1
  · exact w_c2
  · exact w_c3
  · exact w_c4
set_option maxRecDepth 65536 in
theorem w_t1 : (words1.take 24).all (fun c => isCode c || c.before args0 about1) = true := by decide +kernel
set_option maxRecDepth 65536 in
theorem w_t2 : (words1.drop 24).all (fun c => isCode c || c.before args0 about1) = true := by decide +kernel
theorem w_tables : (allAtoms (Jvm.Cond.code x code maxLocals ret :: tables_1)).before args0 about1 = true := by
  rw [allAtoms_all]
  show words1.all (fun c => c.before args0 about1) = true
  refine all_split ?_ w_codes
  rw [← List.take_append_drop 24 words1, List.all_append, w_t1, w_t2]
  rfl
set_option maxRecDepth 65536 in
theorem w_rest : rest_1_c.before args0 about1 = true := by decide +kernel
set_option maxRecDepth 65536 in
theorem w_case : (Jvm.Cond.and given_1 narrow_1).before args0 about1 = true := by decide +kernel
theorem w_applies : (headSpec (Jvm.Cond.code x code maxLocals ret :: tables_1) room_1).applies x e0.platform about1 = true :=
  (Spec.applies_iff w_frames).mpr ⟨w_running, w_runnable, w_alone, w_named, w_hears, w_ripe, w_room, w_tables⟩
theorem atStart : AtStart classFile x code maxLocals ret World_1 tables_1 room_1 Calls_1 rest_1 Pre_1 launch0 p0 e0 about1 theMethod args0 below0 :=
  ⟨lists_1, trivial, launch0.admits_env _ _ _, launch0.least_env, fairChoices_fair.cas, fairChoices_fair.clock, w_frames, w_args, w_heap, w_applies, trivial, w_rest, w_case⟩
end start1
theorem witness_1 : WitnessClaimed_1 := ⟨start1.p0, start1.e0, start1.about1, start1.theMethod, start1.args0, start1.below0, start1.atStart⟩
end Jvm.Pilot.@@N@@
