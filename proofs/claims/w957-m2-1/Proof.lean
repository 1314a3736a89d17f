import JvmDerived
import JvmDerived.Pilot.@@N@@Statement
import JvmDerived.Pilot.@@N@@Code
set_option linter.unusedVariables false
set_option linter.unusedSimpArgs false
namespace Jvm.RoadKit
open Sem ClassFile Op Lib Jvm.Stand Jvm.Free Jvm.LawKit
section New
variable {p : Program} {l : Launch} {e : Env} {R : Room} {s : State} {m : MethodId} {args : Array Value} {below : List Frame} {meth : Method} {c : Code} {T : State} {locs : List Loc} {cells slots : Nat}
theorem retI (X : Stand p l e R s m args below meth c T locs cells slots) (hx : p.tables.exec = Jvm.exec) {pc : Nat} {Ls : Array Slot} {z : Int32} {rest : List Value} (hret : meth.sig.returnType = some .int) (hd : decode c.code pc = .ok (.ireturn, 1)) {fs : List Frame}
    (hl : ∀ (f : JFrame) (acts : List Action), f.method = m → f.locked = none → f.entered = [] → (doReturn e (T.setTop f) acts (some (.int z))).1 = T.setFrames fs) : Steps p.tables e below (T.setTop (mkF m pc Ls (.int z :: rest))) (T.setFrames fs) := by
  have hm' : T.vm.method? m = some meth := X.method'
  have hn : narrow .int (.int z) = .int z := rfl
  show Steps p.tables e below (T.setTop { method := m, pc := pc, locals := Ls, stack := _ :: rest, locked := none }) _
  jvm_step X.here [X.here.top, hx, hd, hm', hret, hn]
  first | (intro acts; rw [hl _ acts rfl rfl rfl]) | rw [hl _ _ rfl rfl rfl]
  exact Steps.refl _
end New
end Jvm.RoadKit
namespace Jvm.Pilot.@@N@@
open Jvm Jvm.ClassFile Sem Op Lib Jvm.Free Jvm.Stand Jvm.LawKit Jvm.RoadKit Bundle Jvm.Pilot.@@N@@.Jvm.D
/-- what a body leaves that writes nothing: its value, no place of the start's, the heap as it was -/
def QP (r : Value) (h0 : Heap) (n0 : Nat) (v : Option Value) (h : Heap) (L : List Loc) : Prop := v = some r ∧ Fr n0 L ∧ h = h0
/-- the same without the heap -/
def QL (r : Value) (n0 : Nat) (v : Option Value) (h : Heap) (L : List Loc) : Prop := v = some r ∧ Fr n0 L ∧ True
theorem own_ext_refl (h : Heap) : Ext h h := ⟨Nat.le_refl _, fun _ _ q => q⟩
theorem own_ext_trans {h h' h'' : Heap} (E : Ext h h') (E' : Ext h' h'') : Ext h h'' := ⟨Nat.le_trans E.1 E'.1, fun a c q => E'.2 a c (E.2 a c q)⟩
theorem own_extK {h h' h'' : Heap} {b : Addr} (E : Ext h h') (g : b = h.size) (K : Keep h' h'' [b]) : Ext h h'' := ⟨Nat.le_trans E.1 K.1, fun x c q => K.2.1 x c (E.2 x c q) fun z => by
  have e := List.mem_singleton.mp z
  have lt := (Array.getElem?_eq_some_iff.mp q).1
  rw [e, g] at lt
  exact Nat.lt_irrefl _ lt⟩
theorem own_extW {h h' h'' : Heap} {b : Addr} {sl : Nat} {v : Value} (E : Ext h h') (g : b = h.size) (W : Wr h' h'' b sl v) : Ext h h'' := own_extK E g (Keep.of_wr W)
theorem own_fldI {s : State} {args : Array Value} {t : Term} {a : Addr} {C n d : String} {k : Int32} (ev : t.eval args s none [] s = some (.ref a)) (h : (Jvm.Cond.eq (.field t C n d) (.int k)).value args s none s [] = some true) : Fld s s.heap a C n d (.int k) :=
  Fld.start ((fld_at ev).symm.trans (eqv_i (y := k) rfl h))
theorem own_fldJ {s : State} {args : Array Value} {t : Term} {a : Addr} {C n d : String} {k : Int64} (ev : t.eval args s none [] s = some (.ref a)) (h : (Jvm.Cond.eq (.field t C n d) (.long k)).value args s none s [] = some true) : Fld s s.heap a C n d (.long k) :=
  Fld.start ((fld_at ev).symm.trans (eqv_l (y := k) rfl h))
theorem own_ne {Z : State} {h : Heap} {a b : Addr} {C n d : String} {v w : Value} (F : Fld Z h a C n d v) (G : Fld Z h b C n d w) (q : v ≠ w) : a ≠ b := fun e => by
  subst e
  obtain ⟨c1, cf1, k1, i1, f1, h1, h2, -, -, -, -, h7⟩ := F
  obtain ⟨c2, cf2, k2, i2, f2, g1, g2, -, -, -, -, g7⟩ := G
  cases h1.symm.trans g1
  cases h2.symm.trans g2
  exact q (Option.some.inj (h7.symm.trans g7))
theorem own_rem (x : Int32) : (x &&& (2147483647 : Int32)) % (7 : Int32) = (0 : Int32) ∨ (x &&& (2147483647 : Int32)) % (7 : Int32) = (1 : Int32) ∨ (x &&& (2147483647 : Int32)) % (7 : Int32) = (2 : Int32) ∨ (x &&& (2147483647 : Int32)) % (7 : Int32) = (3 : Int32) ∨ (x &&& (2147483647 : Int32)) % (7 : Int32) = (4 : Int32) ∨ (x &&& (2147483647 : Int32)) % (7 : Int32) = (5 : Int32) ∨ (x &&& (2147483647 : Int32)) % (7 : Int32) = (6 : Int32) := by
  have h1 := (c_and x (2147483647 : Int32) (by decide)).1
  obtain ⟨h2, h3, -⟩ := (c_iremV (x &&& (2147483647 : Int32)) (7 : Int32)).1 h1 (by decide)
  have h5 : (7 : Int32).toInt = 7 := by decide
  rw [h5] at h3
  generalize (x &&& (2147483647 : Int32)) % (7 : Int32) = k at *
  have hk : k.toInt = 0 ∨ k.toInt = 1 ∨ k.toInt = 2 ∨ k.toInt = 3 ∨ k.toInt = 4 ∨ k.toInt = 5 ∨ k.toInt = 6 := by omega
  rcases hk with h | h | h | h | h | h | h
  · exact Or.inl (Int32.toInt_inj.mp (h.trans (by decide : (0 : Int) = (0 : Int32).toInt)))
  · exact Or.inr (Or.inl (Int32.toInt_inj.mp (h.trans (by decide : (1 : Int) = (1 : Int32).toInt))))
  · exact Or.inr (Or.inr (Or.inl (Int32.toInt_inj.mp (h.trans (by decide : (2 : Int) = (2 : Int32).toInt)))))
  · exact Or.inr (Or.inr (Or.inr (Or.inl (Int32.toInt_inj.mp (h.trans (by decide : (3 : Int) = (3 : Int32).toInt))))))
  · exact Or.inr (Or.inr (Or.inr (Or.inr (Or.inl (Int32.toInt_inj.mp (h.trans (by decide : (4 : Int) = (4 : Int32).toInt)))))))
  · exact Or.inr (Or.inr (Or.inr (Or.inr (Or.inr (Or.inl (Int32.toInt_inj.mp (h.trans (by decide : (5 : Int) = (5 : Int32).toInt))))))))
  · exact Or.inr (Or.inr (Or.inr (Or.inr (Or.inr (Or.inr ((Int32.toInt_inj.mp (h.trans (by decide : (6 : Int) = (6 : Int32).toInt)))))))))
theorem d2_0 : decode prog_55_method_4_code 0 = .ok (.iload_n 1, 1) := by decide +kernel
theorem d2_1 : decode prog_55_method_4_code 1 = .ok (.aload_n 0, 1) := by decide +kernel
theorem d2_2 : decode prog_55_method_4_code 2 = .ok (.getfield 44, 3) := by decide +kernel
theorem d2_5 : decode prog_55_method_4_code 5 = .ok (.if_icmp .lt 15, 3) := by decide +kernel
theorem d2_20 : decode prog_55_method_4_code 20 = .ok (.iconst 0, 1) := by decide +kernel
theorem d2_21 : decode prog_55_method_4_code 21 = .ok (.ireturn, 1) := by decide +kernel
theorem d2_8 : decode prog_55_method_4_code 8 = .ok (.iload_n 1, 1) := by decide +kernel
theorem d2_9 : decode prog_55_method_4_code 9 = .ok (.aload_n 0, 1) := by decide +kernel
theorem d2_10 : decode prog_55_method_4_code 10 = .ok (.getfield 48, 3) := by decide +kernel
theorem d2_13 : decode prog_55_method_4_code 13 = .ok (.if_icmp .gt 7, 3) := by decide +kernel
theorem d2_16 : decode prog_55_method_4_code 16 = .ok (.iconst 1, 1) := by decide +kernel
theorem d2_17 : decode prog_55_method_4_code 17 = .ok (.goto 4, 3) := by decide +kernel
theorem pnm_0 : plainName "com/example/steward/steward/ejbql/Operand$Function" = true := by first | (simp [plainName, overriddenIn]; done) | decide +kernel
theorem ef_rm2 (m : MethodId) (ak : Addr) (pn : Int32) : entryFrame m #[(.ref ak), (.int pn)] 2 = mkF m 0 #[.val (.ref ak), .val (.int pn)] [] := by first | (simp [entryFrame, mkF, argsToLocals, Value.category]; done) | rfl
set_option maxRecDepth 65536 in
set_option maxHeartbeats 40000000 in
theorem rm2_t (l : Launch) (Z : State) (a0 : Array Value) (hw : ∀ d ∈ tables_1, d.before a0 Z = true) (ws : List Jvm.Cond) (ak : Addr) (pn : Int32) (mn : Int32) (mx : Int32) (h0 : Heap) (n0 : Nat) (Z0 : n0 ≤ h0.size) (F_min : Fld Z h0 ak "com/example/steward/steward/ejbql/Operand$Function" "minArguments" "I" (.int mn)) (F_max : Fld Z h0 ak "com/example/steward/steward/ejbql/Operand$Function" "maxArguments" "I" (.int mx)) (r : Int32) (hr0 : r = (0 : Int32)) (hc5 : pn < mn) :
    MetFree l (⟨"com/example/steward/steward/ejbql/Operand$Function", "takes", "(I)Z"⟩ : MethodName) (head1 (Jvm.Cond.code (⟨"com/example/steward/steward/ejbql/Operand$Function", "takes", "(I)Z"⟩ : MethodName) prog_55_method_4_code 2 (some .boolean) :: ws) ({ frames := 0, cells := 0, slots := 0, locals := 0 } : Room)) (fun a U => a = #[(.ref ak), (.int pn)] ∧ Z.Warmed39 U.vm ∧ U.heap = h0) (fun _ _ _ _ _ => True) (fun _ U o U' => ∃ v L, o = .returned v ∧ QP (.int r) h0 n0 v U'.heap L ∧ FrameEnd U o U' L ({ frames := 0, cells := 0, slots := 0, locals := 0 } : Room).cells ({ frames := 0, cells := 0, slots := 0, locals := 0 } : Room).slots) := by
  subst hr0
  refine MetFree.of_bodySF (plainFor_of_name pnm_0) hisR ?_
  intro p e s m args below meth c s₁ Bd hml0 hP hK
  obtain ⟨rfl, hZ, hh⟩ := hP
  have hx := Bd.exec
  have hby := Bd.bytes
  have hml : c.maxLocals = 2 := hml0
  have hown : s.vm.findClass "com/example/steward/steward/ejbql/Operand$Function" = some m.cls := findClass_of_methodNamed Bd.named
  have hnm := (name_of_methodNamed Bd.named Bd.method).1
  have X0 : Stand p l e ({ frames := 0, cells := 0, slots := 0, locals := 0 } : Room) s m #[(.ref ak), (.int pn)] below meth c s₁ [] 0 0 := Stand.of_body Bd
  have e0 : s₁.heap = h0 := by rw [← hh, Bd.state]; rfl
  have N0 := Fr.nil n0
  have pre0 : ∀ t, Steps p.tables e below (s₁.setTop (mkF m 0 #[.val (.ref ak), .val (.int pn)] [])) t → Steps p.tables e below (s₁.setTop (entryFrame m #[(.ref ak), (.int pn)] 2)) t := fun t k => castTop (ef_rm2 m ak pn) k
  obtain ⟨T1, X1, e1, st1⟩ := getF X0 hx hZ hown (host := "") (Or.inl (hw _ (List.mem_of_getElem? (i := 13) rfl))) Via.refl e0 F_min (g := (mkF m 2 #[.val (.ref ak), .val (.int pn)] [(.ref ak), (.int pn)])) rfl rfl (hb hby d2_2)
  obtain ⟨fs, hr, hrun, hended, hW, hsame⟩ := X1.leave (v := some (.int (0 : Int32))) (fun h => by rw [Bd.returns] at h; cases h)
  refine ⟨_, _, pre0 _ ?_, hrun, hended, _, _, rfl, ?_, ⟨_, rfl⟩, hW, hsame.mono (by decide) (by decide)⟩
  · show Steps p.tables e below (s₁.setTop (mkF m 0 #[.val (.ref ak), .val (.int pn)] [])) _
    refine XS.iloadN X0.here hx rfl (hb hby d2_0) rfl ?_
    show Steps p.tables e below (s₁.setTop (mkF m 1 #[.val (.ref ak), .val (.int pn)] [(.int pn)])) _
    refine XS.aloadN X0.here hx rfl (hb hby d2_1) rfl rfl ?_
    show Steps p.tables e below (s₁.setTop (mkF m 2 #[.val (.ref ak), .val (.int pn)] [(.ref ak), (.int pn)])) _
    refine st1 _ ?_
    show Steps p.tables e below (T1.setTop (mkF m 5 #[.val (.ref ak), .val (.int pn)] [(.int mn), (.int pn)])) _
    refine XS.icmpYes X1.here hx rfl (pc0 := 5) (pc' := 20) rfl (hb hby d2_5) rfl (tlt hc5).1 (by decide) (by decide) ?_
    show Steps p.tables e below (T1.setTop (mkF m 20 #[.val (.ref ak), .val (.int pn)] [])) _
    refine XS.iconst X1.here hx rfl (hb hby d2_20) ?_
    show Steps p.tables e below (T1.setTop (mkF m 21 #[.val (.ref ak), .val (.int pn)] [(.int (0 : Int32))])) _
    exact retN X1 hx (t := .boolean) Bd.returns (by simp) (hb hby d2_21) hr
  · show QP (.int (0 : Int32)) h0 n0 _ T1.heap _
    rw [e1]
    exact ⟨rfl, N0, rfl⟩
set_option maxRecDepth 65536 in
set_option maxHeartbeats 40000000 in
theorem rm2_ft (l : Launch) (Z : State) (a0 : Array Value) (hw : ∀ d ∈ tables_1, d.before a0 Z = true) (ws : List Jvm.Cond) (ak : Addr) (pn : Int32) (mn : Int32) (mx : Int32) (h0 : Heap) (n0 : Nat) (Z0 : n0 ≤ h0.size) (F_min : Fld Z h0 ak "com/example/steward/steward/ejbql/Operand$Function" "minArguments" "I" (.int mn)) (F_max : Fld Z h0 ak "com/example/steward/steward/ejbql/Operand$Function" "maxArguments" "I" (.int mx)) (r : Int32) (hr0 : r = (0 : Int32)) (hc5 : ¬ (pn < mn)) (hc13 : mx < pn) :
    MetFree l (⟨"com/example/steward/steward/ejbql/Operand$Function", "takes", "(I)Z"⟩ : MethodName) (head1 (Jvm.Cond.code (⟨"com/example/steward/steward/ejbql/Operand$Function", "takes", "(I)Z"⟩ : MethodName) prog_55_method_4_code 2 (some .boolean) :: ws) ({ frames := 0, cells := 0, slots := 0, locals := 0 } : Room)) (fun a U => a = #[(.ref ak), (.int pn)] ∧ Z.Warmed39 U.vm ∧ U.heap = h0) (fun _ _ _ _ _ => True) (fun _ U o U' => ∃ v L, o = .returned v ∧ QP (.int r) h0 n0 v U'.heap L ∧ FrameEnd U o U' L ({ frames := 0, cells := 0, slots := 0, locals := 0 } : Room).cells ({ frames := 0, cells := 0, slots := 0, locals := 0 } : Room).slots) := by
  subst hr0
  refine MetFree.of_bodySF (plainFor_of_name pnm_0) hisR ?_
  intro p e s m args below meth c s₁ Bd hml0 hP hK
  obtain ⟨rfl, hZ, hh⟩ := hP
  have hx := Bd.exec
  have hby := Bd.bytes
  have hml : c.maxLocals = 2 := hml0
  have hown : s.vm.findClass "com/example/steward/steward/ejbql/Operand$Function" = some m.cls := findClass_of_methodNamed Bd.named
  have hnm := (name_of_methodNamed Bd.named Bd.method).1
  have X0 : Stand p l e ({ frames := 0, cells := 0, slots := 0, locals := 0 } : Room) s m #[(.ref ak), (.int pn)] below meth c s₁ [] 0 0 := Stand.of_body Bd
  have e0 : s₁.heap = h0 := by rw [← hh, Bd.state]; rfl
  have N0 := Fr.nil n0
  have pre0 : ∀ t, Steps p.tables e below (s₁.setTop (mkF m 0 #[.val (.ref ak), .val (.int pn)] [])) t → Steps p.tables e below (s₁.setTop (entryFrame m #[(.ref ak), (.int pn)] 2)) t := fun t k => castTop (ef_rm2 m ak pn) k
  obtain ⟨T1, X1, e1, st1⟩ := getF X0 hx hZ hown (host := "") (Or.inl (hw _ (List.mem_of_getElem? (i := 13) rfl))) Via.refl e0 F_min (g := (mkF m 2 #[.val (.ref ak), .val (.int pn)] [(.ref ak), (.int pn)])) rfl rfl (hb hby d2_2)
  obtain ⟨T2, X2, e2, st2⟩ := getF X1 hx hZ hown (host := "") (Or.inl (hw _ (List.mem_of_getElem? (i := 15) rfl))) Via.refl e1 F_max (g := (mkF m 10 #[.val (.ref ak), .val (.int pn)] [(.ref ak), (.int pn)])) rfl rfl (hb hby d2_10)
  obtain ⟨fs, hr, hrun, hended, hW, hsame⟩ := X2.leave (v := some (.int (0 : Int32))) (fun h => by rw [Bd.returns] at h; cases h)
  refine ⟨_, _, pre0 _ ?_, hrun, hended, _, _, rfl, ?_, ⟨_, rfl⟩, hW, hsame.mono (by decide) (by decide)⟩
  · show Steps p.tables e below (s₁.setTop (mkF m 0 #[.val (.ref ak), .val (.int pn)] [])) _
    refine XS.iloadN X0.here hx rfl (hb hby d2_0) rfl ?_
    show Steps p.tables e below (s₁.setTop (mkF m 1 #[.val (.ref ak), .val (.int pn)] [(.int pn)])) _
    refine XS.aloadN X0.here hx rfl (hb hby d2_1) rfl rfl ?_
    show Steps p.tables e below (s₁.setTop (mkF m 2 #[.val (.ref ak), .val (.int pn)] [(.ref ak), (.int pn)])) _
    refine st1 _ ?_
    show Steps p.tables e below (T1.setTop (mkF m 5 #[.val (.ref ak), .val (.int pn)] [(.int mn), (.int pn)])) _
    refine XS.icmpNo X1.here hx rfl (hb hby d2_5) rfl (flt hc5).1 ?_
    show Steps p.tables e below (T1.setTop (mkF m 8 #[.val (.ref ak), .val (.int pn)] [])) _
    refine XS.iloadN X1.here hx rfl (hb hby d2_8) rfl ?_
    show Steps p.tables e below (T1.setTop (mkF m 9 #[.val (.ref ak), .val (.int pn)] [(.int pn)])) _
    refine XS.aloadN X1.here hx rfl (hb hby d2_9) rfl rfl ?_
    show Steps p.tables e below (T1.setTop (mkF m 10 #[.val (.ref ak), .val (.int pn)] [(.ref ak), (.int pn)])) _
    refine st2 _ ?_
    show Steps p.tables e below (T2.setTop (mkF m 13 #[.val (.ref ak), .val (.int pn)] [(.int mx), (.int pn)])) _
    refine XS.icmpYes X2.here hx rfl (pc0 := 13) (pc' := 20) rfl (hb hby d2_13) rfl (tlt hc13).2.2.1 (by decide) (by decide) ?_
    show Steps p.tables e below (T2.setTop (mkF m 20 #[.val (.ref ak), .val (.int pn)] [])) _
    refine XS.iconst X2.here hx rfl (hb hby d2_20) ?_
    show Steps p.tables e below (T2.setTop (mkF m 21 #[.val (.ref ak), .val (.int pn)] [(.int (0 : Int32))])) _
    exact retN X2 hx (t := .boolean) Bd.returns (by simp) (hb hby d2_21) hr
  · show QP (.int (0 : Int32)) h0 n0 _ T2.heap _
    rw [e2]
    exact ⟨rfl, N0, rfl⟩
set_option maxRecDepth 65536 in
set_option maxHeartbeats 40000000 in
theorem rm2_ff (l : Launch) (Z : State) (a0 : Array Value) (hw : ∀ d ∈ tables_1, d.before a0 Z = true) (ws : List Jvm.Cond) (ak : Addr) (pn : Int32) (mn : Int32) (mx : Int32) (h0 : Heap) (n0 : Nat) (Z0 : n0 ≤ h0.size) (F_min : Fld Z h0 ak "com/example/steward/steward/ejbql/Operand$Function" "minArguments" "I" (.int mn)) (F_max : Fld Z h0 ak "com/example/steward/steward/ejbql/Operand$Function" "maxArguments" "I" (.int mx)) (r : Int32) (hr0 : r = (1 : Int32)) (hc5 : ¬ (pn < mn)) (hc13 : ¬ (mx < pn)) :
    MetFree l (⟨"com/example/steward/steward/ejbql/Operand$Function", "takes", "(I)Z"⟩ : MethodName) (head1 (Jvm.Cond.code (⟨"com/example/steward/steward/ejbql/Operand$Function", "takes", "(I)Z"⟩ : MethodName) prog_55_method_4_code 2 (some .boolean) :: ws) ({ frames := 0, cells := 0, slots := 0, locals := 0 } : Room)) (fun a U => a = #[(.ref ak), (.int pn)] ∧ Z.Warmed39 U.vm ∧ U.heap = h0) (fun _ _ _ _ _ => True) (fun _ U o U' => ∃ v L, o = .returned v ∧ QP (.int r) h0 n0 v U'.heap L ∧ FrameEnd U o U' L ({ frames := 0, cells := 0, slots := 0, locals := 0 } : Room).cells ({ frames := 0, cells := 0, slots := 0, locals := 0 } : Room).slots) := by
  subst hr0
  refine MetFree.of_bodySF (plainFor_of_name pnm_0) hisR ?_
  intro p e s m args below meth c s₁ Bd hml0 hP hK
  obtain ⟨rfl, hZ, hh⟩ := hP
  have hx := Bd.exec
  have hby := Bd.bytes
  have hml : c.maxLocals = 2 := hml0
  have hown : s.vm.findClass "com/example/steward/steward/ejbql/Operand$Function" = some m.cls := findClass_of_methodNamed Bd.named
  have hnm := (name_of_methodNamed Bd.named Bd.method).1
  have X0 : Stand p l e ({ frames := 0, cells := 0, slots := 0, locals := 0 } : Room) s m #[(.ref ak), (.int pn)] below meth c s₁ [] 0 0 := Stand.of_body Bd
  have e0 : s₁.heap = h0 := by rw [← hh, Bd.state]; rfl
  have N0 := Fr.nil n0
  have pre0 : ∀ t, Steps p.tables e below (s₁.setTop (mkF m 0 #[.val (.ref ak), .val (.int pn)] [])) t → Steps p.tables e below (s₁.setTop (entryFrame m #[(.ref ak), (.int pn)] 2)) t := fun t k => castTop (ef_rm2 m ak pn) k
  obtain ⟨T1, X1, e1, st1⟩ := getF X0 hx hZ hown (host := "") (Or.inl (hw _ (List.mem_of_getElem? (i := 13) rfl))) Via.refl e0 F_min (g := (mkF m 2 #[.val (.ref ak), .val (.int pn)] [(.ref ak), (.int pn)])) rfl rfl (hb hby d2_2)
  obtain ⟨T2, X2, e2, st2⟩ := getF X1 hx hZ hown (host := "") (Or.inl (hw _ (List.mem_of_getElem? (i := 15) rfl))) Via.refl e1 F_max (g := (mkF m 10 #[.val (.ref ak), .val (.int pn)] [(.ref ak), (.int pn)])) rfl rfl (hb hby d2_10)
  obtain ⟨fs, hr, hrun, hended, hW, hsame⟩ := X2.leave (v := some (.int (1 : Int32))) (fun h => by rw [Bd.returns] at h; cases h)
  refine ⟨_, _, pre0 _ ?_, hrun, hended, _, _, rfl, ?_, ⟨_, rfl⟩, hW, hsame.mono (by decide) (by decide)⟩
  · show Steps p.tables e below (s₁.setTop (mkF m 0 #[.val (.ref ak), .val (.int pn)] [])) _
    refine XS.iloadN X0.here hx rfl (hb hby d2_0) rfl ?_
    show Steps p.tables e below (s₁.setTop (mkF m 1 #[.val (.ref ak), .val (.int pn)] [(.int pn)])) _
    refine XS.aloadN X0.here hx rfl (hb hby d2_1) rfl rfl ?_
    show Steps p.tables e below (s₁.setTop (mkF m 2 #[.val (.ref ak), .val (.int pn)] [(.ref ak), (.int pn)])) _
    refine st1 _ ?_
    show Steps p.tables e below (T1.setTop (mkF m 5 #[.val (.ref ak), .val (.int pn)] [(.int mn), (.int pn)])) _
    refine XS.icmpNo X1.here hx rfl (hb hby d2_5) rfl (flt hc5).1 ?_
    show Steps p.tables e below (T1.setTop (mkF m 8 #[.val (.ref ak), .val (.int pn)] [])) _
    refine XS.iloadN X1.here hx rfl (hb hby d2_8) rfl ?_
    show Steps p.tables e below (T1.setTop (mkF m 9 #[.val (.ref ak), .val (.int pn)] [(.int pn)])) _
    refine XS.aloadN X1.here hx rfl (hb hby d2_9) rfl rfl ?_
    show Steps p.tables e below (T1.setTop (mkF m 10 #[.val (.ref ak), .val (.int pn)] [(.ref ak), (.int pn)])) _
    refine st2 _ ?_
    show Steps p.tables e below (T2.setTop (mkF m 13 #[.val (.ref ak), .val (.int pn)] [(.int mx), (.int pn)])) _
    refine XS.icmpNo X2.here hx rfl (hb hby d2_13) rfl (flt hc13).2.2.1 ?_
    show Steps p.tables e below (T2.setTop (mkF m 16 #[.val (.ref ak), .val (.int pn)] [])) _
    refine XS.iconst X2.here hx rfl (hb hby d2_16) ?_
    show Steps p.tables e below (T2.setTop (mkF m 17 #[.val (.ref ak), .val (.int pn)] [(.int (1 : Int32))])) _
    refine XS.goto X2.here hx rfl (pc0 := 17) (pc' := 21) rfl (hb hby d2_17) (by decide) (by decide) ?_
    show Steps p.tables e below (T2.setTop (mkF m 21 #[.val (.ref ak), .val (.int pn)] [(.int (1 : Int32))])) _
    exact retN X2 hx (t := .boolean) Bd.returns (by simp) (hb hby d2_21) hr
  · show QP (.int (1 : Int32)) h0 n0 _ T2.heap _
    rw [e2]
    exact ⟨rfl, N0, rfl⟩
set_option maxRecDepth 65536 in
set_option maxHeartbeats 40000000 in
theorem rm2 (l : Launch) (Z : State) (a0 : Array Value) (hw : ∀ d ∈ tables_1, d.before a0 Z = true) (ws : List Jvm.Cond) (ak : Addr) (pn : Int32) (mn : Int32) (mx : Int32) (h0 : Heap) (n0 : Nat) (Z0 : n0 ≤ h0.size) (F_min : Fld Z h0 ak "com/example/steward/steward/ejbql/Operand$Function" "minArguments" "I" (.int mn)) (F_max : Fld Z h0 ak "com/example/steward/steward/ejbql/Operand$Function" "maxArguments" "I" (.int mx)) (r : Int32) (hr0 : r = (if pn < mn then (0 : Int32) else (if mx < pn then (0 : Int32) else (1 : Int32)))) :
    MetFree l (⟨"com/example/steward/steward/ejbql/Operand$Function", "takes", "(I)Z"⟩ : MethodName) (head1 (Jvm.Cond.code (⟨"com/example/steward/steward/ejbql/Operand$Function", "takes", "(I)Z"⟩ : MethodName) prog_55_method_4_code 2 (some .boolean) :: ws) ({ frames := 0, cells := 0, slots := 0, locals := 0 } : Room)) (fun a U => a = #[(.ref ak), (.int pn)] ∧ Z.Warmed39 U.vm ∧ U.heap = h0) (fun _ _ _ _ _ => True) (fun _ U o U' => ∃ v L, o = .returned v ∧ QP (.int r) h0 n0 v U'.heap L ∧ FrameEnd U o U' L ({ frames := 0, cells := 0, slots := 0, locals := 0 } : Room).cells ({ frames := 0, cells := 0, slots := 0, locals := 0 } : Room).slots) := by
  by_cases hc5 : pn < mn
  · exact rm2_t l Z a0 hw ws ak pn mn mx h0 n0 Z0 F_min F_max r (hr0.trans (if_pos hc5)) hc5
  · by_cases hc13 : mx < pn
    · exact rm2_ft l Z a0 hw ws ak pn mn mx h0 n0 Z0 F_min F_max r ((hr0.trans (if_neg hc5)).trans (if_pos hc13)) hc5 hc13
    · exact rm2_ff l Z a0 hw ws ak pn mn mx h0 n0 Z0 F_min F_max r ((hr0.trans (if_neg hc5)).trans (if_neg hc13)) hc5 hc13
theorem d1_0 : decode method_3_code 0 = .ok (.iload_n 3, 1) := by decide +kernel
theorem d1_1 : decode method_3_code 1 = .ok (.iload_n 1, 1) := by decide +kernel
theorem d1_2 : decode method_3_code 2 = .ok (.if_icmp .eq 8, 3) := by decide +kernel
theorem d1_10 : decode method_3_code 10 = .ok (.iconst 1, 1) := by decide +kernel
theorem d1_11 : decode method_3_code 11 = .ok (.goto 4, 3) := by decide +kernel
theorem d1_15 : decode method_3_code 15 = .ok (.istore 4, 2) := by decide +kernel
theorem d1_17 : decode method_3_code 17 = .ok (.aload_n 0, 1) := by decide +kernel
theorem d1_18 : decode method_3_code 18 = .ok (.iload_n 3, 1) := by decide +kernel
theorem d1_19 : decode method_3_code 19 = .ok (.invokevirtual 38, 3) := by decide +kernel
theorem pdm_0 : parseMethodDescriptor "(I)Z" = some ⟨[.int], some .boolean⟩ := by decide +kernel
theorem d1_22 : decode method_3_code 22 = .ok (.iload 4, 2) := by decide +kernel
theorem d1_24 : decode method_3_code 24 = .ok (.if_icmp .ne 7, 3) := by decide +kernel
theorem d1_31 : decode method_3_code 31 = .ok (.iconst 0, 1) := by decide +kernel
theorem d1_32 : decode method_3_code 32 = .ok (.ireturn, 1) := by decide +kernel
theorem d1_27 : decode method_3_code 27 = .ok (.iconst 1, 1) := by decide +kernel
theorem d1_28 : decode method_3_code 28 = .ok (.goto 4, 3) := by decide +kernel
theorem d1_5 : decode method_3_code 5 = .ok (.iload_n 3, 1) := by decide +kernel
theorem d1_6 : decode method_3_code 6 = .ok (.iload_n 2, 1) := by decide +kernel
theorem d1_7 : decode method_3_code 7 = .ok (.if_icmp .ne 7, 3) := by decide +kernel
theorem d1_14 : decode method_3_code 14 = .ok (.iconst 0, 1) := by decide +kernel
theorem pnm_1 : plainName "com/example/steward/steward/ejbql/FunctionTakesPinLaw" = true := by first | (simp [plainName, overriddenIn]; done) | decide +kernel
theorem ef_rm1 (m : MethodId) (ak : Addr) (lo : Int32) (hi : Int32) (pn : Int32) : entryFrame m #[(.ref ak), (.int lo), (.int hi), (.int pn)] 5 = mkF m 0 #[.val (.ref ak), .val (.int lo), .val (.int hi), .val (.int pn), .unset] [] := by first | (simp [entryFrame, mkF, argsToLocals, Value.category]; done) | rfl
set_option maxRecDepth 65536 in
set_option maxHeartbeats 40000000 in
theorem rm1_tt (l : Launch) (Z : State) (a0 : Array Value) (hw : ∀ d ∈ tables_1, d.before a0 Z = true) (ws : List Jvm.Cond) (ak : Addr) (lo : Int32) (hi : Int32) (pn : Int32) (mn : Int32) (mx : Int32) (t : Int32) (h0 : Heap) (n0 : Nat) (Z0 : n0 ≤ h0.size) (F_min : Fld Z h0 ak "com/example/steward/steward/ejbql/Operand$Function" "minArguments" "I" (.int mn)) (F_max : Fld Z h0 ak "com/example/steward/steward/ejbql/Operand$Function" "maxArguments" "I" (.int mx)) (E_ak : Exa Z h0 ak "com/example/steward/steward/ejbql/Operand$Function") (ht : t = (if pn < mn then (0 : Int32) else (if mx < pn then (0 : Int32) else (1 : Int32)))) (r : Int32) (hr0 : r = (0 : Int32)) (hc2 : pn = lo) (hc24 : ¬ (t = (1 : Int32))) :
    MetFree l (⟨"com/example/steward/steward/ejbql/FunctionTakesPinLaw", "check", "(Lcom/example/steward/steward/ejbql/Operand$Function;III)Z"⟩ : MethodName) (head1 (Jvm.Cond.code (⟨"com/example/steward/steward/ejbql/FunctionTakesPinLaw", "check", "(Lcom/example/steward/steward/ejbql/Operand$Function;III)Z"⟩ : MethodName) method_3_code 5 (some .boolean) :: ws) ({ frames := 1, cells := 0, slots := 0, locals := 13 } : Room)) (fun a U => a = #[(.ref ak), (.int lo), (.int hi), (.int pn)] ∧ Z.Warmed39 U.vm ∧ U.heap = h0) (fun _ _ _ _ _ => True) (fun _ U o U' => ∃ v L, o = .returned v ∧ QP (.int r) h0 n0 v U'.heap L ∧ FrameEnd U o U' L ({ frames := 1, cells := 0, slots := 0, locals := 13 } : Room).cells ({ frames := 1, cells := 0, slots := 0, locals := 13 } : Room).slots) := by
  subst hr0
  refine MetFree.of_bodySF (plainFor_of_name pnm_1) hisR ?_
  intro p e s m args below meth c s₁ Bd hml0 hP hK
  obtain ⟨rfl, hZ, hh⟩ := hP
  have hx := Bd.exec
  have hby := Bd.bytes
  have hml : c.maxLocals = 5 := hml0
  have hown : s.vm.findClass "com/example/steward/steward/ejbql/FunctionTakesPinLaw" = some m.cls := findClass_of_methodNamed Bd.named
  have hnm := (name_of_methodNamed Bd.named Bd.method).1
  have X0 : Stand p l e ({ frames := 1, cells := 0, slots := 0, locals := 13 } : Room) s m #[(.ref ak), (.int lo), (.int hi), (.int pn)] below meth c s₁ [] 0 0 := Stand.of_body Bd
  have e0 : s₁.heap = h0 := by rw [← hh, Bd.state]; rfl
  have N0 := Fr.nil n0
  have pre0 : ∀ t, Steps p.tables e below (s₁.setTop (mkF m 0 #[.val (.ref ak), .val (.int lo), .val (.int hi), .val (.int pn), .unset] [])) t → Steps p.tables e below (s₁.setTop (entryFrame m #[(.ref ak), (.int lo), (.int hi), (.int pn)] 5)) t := fun t k => castTop (ef_rm1 m ak lo hi pn) k
  obtain ⟨cq1, kq1, q1a, q1b, q1c⟩ := isOf hZ e0 E_ak
  obtain ⟨_, _, ⟨T1, L1, k1, n1⟩, -, X1, ⟨Lc1, hQ1, l1, y1, z1⟩, st1⟩ := X0.virtualBack hx (y := (⟨"com/example/steward/steward/ejbql/Operand$Function", "takes", "(I)Z"⟩ : MethodName)) (z := (⟨"com/example/steward/steward/ejbql/Operand$Function", "takes", "(I)Z"⟩ : MethodName)) hown (mvT hZ (hw _ (List.mem_of_getElem? (i := 8) rfl))) (mvT hZ (hw _ (List.mem_of_getElem? (i := 9) rfl))) (notFace_of_selects (args := #[]) (mvT hZ (hw _ (List.mem_of_getElem? (i := 11) rfl)))) (mvT hZ (hw _ (List.mem_of_getElem? (i := 11) rfl))) (mvT hZ (hw _ (List.mem_of_getElem? (i := 10) rfl))) (by decide) (backOf (W := 0) (rm2 l Z a0 hw [] ak pn mn mx h0 n0 Z0 F_min F_max t ht) hZ (hw _ (List.mem_of_getElem? (i := 12) rfl)) (hw _ (List.mem_of_getElem? (i := 2) rfl)) (by decide) (by decide)) q1a q1c (g := (mkF m 19 #[.val (.ref ak), .val (.int lo), .val (.int hi), .val (.int pn), .val (.int (1 : Int32))] [(.int pn), (.ref ak)])) rfl (by rw [hml]; rfl) (Steps.refl _) (argsL := [(.int pn)]) (rest := []) (lenOf pdm_0 rfl) rfl (by show 2 * 0 + _ ≤ _; exact Nat.le_of_eq rfl) (hb hby d1_19) (fun _ _ => ⟨rfl, e0, (by decide : 0 + 0 ≤ _), (by decide : 0 + 0 ≤ _)⟩)
  dsimp only [Pt.U, Pt.locs, Pt.cells, Pt.slots] at X1 l1 y1 z1 st1 hQ1
  subst l1 y1 z1
  obtain ⟨rfl, N1q, e1⟩ := hQ1
  have N1 := Fr.app N0 N1q
  obtain ⟨fs, hr, hrun, hended, hW, hsame⟩ := X1.leave (v := some (.int (0 : Int32))) (fun h => by rw [Bd.returns] at h; cases h)
  refine ⟨_, _, pre0 _ ?_, hrun, hended, _, _, rfl, ?_, ⟨_, rfl⟩, hW, hsame.mono (by decide) (by decide)⟩
  · show Steps p.tables e below (s₁.setTop (mkF m 0 #[.val (.ref ak), .val (.int lo), .val (.int hi), .val (.int pn), .unset] [])) _
    refine XS.iloadN X0.here hx rfl (hb hby d1_0) rfl ?_
    show Steps p.tables e below (s₁.setTop (mkF m 1 #[.val (.ref ak), .val (.int lo), .val (.int hi), .val (.int pn), .unset] [(.int pn)])) _
    refine XS.iloadN X0.here hx rfl (hb hby d1_1) rfl ?_
    show Steps p.tables e below (s₁.setTop (mkF m 2 #[.val (.ref ak), .val (.int lo), .val (.int hi), .val (.int pn), .unset] [(.int lo), (.int pn)])) _
    refine XS.icmpYes X0.here hx rfl (pc0 := 2) (pc' := 10) rfl (hb hby d1_2) rfl (teq hc2).1 (by decide) (by decide) ?_
    show Steps p.tables e below (s₁.setTop (mkF m 10 #[.val (.ref ak), .val (.int lo), .val (.int hi), .val (.int pn), .unset] [])) _
    refine XS.iconst X0.here hx rfl (hb hby d1_10) ?_
    show Steps p.tables e below (s₁.setTop (mkF m 11 #[.val (.ref ak), .val (.int lo), .val (.int hi), .val (.int pn), .unset] [(.int (1 : Int32))])) _
    refine XS.goto X0.here hx rfl (pc0 := 11) (pc' := 15) rfl (hb hby d1_11) (by decide) (by decide) ?_
    show Steps p.tables e below (s₁.setTop (mkF m 15 #[.val (.ref ak), .val (.int lo), .val (.int hi), .val (.int pn), .unset] [(.int (1 : Int32))])) _
    refine XS.istore X0.here hx rfl (hb hby d1_15) rfl (l' := #[.val (.ref ak), .val (.int lo), .val (.int hi), .val (.int pn), .val (.int (1 : Int32))]) rfl ?_
    show Steps p.tables e below (s₁.setTop (mkF m 17 #[.val (.ref ak), .val (.int lo), .val (.int hi), .val (.int pn), .val (.int (1 : Int32))] [])) _
    refine XS.aloadN X0.here hx rfl (hb hby d1_17) rfl rfl ?_
    show Steps p.tables e below (s₁.setTop (mkF m 18 #[.val (.ref ak), .val (.int lo), .val (.int hi), .val (.int pn), .val (.int (1 : Int32))] [(.ref ak)])) _
    refine XS.iloadN X0.here hx rfl (hb hby d1_18) rfl ?_
    show Steps p.tables e below (s₁.setTop (mkF m 19 #[.val (.ref ak), .val (.int lo), .val (.int hi), .val (.int pn), .val (.int (1 : Int32))] [(.int pn), (.ref ak)])) _
    refine st1.trans ?_
    show Steps p.tables e below (T1.setTop (mkF m 22 #[.val (.ref ak), .val (.int lo), .val (.int hi), .val (.int pn), .val (.int (1 : Int32))] [(.int t)])) _
    refine XS.iload X1.here hx rfl (hb hby d1_22) rfl ?_
    show Steps p.tables e below (T1.setTop (mkF m 24 #[.val (.ref ak), .val (.int lo), .val (.int hi), .val (.int pn), .val (.int (1 : Int32))] [(.int (1 : Int32)), (.int t)])) _
    refine XS.icmpYes X1.here hx rfl (pc0 := 24) (pc' := 31) rfl (hb hby d1_24) rfl (feq hc24).2 (by decide) (by decide) ?_
    show Steps p.tables e below (T1.setTop (mkF m 31 #[.val (.ref ak), .val (.int lo), .val (.int hi), .val (.int pn), .val (.int (1 : Int32))] [])) _
    refine XS.iconst X1.here hx rfl (hb hby d1_31) ?_
    show Steps p.tables e below (T1.setTop (mkF m 32 #[.val (.ref ak), .val (.int lo), .val (.int hi), .val (.int pn), .val (.int (1 : Int32))] [(.int (0 : Int32))])) _
    exact retN X1 hx (t := .boolean) Bd.returns (by simp) (hb hby d1_32) hr
  · show QP (.int (0 : Int32)) h0 n0 _ T1.heap _
    rw [e1]
    exact ⟨rfl, N1, rfl⟩
set_option maxRecDepth 65536 in
set_option maxHeartbeats 40000000 in
theorem rm1_tf (l : Launch) (Z : State) (a0 : Array Value) (hw : ∀ d ∈ tables_1, d.before a0 Z = true) (ws : List Jvm.Cond) (ak : Addr) (lo : Int32) (hi : Int32) (pn : Int32) (mn : Int32) (mx : Int32) (t : Int32) (h0 : Heap) (n0 : Nat) (Z0 : n0 ≤ h0.size) (F_min : Fld Z h0 ak "com/example/steward/steward/ejbql/Operand$Function" "minArguments" "I" (.int mn)) (F_max : Fld Z h0 ak "com/example/steward/steward/ejbql/Operand$Function" "maxArguments" "I" (.int mx)) (E_ak : Exa Z h0 ak "com/example/steward/steward/ejbql/Operand$Function") (ht : t = (if pn < mn then (0 : Int32) else (if mx < pn then (0 : Int32) else (1 : Int32)))) (r : Int32) (hr0 : r = (1 : Int32)) (hc2 : pn = lo) (hc24 : t = (1 : Int32)) :
    MetFree l (⟨"com/example/steward/steward/ejbql/FunctionTakesPinLaw", "check", "(Lcom/example/steward/steward/ejbql/Operand$Function;III)Z"⟩ : MethodName) (head1 (Jvm.Cond.code (⟨"com/example/steward/steward/ejbql/FunctionTakesPinLaw", "check", "(Lcom/example/steward/steward/ejbql/Operand$Function;III)Z"⟩ : MethodName) method_3_code 5 (some .boolean) :: ws) ({ frames := 1, cells := 0, slots := 0, locals := 13 } : Room)) (fun a U => a = #[(.ref ak), (.int lo), (.int hi), (.int pn)] ∧ Z.Warmed39 U.vm ∧ U.heap = h0) (fun _ _ _ _ _ => True) (fun _ U o U' => ∃ v L, o = .returned v ∧ QP (.int r) h0 n0 v U'.heap L ∧ FrameEnd U o U' L ({ frames := 1, cells := 0, slots := 0, locals := 13 } : Room).cells ({ frames := 1, cells := 0, slots := 0, locals := 13 } : Room).slots) := by
  subst hr0
  refine MetFree.of_bodySF (plainFor_of_name pnm_1) hisR ?_
  intro p e s m args below meth c s₁ Bd hml0 hP hK
  obtain ⟨rfl, hZ, hh⟩ := hP
  have hx := Bd.exec
  have hby := Bd.bytes
  have hml : c.maxLocals = 5 := hml0
  have hown : s.vm.findClass "com/example/steward/steward/ejbql/FunctionTakesPinLaw" = some m.cls := findClass_of_methodNamed Bd.named
  have hnm := (name_of_methodNamed Bd.named Bd.method).1
  have X0 : Stand p l e ({ frames := 1, cells := 0, slots := 0, locals := 13 } : Room) s m #[(.ref ak), (.int lo), (.int hi), (.int pn)] below meth c s₁ [] 0 0 := Stand.of_body Bd
  have e0 : s₁.heap = h0 := by rw [← hh, Bd.state]; rfl
  have N0 := Fr.nil n0
  have pre0 : ∀ t, Steps p.tables e below (s₁.setTop (mkF m 0 #[.val (.ref ak), .val (.int lo), .val (.int hi), .val (.int pn), .unset] [])) t → Steps p.tables e below (s₁.setTop (entryFrame m #[(.ref ak), (.int lo), (.int hi), (.int pn)] 5)) t := fun t k => castTop (ef_rm1 m ak lo hi pn) k
  obtain ⟨cq1, kq1, q1a, q1b, q1c⟩ := isOf hZ e0 E_ak
  obtain ⟨_, _, ⟨T1, L1, k1, n1⟩, -, X1, ⟨Lc1, hQ1, l1, y1, z1⟩, st1⟩ := X0.virtualBack hx (y := (⟨"com/example/steward/steward/ejbql/Operand$Function", "takes", "(I)Z"⟩ : MethodName)) (z := (⟨"com/example/steward/steward/ejbql/Operand$Function", "takes", "(I)Z"⟩ : MethodName)) hown (mvT hZ (hw _ (List.mem_of_getElem? (i := 8) rfl))) (mvT hZ (hw _ (List.mem_of_getElem? (i := 9) rfl))) (notFace_of_selects (args := #[]) (mvT hZ (hw _ (List.mem_of_getElem? (i := 11) rfl)))) (mvT hZ (hw _ (List.mem_of_getElem? (i := 11) rfl))) (mvT hZ (hw _ (List.mem_of_getElem? (i := 10) rfl))) (by decide) (backOf (W := 0) (rm2 l Z a0 hw [] ak pn mn mx h0 n0 Z0 F_min F_max t ht) hZ (hw _ (List.mem_of_getElem? (i := 12) rfl)) (hw _ (List.mem_of_getElem? (i := 2) rfl)) (by decide) (by decide)) q1a q1c (g := (mkF m 19 #[.val (.ref ak), .val (.int lo), .val (.int hi), .val (.int pn), .val (.int (1 : Int32))] [(.int pn), (.ref ak)])) rfl (by rw [hml]; rfl) (Steps.refl _) (argsL := [(.int pn)]) (rest := []) (lenOf pdm_0 rfl) rfl (by show 2 * 0 + _ ≤ _; exact Nat.le_of_eq rfl) (hb hby d1_19) (fun _ _ => ⟨rfl, e0, (by decide : 0 + 0 ≤ _), (by decide : 0 + 0 ≤ _)⟩)
  dsimp only [Pt.U, Pt.locs, Pt.cells, Pt.slots] at X1 l1 y1 z1 st1 hQ1
  subst l1 y1 z1
  obtain ⟨rfl, N1q, e1⟩ := hQ1
  have N1 := Fr.app N0 N1q
  obtain ⟨fs, hr, hrun, hended, hW, hsame⟩ := X1.leave (v := some (.int (1 : Int32))) (fun h => by rw [Bd.returns] at h; cases h)
  refine ⟨_, _, pre0 _ ?_, hrun, hended, _, _, rfl, ?_, ⟨_, rfl⟩, hW, hsame.mono (by decide) (by decide)⟩
  · show Steps p.tables e below (s₁.setTop (mkF m 0 #[.val (.ref ak), .val (.int lo), .val (.int hi), .val (.int pn), .unset] [])) _
    refine XS.iloadN X0.here hx rfl (hb hby d1_0) rfl ?_
    show Steps p.tables e below (s₁.setTop (mkF m 1 #[.val (.ref ak), .val (.int lo), .val (.int hi), .val (.int pn), .unset] [(.int pn)])) _
    refine XS.iloadN X0.here hx rfl (hb hby d1_1) rfl ?_
    show Steps p.tables e below (s₁.setTop (mkF m 2 #[.val (.ref ak), .val (.int lo), .val (.int hi), .val (.int pn), .unset] [(.int lo), (.int pn)])) _
    refine XS.icmpYes X0.here hx rfl (pc0 := 2) (pc' := 10) rfl (hb hby d1_2) rfl (teq hc2).1 (by decide) (by decide) ?_
    show Steps p.tables e below (s₁.setTop (mkF m 10 #[.val (.ref ak), .val (.int lo), .val (.int hi), .val (.int pn), .unset] [])) _
    refine XS.iconst X0.here hx rfl (hb hby d1_10) ?_
    show Steps p.tables e below (s₁.setTop (mkF m 11 #[.val (.ref ak), .val (.int lo), .val (.int hi), .val (.int pn), .unset] [(.int (1 : Int32))])) _
    refine XS.goto X0.here hx rfl (pc0 := 11) (pc' := 15) rfl (hb hby d1_11) (by decide) (by decide) ?_
    show Steps p.tables e below (s₁.setTop (mkF m 15 #[.val (.ref ak), .val (.int lo), .val (.int hi), .val (.int pn), .unset] [(.int (1 : Int32))])) _
    refine XS.istore X0.here hx rfl (hb hby d1_15) rfl (l' := #[.val (.ref ak), .val (.int lo), .val (.int hi), .val (.int pn), .val (.int (1 : Int32))]) rfl ?_
    show Steps p.tables e below (s₁.setTop (mkF m 17 #[.val (.ref ak), .val (.int lo), .val (.int hi), .val (.int pn), .val (.int (1 : Int32))] [])) _
    refine XS.aloadN X0.here hx rfl (hb hby d1_17) rfl rfl ?_
    show Steps p.tables e below (s₁.setTop (mkF m 18 #[.val (.ref ak), .val (.int lo), .val (.int hi), .val (.int pn), .val (.int (1 : Int32))] [(.ref ak)])) _
    refine XS.iloadN X0.here hx rfl (hb hby d1_18) rfl ?_
    show Steps p.tables e below (s₁.setTop (mkF m 19 #[.val (.ref ak), .val (.int lo), .val (.int hi), .val (.int pn), .val (.int (1 : Int32))] [(.int pn), (.ref ak)])) _
    refine st1.trans ?_
    show Steps p.tables e below (T1.setTop (mkF m 22 #[.val (.ref ak), .val (.int lo), .val (.int hi), .val (.int pn), .val (.int (1 : Int32))] [(.int t)])) _
    refine XS.iload X1.here hx rfl (hb hby d1_22) rfl ?_
    show Steps p.tables e below (T1.setTop (mkF m 24 #[.val (.ref ak), .val (.int lo), .val (.int hi), .val (.int pn), .val (.int (1 : Int32))] [(.int (1 : Int32)), (.int t)])) _
    refine XS.icmpNo X1.here hx rfl (hb hby d1_24) rfl (teq hc24).2 ?_
    show Steps p.tables e below (T1.setTop (mkF m 27 #[.val (.ref ak), .val (.int lo), .val (.int hi), .val (.int pn), .val (.int (1 : Int32))] [])) _
    refine XS.iconst X1.here hx rfl (hb hby d1_27) ?_
    show Steps p.tables e below (T1.setTop (mkF m 28 #[.val (.ref ak), .val (.int lo), .val (.int hi), .val (.int pn), .val (.int (1 : Int32))] [(.int (1 : Int32))])) _
    refine XS.goto X1.here hx rfl (pc0 := 28) (pc' := 32) rfl (hb hby d1_28) (by decide) (by decide) ?_
    show Steps p.tables e below (T1.setTop (mkF m 32 #[.val (.ref ak), .val (.int lo), .val (.int hi), .val (.int pn), .val (.int (1 : Int32))] [(.int (1 : Int32))])) _
    exact retN X1 hx (t := .boolean) Bd.returns (by simp) (hb hby d1_32) hr
  · show QP (.int (1 : Int32)) h0 n0 _ T1.heap _
    rw [e1]
    exact ⟨rfl, N1, rfl⟩
set_option maxRecDepth 65536 in
set_option maxHeartbeats 40000000 in
theorem rm1_ftt (l : Launch) (Z : State) (a0 : Array Value) (hw : ∀ d ∈ tables_1, d.before a0 Z = true) (ws : List Jvm.Cond) (ak : Addr) (lo : Int32) (hi : Int32) (pn : Int32) (mn : Int32) (mx : Int32) (t : Int32) (h0 : Heap) (n0 : Nat) (Z0 : n0 ≤ h0.size) (F_min : Fld Z h0 ak "com/example/steward/steward/ejbql/Operand$Function" "minArguments" "I" (.int mn)) (F_max : Fld Z h0 ak "com/example/steward/steward/ejbql/Operand$Function" "maxArguments" "I" (.int mx)) (E_ak : Exa Z h0 ak "com/example/steward/steward/ejbql/Operand$Function") (ht : t = (if pn < mn then (0 : Int32) else (if mx < pn then (0 : Int32) else (1 : Int32)))) (r : Int32) (hr0 : r = (0 : Int32)) (hc2 : ¬ (pn = lo)) (hc7 : ¬ (pn = hi)) (hc24 : ¬ (t = (0 : Int32))) :
    MetFree l (⟨"com/example/steward/steward/ejbql/FunctionTakesPinLaw", "check", "(Lcom/example/steward/steward/ejbql/Operand$Function;III)Z"⟩ : MethodName) (head1 (Jvm.Cond.code (⟨"com/example/steward/steward/ejbql/FunctionTakesPinLaw", "check", "(Lcom/example/steward/steward/ejbql/Operand$Function;III)Z"⟩ : MethodName) method_3_code 5 (some .boolean) :: ws) ({ frames := 1, cells := 0, slots := 0, locals := 13 } : Room)) (fun a U => a = #[(.ref ak), (.int lo), (.int hi), (.int pn)] ∧ Z.Warmed39 U.vm ∧ U.heap = h0) (fun _ _ _ _ _ => True) (fun _ U o U' => ∃ v L, o = .returned v ∧ QP (.int r) h0 n0 v U'.heap L ∧ FrameEnd U o U' L ({ frames := 1, cells := 0, slots := 0, locals := 13 } : Room).cells ({ frames := 1, cells := 0, slots := 0, locals := 13 } : Room).slots) := by
  subst hr0
  refine MetFree.of_bodySF (plainFor_of_name pnm_1) hisR ?_
  intro p e s m args below meth c s₁ Bd hml0 hP hK
  obtain ⟨rfl, hZ, hh⟩ := hP
  have hx := Bd.exec
  have hby := Bd.bytes
  have hml : c.maxLocals = 5 := hml0
  have hown : s.vm.findClass "com/example/steward/steward/ejbql/FunctionTakesPinLaw" = some m.cls := findClass_of_methodNamed Bd.named
  have hnm := (name_of_methodNamed Bd.named Bd.method).1
  have X0 : Stand p l e ({ frames := 1, cells := 0, slots := 0, locals := 13 } : Room) s m #[(.ref ak), (.int lo), (.int hi), (.int pn)] below meth c s₁ [] 0 0 := Stand.of_body Bd
  have e0 : s₁.heap = h0 := by rw [← hh, Bd.state]; rfl
  have N0 := Fr.nil n0
  have pre0 : ∀ t, Steps p.tables e below (s₁.setTop (mkF m 0 #[.val (.ref ak), .val (.int lo), .val (.int hi), .val (.int pn), .unset] [])) t → Steps p.tables e below (s₁.setTop (entryFrame m #[(.ref ak), (.int lo), (.int hi), (.int pn)] 5)) t := fun t k => castTop (ef_rm1 m ak lo hi pn) k
  obtain ⟨cq1, kq1, q1a, q1b, q1c⟩ := isOf hZ e0 E_ak
  obtain ⟨_, _, ⟨T1, L1, k1, n1⟩, -, X1, ⟨Lc1, hQ1, l1, y1, z1⟩, st1⟩ := X0.virtualBack hx (y := (⟨"com/example/steward/steward/ejbql/Operand$Function", "takes", "(I)Z"⟩ : MethodName)) (z := (⟨"com/example/steward/steward/ejbql/Operand$Function", "takes", "(I)Z"⟩ : MethodName)) hown (mvT hZ (hw _ (List.mem_of_getElem? (i := 8) rfl))) (mvT hZ (hw _ (List.mem_of_getElem? (i := 9) rfl))) (notFace_of_selects (args := #[]) (mvT hZ (hw _ (List.mem_of_getElem? (i := 11) rfl)))) (mvT hZ (hw _ (List.mem_of_getElem? (i := 11) rfl))) (mvT hZ (hw _ (List.mem_of_getElem? (i := 10) rfl))) (by decide) (backOf (W := 0) (rm2 l Z a0 hw [] ak pn mn mx h0 n0 Z0 F_min F_max t ht) hZ (hw _ (List.mem_of_getElem? (i := 12) rfl)) (hw _ (List.mem_of_getElem? (i := 2) rfl)) (by decide) (by decide)) q1a q1c (g := (mkF m 19 #[.val (.ref ak), .val (.int lo), .val (.int hi), .val (.int pn), .val (.int (0 : Int32))] [(.int pn), (.ref ak)])) rfl (by rw [hml]; rfl) (Steps.refl _) (argsL := [(.int pn)]) (rest := []) (lenOf pdm_0 rfl) rfl (by show 2 * 0 + _ ≤ _; exact Nat.le_of_eq rfl) (hb hby d1_19) (fun _ _ => ⟨rfl, e0, (by decide : 0 + 0 ≤ _), (by decide : 0 + 0 ≤ _)⟩)
  dsimp only [Pt.U, Pt.locs, Pt.cells, Pt.slots] at X1 l1 y1 z1 st1 hQ1
  subst l1 y1 z1
  obtain ⟨rfl, N1q, e1⟩ := hQ1
  have N1 := Fr.app N0 N1q
  obtain ⟨fs, hr, hrun, hended, hW, hsame⟩ := X1.leave (v := some (.int (0 : Int32))) (fun h => by rw [Bd.returns] at h; cases h)
  refine ⟨_, _, pre0 _ ?_, hrun, hended, _, _, rfl, ?_, ⟨_, rfl⟩, hW, hsame.mono (by decide) (by decide)⟩
  · show Steps p.tables e below (s₁.setTop (mkF m 0 #[.val (.ref ak), .val (.int lo), .val (.int hi), .val (.int pn), .unset] [])) _
    refine XS.iloadN X0.here hx rfl (hb hby d1_0) rfl ?_
    show Steps p.tables e below (s₁.setTop (mkF m 1 #[.val (.ref ak), .val (.int lo), .val (.int hi), .val (.int pn), .unset] [(.int pn)])) _
    refine XS.iloadN X0.here hx rfl (hb hby d1_1) rfl ?_
    show Steps p.tables e below (s₁.setTop (mkF m 2 #[.val (.ref ak), .val (.int lo), .val (.int hi), .val (.int pn), .unset] [(.int lo), (.int pn)])) _
    refine XS.icmpNo X0.here hx rfl (hb hby d1_2) rfl (feq hc2).1 ?_
    show Steps p.tables e below (s₁.setTop (mkF m 5 #[.val (.ref ak), .val (.int lo), .val (.int hi), .val (.int pn), .unset] [])) _
    refine XS.iloadN X0.here hx rfl (hb hby d1_5) rfl ?_
    show Steps p.tables e below (s₁.setTop (mkF m 6 #[.val (.ref ak), .val (.int lo), .val (.int hi), .val (.int pn), .unset] [(.int pn)])) _
    refine XS.iloadN X0.here hx rfl (hb hby d1_6) rfl ?_
    show Steps p.tables e below (s₁.setTop (mkF m 7 #[.val (.ref ak), .val (.int lo), .val (.int hi), .val (.int pn), .unset] [(.int hi), (.int pn)])) _
    refine XS.icmpYes X0.here hx rfl (pc0 := 7) (pc' := 14) rfl (hb hby d1_7) rfl (feq hc7).2 (by decide) (by decide) ?_
    show Steps p.tables e below (s₁.setTop (mkF m 14 #[.val (.ref ak), .val (.int lo), .val (.int hi), .val (.int pn), .unset] [])) _
    refine XS.iconst X0.here hx rfl (hb hby d1_14) ?_
    show Steps p.tables e below (s₁.setTop (mkF m 15 #[.val (.ref ak), .val (.int lo), .val (.int hi), .val (.int pn), .unset] [(.int (0 : Int32))])) _
    refine XS.istore X0.here hx rfl (hb hby d1_15) rfl (l' := #[.val (.ref ak), .val (.int lo), .val (.int hi), .val (.int pn), .val (.int (0 : Int32))]) rfl ?_
    show Steps p.tables e below (s₁.setTop (mkF m 17 #[.val (.ref ak), .val (.int lo), .val (.int hi), .val (.int pn), .val (.int (0 : Int32))] [])) _
    refine XS.aloadN X0.here hx rfl (hb hby d1_17) rfl rfl ?_
    show Steps p.tables e below (s₁.setTop (mkF m 18 #[.val (.ref ak), .val (.int lo), .val (.int hi), .val (.int pn), .val (.int (0 : Int32))] [(.ref ak)])) _
    refine XS.iloadN X0.here hx rfl (hb hby d1_18) rfl ?_
    show Steps p.tables e below (s₁.setTop (mkF m 19 #[.val (.ref ak), .val (.int lo), .val (.int hi), .val (.int pn), .val (.int (0 : Int32))] [(.int pn), (.ref ak)])) _
    refine st1.trans ?_
    show Steps p.tables e below (T1.setTop (mkF m 22 #[.val (.ref ak), .val (.int lo), .val (.int hi), .val (.int pn), .val (.int (0 : Int32))] [(.int t)])) _
    refine XS.iload X1.here hx rfl (hb hby d1_22) rfl ?_
    show Steps p.tables e below (T1.setTop (mkF m 24 #[.val (.ref ak), .val (.int lo), .val (.int hi), .val (.int pn), .val (.int (0 : Int32))] [(.int (0 : Int32)), (.int t)])) _
    refine XS.icmpYes X1.here hx rfl (pc0 := 24) (pc' := 31) rfl (hb hby d1_24) rfl (feq hc24).2 (by decide) (by decide) ?_
    show Steps p.tables e below (T1.setTop (mkF m 31 #[.val (.ref ak), .val (.int lo), .val (.int hi), .val (.int pn), .val (.int (0 : Int32))] [])) _
    refine XS.iconst X1.here hx rfl (hb hby d1_31) ?_
    show Steps p.tables e below (T1.setTop (mkF m 32 #[.val (.ref ak), .val (.int lo), .val (.int hi), .val (.int pn), .val (.int (0 : Int32))] [(.int (0 : Int32))])) _
    exact retN X1 hx (t := .boolean) Bd.returns (by simp) (hb hby d1_32) hr
  · show QP (.int (0 : Int32)) h0 n0 _ T1.heap _
    rw [e1]
    exact ⟨rfl, N1, rfl⟩
set_option maxRecDepth 65536 in
set_option maxHeartbeats 40000000 in
theorem rm1_ftf (l : Launch) (Z : State) (a0 : Array Value) (hw : ∀ d ∈ tables_1, d.before a0 Z = true) (ws : List Jvm.Cond) (ak : Addr) (lo : Int32) (hi : Int32) (pn : Int32) (mn : Int32) (mx : Int32) (t : Int32) (h0 : Heap) (n0 : Nat) (Z0 : n0 ≤ h0.size) (F_min : Fld Z h0 ak "com/example/steward/steward/ejbql/Operand$Function" "minArguments" "I" (.int mn)) (F_max : Fld Z h0 ak "com/example/steward/steward/ejbql/Operand$Function" "maxArguments" "I" (.int mx)) (E_ak : Exa Z h0 ak "com/example/steward/steward/ejbql/Operand$Function") (ht : t = (if pn < mn then (0 : Int32) else (if mx < pn then (0 : Int32) else (1 : Int32)))) (r : Int32) (hr0 : r = (1 : Int32)) (hc2 : ¬ (pn = lo)) (hc7 : ¬ (pn = hi)) (hc24 : t = (0 : Int32)) :
    MetFree l (⟨"com/example/steward/steward/ejbql/FunctionTakesPinLaw", "check", "(Lcom/example/steward/steward/ejbql/Operand$Function;III)Z"⟩ : MethodName) (head1 (Jvm.Cond.code (⟨"com/example/steward/steward/ejbql/FunctionTakesPinLaw", "check", "(Lcom/example/steward/steward/ejbql/Operand$Function;III)Z"⟩ : MethodName) method_3_code 5 (some .boolean) :: ws) ({ frames := 1, cells := 0, slots := 0, locals := 13 } : Room)) (fun a U => a = #[(.ref ak), (.int lo), (.int hi), (.int pn)] ∧ Z.Warmed39 U.vm ∧ U.heap = h0) (fun _ _ _ _ _ => True) (fun _ U o U' => ∃ v L, o = .returned v ∧ QP (.int r) h0 n0 v U'.heap L ∧ FrameEnd U o U' L ({ frames := 1, cells := 0, slots := 0, locals := 13 } : Room).cells ({ frames := 1, cells := 0, slots := 0, locals := 13 } : Room).slots) := by
  subst hr0
  refine MetFree.of_bodySF (plainFor_of_name pnm_1) hisR ?_
  intro p e s m args below meth c s₁ Bd hml0 hP hK
  obtain ⟨rfl, hZ, hh⟩ := hP
  have hx := Bd.exec
  have hby := Bd.bytes
  have hml : c.maxLocals = 5 := hml0
  have hown : s.vm.findClass "com/example/steward/steward/ejbql/FunctionTakesPinLaw" = some m.cls := findClass_of_methodNamed Bd.named
  have hnm := (name_of_methodNamed Bd.named Bd.method).1
  have X0 : Stand p l e ({ frames := 1, cells := 0, slots := 0, locals := 13 } : Room) s m #[(.ref ak), (.int lo), (.int hi), (.int pn)] below meth c s₁ [] 0 0 := Stand.of_body Bd
  have e0 : s₁.heap = h0 := by rw [← hh, Bd.state]; rfl
  have N0 := Fr.nil n0
  have pre0 : ∀ t, Steps p.tables e below (s₁.setTop (mkF m 0 #[.val (.ref ak), .val (.int lo), .val (.int hi), .val (.int pn), .unset] [])) t → Steps p.tables e below (s₁.setTop (entryFrame m #[(.ref ak), (.int lo), (.int hi), (.int pn)] 5)) t := fun t k => castTop (ef_rm1 m ak lo hi pn) k
  obtain ⟨cq1, kq1, q1a, q1b, q1c⟩ := isOf hZ e0 E_ak
  obtain ⟨_, _, ⟨T1, L1, k1, n1⟩, -, X1, ⟨Lc1, hQ1, l1, y1, z1⟩, st1⟩ := X0.virtualBack hx (y := (⟨"com/example/steward/steward/ejbql/Operand$Function", "takes", "(I)Z"⟩ : MethodName)) (z := (⟨"com/example/steward/steward/ejbql/Operand$Function", "takes", "(I)Z"⟩ : MethodName)) hown (mvT hZ (hw _ (List.mem_of_getElem? (i := 8) rfl))) (mvT hZ (hw _ (List.mem_of_getElem? (i := 9) rfl))) (notFace_of_selects (args := #[]) (mvT hZ (hw _ (List.mem_of_getElem? (i := 11) rfl)))) (mvT hZ (hw _ (List.mem_of_getElem? (i := 11) rfl))) (mvT hZ (hw _ (List.mem_of_getElem? (i := 10) rfl))) (by decide) (backOf (W := 0) (rm2 l Z a0 hw [] ak pn mn mx h0 n0 Z0 F_min F_max t ht) hZ (hw _ (List.mem_of_getElem? (i := 12) rfl)) (hw _ (List.mem_of_getElem? (i := 2) rfl)) (by decide) (by decide)) q1a q1c (g := (mkF m 19 #[.val (.ref ak), .val (.int lo), .val (.int hi), .val (.int pn), .val (.int (0 : Int32))] [(.int pn), (.ref ak)])) rfl (by rw [hml]; rfl) (Steps.refl _) (argsL := [(.int pn)]) (rest := []) (lenOf pdm_0 rfl) rfl (by show 2 * 0 + _ ≤ _; exact Nat.le_of_eq rfl) (hb hby d1_19) (fun _ _ => ⟨rfl, e0, (by decide : 0 + 0 ≤ _), (by decide : 0 + 0 ≤ _)⟩)
  dsimp only [Pt.U, Pt.locs, Pt.cells, Pt.slots] at X1 l1 y1 z1 st1 hQ1
  subst l1 y1 z1
  obtain ⟨rfl, N1q, e1⟩ := hQ1
  have N1 := Fr.app N0 N1q
  obtain ⟨fs, hr, hrun, hended, hW, hsame⟩ := X1.leave (v := some (.int (1 : Int32))) (fun h => by rw [Bd.returns] at h; cases h)
  refine ⟨_, _, pre0 _ ?_, hrun, hended, _, _, rfl, ?_, ⟨_, rfl⟩, hW, hsame.mono (by decide) (by decide)⟩
  · show Steps p.tables e below (s₁.setTop (mkF m 0 #[.val (.ref ak), .val (.int lo), .val (.int hi), .val (.int pn), .unset] [])) _
    refine XS.iloadN X0.here hx rfl (hb hby d1_0) rfl ?_
    show Steps p.tables e below (s₁.setTop (mkF m 1 #[.val (.ref ak), .val (.int lo), .val (.int hi), .val (.int pn), .unset] [(.int pn)])) _
    refine XS.iloadN X0.here hx rfl (hb hby d1_1) rfl ?_
    show Steps p.tables e below (s₁.setTop (mkF m 2 #[.val (.ref ak), .val (.int lo), .val (.int hi), .val (.int pn), .unset] [(.int lo), (.int pn)])) _
    refine XS.icmpNo X0.here hx rfl (hb hby d1_2) rfl (feq hc2).1 ?_
    show Steps p.tables e below (s₁.setTop (mkF m 5 #[.val (.ref ak), .val (.int lo), .val (.int hi), .val (.int pn), .unset] [])) _
    refine XS.iloadN X0.here hx rfl (hb hby d1_5) rfl ?_
    show Steps p.tables e below (s₁.setTop (mkF m 6 #[.val (.ref ak), .val (.int lo), .val (.int hi), .val (.int pn), .unset] [(.int pn)])) _
    refine XS.iloadN X0.here hx rfl (hb hby d1_6) rfl ?_
    show Steps p.tables e below (s₁.setTop (mkF m 7 #[.val (.ref ak), .val (.int lo), .val (.int hi), .val (.int pn), .unset] [(.int hi), (.int pn)])) _
    refine XS.icmpYes X0.here hx rfl (pc0 := 7) (pc' := 14) rfl (hb hby d1_7) rfl (feq hc7).2 (by decide) (by decide) ?_
    show Steps p.tables e below (s₁.setTop (mkF m 14 #[.val (.ref ak), .val (.int lo), .val (.int hi), .val (.int pn), .unset] [])) _
    refine XS.iconst X0.here hx rfl (hb hby d1_14) ?_
    show Steps p.tables e below (s₁.setTop (mkF m 15 #[.val (.ref ak), .val (.int lo), .val (.int hi), .val (.int pn), .unset] [(.int (0 : Int32))])) _
    refine XS.istore X0.here hx rfl (hb hby d1_15) rfl (l' := #[.val (.ref ak), .val (.int lo), .val (.int hi), .val (.int pn), .val (.int (0 : Int32))]) rfl ?_
    show Steps p.tables e below (s₁.setTop (mkF m 17 #[.val (.ref ak), .val (.int lo), .val (.int hi), .val (.int pn), .val (.int (0 : Int32))] [])) _
    refine XS.aloadN X0.here hx rfl (hb hby d1_17) rfl rfl ?_
    show Steps p.tables e below (s₁.setTop (mkF m 18 #[.val (.ref ak), .val (.int lo), .val (.int hi), .val (.int pn), .val (.int (0 : Int32))] [(.ref ak)])) _
    refine XS.iloadN X0.here hx rfl (hb hby d1_18) rfl ?_
    show Steps p.tables e below (s₁.setTop (mkF m 19 #[.val (.ref ak), .val (.int lo), .val (.int hi), .val (.int pn), .val (.int (0 : Int32))] [(.int pn), (.ref ak)])) _
    refine st1.trans ?_
    show Steps p.tables e below (T1.setTop (mkF m 22 #[.val (.ref ak), .val (.int lo), .val (.int hi), .val (.int pn), .val (.int (0 : Int32))] [(.int t)])) _
    refine XS.iload X1.here hx rfl (hb hby d1_22) rfl ?_
    show Steps p.tables e below (T1.setTop (mkF m 24 #[.val (.ref ak), .val (.int lo), .val (.int hi), .val (.int pn), .val (.int (0 : Int32))] [(.int (0 : Int32)), (.int t)])) _
    refine XS.icmpNo X1.here hx rfl (hb hby d1_24) rfl (teq hc24).2 ?_
    show Steps p.tables e below (T1.setTop (mkF m 27 #[.val (.ref ak), .val (.int lo), .val (.int hi), .val (.int pn), .val (.int (0 : Int32))] [])) _
    refine XS.iconst X1.here hx rfl (hb hby d1_27) ?_
    show Steps p.tables e below (T1.setTop (mkF m 28 #[.val (.ref ak), .val (.int lo), .val (.int hi), .val (.int pn), .val (.int (0 : Int32))] [(.int (1 : Int32))])) _
    refine XS.goto X1.here hx rfl (pc0 := 28) (pc' := 32) rfl (hb hby d1_28) (by decide) (by decide) ?_
    show Steps p.tables e below (T1.setTop (mkF m 32 #[.val (.ref ak), .val (.int lo), .val (.int hi), .val (.int pn), .val (.int (0 : Int32))] [(.int (1 : Int32))])) _
    exact retN X1 hx (t := .boolean) Bd.returns (by simp) (hb hby d1_32) hr
  · show QP (.int (1 : Int32)) h0 n0 _ T1.heap _
    rw [e1]
    exact ⟨rfl, N1, rfl⟩
set_option maxRecDepth 65536 in
set_option maxHeartbeats 40000000 in
theorem rm1_fft (l : Launch) (Z : State) (a0 : Array Value) (hw : ∀ d ∈ tables_1, d.before a0 Z = true) (ws : List Jvm.Cond) (ak : Addr) (lo : Int32) (hi : Int32) (pn : Int32) (mn : Int32) (mx : Int32) (t : Int32) (h0 : Heap) (n0 : Nat) (Z0 : n0 ≤ h0.size) (F_min : Fld Z h0 ak "com/example/steward/steward/ejbql/Operand$Function" "minArguments" "I" (.int mn)) (F_max : Fld Z h0 ak "com/example/steward/steward/ejbql/Operand$Function" "maxArguments" "I" (.int mx)) (E_ak : Exa Z h0 ak "com/example/steward/steward/ejbql/Operand$Function") (ht : t = (if pn < mn then (0 : Int32) else (if mx < pn then (0 : Int32) else (1 : Int32)))) (r : Int32) (hr0 : r = (0 : Int32)) (hc2 : ¬ (pn = lo)) (hc7 : pn = hi) (hc24 : ¬ (t = (1 : Int32))) :
    MetFree l (⟨"com/example/steward/steward/ejbql/FunctionTakesPinLaw", "check", "(Lcom/example/steward/steward/ejbql/Operand$Function;III)Z"⟩ : MethodName) (head1 (Jvm.Cond.code (⟨"com/example/steward/steward/ejbql/FunctionTakesPinLaw", "check", "(Lcom/example/steward/steward/ejbql/Operand$Function;III)Z"⟩ : MethodName) method_3_code 5 (some .boolean) :: ws) ({ frames := 1, cells := 0, slots := 0, locals := 13 } : Room)) (fun a U => a = #[(.ref ak), (.int lo), (.int hi), (.int pn)] ∧ Z.Warmed39 U.vm ∧ U.heap = h0) (fun _ _ _ _ _ => True) (fun _ U o U' => ∃ v L, o = .returned v ∧ QP (.int r) h0 n0 v U'.heap L ∧ FrameEnd U o U' L ({ frames := 1, cells := 0, slots := 0, locals := 13 } : Room).cells ({ frames := 1, cells := 0, slots := 0, locals := 13 } : Room).slots) := by
  subst hr0
  refine MetFree.of_bodySF (plainFor_of_name pnm_1) hisR ?_
  intro p e s m args below meth c s₁ Bd hml0 hP hK
  obtain ⟨rfl, hZ, hh⟩ := hP
  have hx := Bd.exec
  have hby := Bd.bytes
  have hml : c.maxLocals = 5 := hml0
  have hown : s.vm.findClass "com/example/steward/steward/ejbql/FunctionTakesPinLaw" = some m.cls := findClass_of_methodNamed Bd.named
  have hnm := (name_of_methodNamed Bd.named Bd.method).1
  have X0 : Stand p l e ({ frames := 1, cells := 0, slots := 0, locals := 13 } : Room) s m #[(.ref ak), (.int lo), (.int hi), (.int pn)] below meth c s₁ [] 0 0 := Stand.of_body Bd
  have e0 : s₁.heap = h0 := by rw [← hh, Bd.state]; rfl
  have N0 := Fr.nil n0
  have pre0 : ∀ t, Steps p.tables e below (s₁.setTop (mkF m 0 #[.val (.ref ak), .val (.int lo), .val (.int hi), .val (.int pn), .unset] [])) t → Steps p.tables e below (s₁.setTop (entryFrame m #[(.ref ak), (.int lo), (.int hi), (.int pn)] 5)) t := fun t k => castTop (ef_rm1 m ak lo hi pn) k
  obtain ⟨cq1, kq1, q1a, q1b, q1c⟩ := isOf hZ e0 E_ak
  obtain ⟨_, _, ⟨T1, L1, k1, n1⟩, -, X1, ⟨Lc1, hQ1, l1, y1, z1⟩, st1⟩ := X0.virtualBack hx (y := (⟨"com/example/steward/steward/ejbql/Operand$Function", "takes", "(I)Z"⟩ : MethodName)) (z := (⟨"com/example/steward/steward/ejbql/Operand$Function", "takes", "(I)Z"⟩ : MethodName)) hown (mvT hZ (hw _ (List.mem_of_getElem? (i := 8) rfl))) (mvT hZ (hw _ (List.mem_of_getElem? (i := 9) rfl))) (notFace_of_selects (args := #[]) (mvT hZ (hw _ (List.mem_of_getElem? (i := 11) rfl)))) (mvT hZ (hw _ (List.mem_of_getElem? (i := 11) rfl))) (mvT hZ (hw _ (List.mem_of_getElem? (i := 10) rfl))) (by decide) (backOf (W := 0) (rm2 l Z a0 hw [] ak pn mn mx h0 n0 Z0 F_min F_max t ht) hZ (hw _ (List.mem_of_getElem? (i := 12) rfl)) (hw _ (List.mem_of_getElem? (i := 2) rfl)) (by decide) (by decide)) q1a q1c (g := (mkF m 19 #[.val (.ref ak), .val (.int lo), .val (.int hi), .val (.int pn), .val (.int (1 : Int32))] [(.int pn), (.ref ak)])) rfl (by rw [hml]; rfl) (Steps.refl _) (argsL := [(.int pn)]) (rest := []) (lenOf pdm_0 rfl) rfl (by show 2 * 0 + _ ≤ _; exact Nat.le_of_eq rfl) (hb hby d1_19) (fun _ _ => ⟨rfl, e0, (by decide : 0 + 0 ≤ _), (by decide : 0 + 0 ≤ _)⟩)
  dsimp only [Pt.U, Pt.locs, Pt.cells, Pt.slots] at X1 l1 y1 z1 st1 hQ1
  subst l1 y1 z1
  obtain ⟨rfl, N1q, e1⟩ := hQ1
  have N1 := Fr.app N0 N1q
  obtain ⟨fs, hr, hrun, hended, hW, hsame⟩ := X1.leave (v := some (.int (0 : Int32))) (fun h => by rw [Bd.returns] at h; cases h)
  refine ⟨_, _, pre0 _ ?_, hrun, hended, _, _, rfl, ?_, ⟨_, rfl⟩, hW, hsame.mono (by decide) (by decide)⟩
  · show Steps p.tables e below (s₁.setTop (mkF m 0 #[.val (.ref ak), .val (.int lo), .val (.int hi), .val (.int pn), .unset] [])) _
    refine XS.iloadN X0.here hx rfl (hb hby d1_0) rfl ?_
    show Steps p.tables e below (s₁.setTop (mkF m 1 #[.val (.ref ak), .val (.int lo), .val (.int hi), .val (.int pn), .unset] [(.int pn)])) _
    refine XS.iloadN X0.here hx rfl (hb hby d1_1) rfl ?_
    show Steps p.tables e below (s₁.setTop (mkF m 2 #[.val (.ref ak), .val (.int lo), .val (.int hi), .val (.int pn), .unset] [(.int lo), (.int pn)])) _
    refine XS.icmpNo X0.here hx rfl (hb hby d1_2) rfl (feq hc2).1 ?_
    show Steps p.tables e below (s₁.setTop (mkF m 5 #[.val (.ref ak), .val (.int lo), .val (.int hi), .val (.int pn), .unset] [])) _
    refine XS.iloadN X0.here hx rfl (hb hby d1_5) rfl ?_
    show Steps p.tables e below (s₁.setTop (mkF m 6 #[.val (.ref ak), .val (.int lo), .val (.int hi), .val (.int pn), .unset] [(.int pn)])) _
    refine XS.iloadN X0.here hx rfl (hb hby d1_6) rfl ?_
    show Steps p.tables e below (s₁.setTop (mkF m 7 #[.val (.ref ak), .val (.int lo), .val (.int hi), .val (.int pn), .unset] [(.int hi), (.int pn)])) _
    refine XS.icmpNo X0.here hx rfl (hb hby d1_7) rfl (teq hc7).2 ?_
    show Steps p.tables e below (s₁.setTop (mkF m 10 #[.val (.ref ak), .val (.int lo), .val (.int hi), .val (.int pn), .unset] [])) _
    refine XS.iconst X0.here hx rfl (hb hby d1_10) ?_
    show Steps p.tables e below (s₁.setTop (mkF m 11 #[.val (.ref ak), .val (.int lo), .val (.int hi), .val (.int pn), .unset] [(.int (1 : Int32))])) _
    refine XS.goto X0.here hx rfl (pc0 := 11) (pc' := 15) rfl (hb hby d1_11) (by decide) (by decide) ?_
    show Steps p.tables e below (s₁.setTop (mkF m 15 #[.val (.ref ak), .val (.int lo), .val (.int hi), .val (.int pn), .unset] [(.int (1 : Int32))])) _
    refine XS.istore X0.here hx rfl (hb hby d1_15) rfl (l' := #[.val (.ref ak), .val (.int lo), .val (.int hi), .val (.int pn), .val (.int (1 : Int32))]) rfl ?_
    show Steps p.tables e below (s₁.setTop (mkF m 17 #[.val (.ref ak), .val (.int lo), .val (.int hi), .val (.int pn), .val (.int (1 : Int32))] [])) _
    refine XS.aloadN X0.here hx rfl (hb hby d1_17) rfl rfl ?_
    show Steps p.tables e below (s₁.setTop (mkF m 18 #[.val (.ref ak), .val (.int lo), .val (.int hi), .val (.int pn), .val (.int (1 : Int32))] [(.ref ak)])) _
    refine XS.iloadN X0.here hx rfl (hb hby d1_18) rfl ?_
    show Steps p.tables e below (s₁.setTop (mkF m 19 #[.val (.ref ak), .val (.int lo), .val (.int hi), .val (.int pn), .val (.int (1 : Int32))] [(.int pn), (.ref ak)])) _
    refine st1.trans ?_
    show Steps p.tables e below (T1.setTop (mkF m 22 #[.val (.ref ak), .val (.int lo), .val (.int hi), .val (.int pn), .val (.int (1 : Int32))] [(.int t)])) _
    refine XS.iload X1.here hx rfl (hb hby d1_22) rfl ?_
    show Steps p.tables e below (T1.setTop (mkF m 24 #[.val (.ref ak), .val (.int lo), .val (.int hi), .val (.int pn), .val (.int (1 : Int32))] [(.int (1 : Int32)), (.int t)])) _
    refine XS.icmpYes X1.here hx rfl (pc0 := 24) (pc' := 31) rfl (hb hby d1_24) rfl (feq hc24).2 (by decide) (by decide) ?_
    show Steps p.tables e below (T1.setTop (mkF m 31 #[.val (.ref ak), .val (.int lo), .val (.int hi), .val (.int pn), .val (.int (1 : Int32))] [])) _
    refine XS.iconst X1.here hx rfl (hb hby d1_31) ?_
    show Steps p.tables e below (T1.setTop (mkF m 32 #[.val (.ref ak), .val (.int lo), .val (.int hi), .val (.int pn), .val (.int (1 : Int32))] [(.int (0 : Int32))])) _
    exact retN X1 hx (t := .boolean) Bd.returns (by simp) (hb hby d1_32) hr
  · show QP (.int (0 : Int32)) h0 n0 _ T1.heap _
    rw [e1]
    exact ⟨rfl, N1, rfl⟩
set_option maxRecDepth 65536 in
set_option maxHeartbeats 40000000 in
theorem rm1_fff (l : Launch) (Z : State) (a0 : Array Value) (hw : ∀ d ∈ tables_1, d.before a0 Z = true) (ws : List Jvm.Cond) (ak : Addr) (lo : Int32) (hi : Int32) (pn : Int32) (mn : Int32) (mx : Int32) (t : Int32) (h0 : Heap) (n0 : Nat) (Z0 : n0 ≤ h0.size) (F_min : Fld Z h0 ak "com/example/steward/steward/ejbql/Operand$Function" "minArguments" "I" (.int mn)) (F_max : Fld Z h0 ak "com/example/steward/steward/ejbql/Operand$Function" "maxArguments" "I" (.int mx)) (E_ak : Exa Z h0 ak "com/example/steward/steward/ejbql/Operand$Function") (ht : t = (if pn < mn then (0 : Int32) else (if mx < pn then (0 : Int32) else (1 : Int32)))) (r : Int32) (hr0 : r = (1 : Int32)) (hc2 : ¬ (pn = lo)) (hc7 : pn = hi) (hc24 : t = (1 : Int32)) :
    MetFree l (⟨"com/example/steward/steward/ejbql/FunctionTakesPinLaw", "check", "(Lcom/example/steward/steward/ejbql/Operand$Function;III)Z"⟩ : MethodName) (head1 (Jvm.Cond.code (⟨"com/example/steward/steward/ejbql/FunctionTakesPinLaw", "check", "(Lcom/example/steward/steward/ejbql/Operand$Function;III)Z"⟩ : MethodName) method_3_code 5 (some .boolean) :: ws) ({ frames := 1, cells := 0, slots := 0, locals := 13 } : Room)) (fun a U => a = #[(.ref ak), (.int lo), (.int hi), (.int pn)] ∧ Z.Warmed39 U.vm ∧ U.heap = h0) (fun _ _ _ _ _ => True) (fun _ U o U' => ∃ v L, o = .returned v ∧ QP (.int r) h0 n0 v U'.heap L ∧ FrameEnd U o U' L ({ frames := 1, cells := 0, slots := 0, locals := 13 } : Room).cells ({ frames := 1, cells := 0, slots := 0, locals := 13 } : Room).slots) := by
  subst hr0
  refine MetFree.of_bodySF (plainFor_of_name pnm_1) hisR ?_
  intro p e s m args below meth c s₁ Bd hml0 hP hK
  obtain ⟨rfl, hZ, hh⟩ := hP
  have hx := Bd.exec
  have hby := Bd.bytes
  have hml : c.maxLocals = 5 := hml0
  have hown : s.vm.findClass "com/example/steward/steward/ejbql/FunctionTakesPinLaw" = some m.cls := findClass_of_methodNamed Bd.named
  have hnm := (name_of_methodNamed Bd.named Bd.method).1
  have X0 : Stand p l e ({ frames := 1, cells := 0, slots := 0, locals := 13 } : Room) s m #[(.ref ak), (.int lo), (.int hi), (.int pn)] below meth c s₁ [] 0 0 := Stand.of_body Bd
  have e0 : s₁.heap = h0 := by rw [← hh, Bd.state]; rfl
  have N0 := Fr.nil n0
  have pre0 : ∀ t, Steps p.tables e below (s₁.setTop (mkF m 0 #[.val (.ref ak), .val (.int lo), .val (.int hi), .val (.int pn), .unset] [])) t → Steps p.tables e below (s₁.setTop (entryFrame m #[(.ref ak), (.int lo), (.int hi), (.int pn)] 5)) t := fun t k => castTop (ef_rm1 m ak lo hi pn) k
  obtain ⟨cq1, kq1, q1a, q1b, q1c⟩ := isOf hZ e0 E_ak
  obtain ⟨_, _, ⟨T1, L1, k1, n1⟩, -, X1, ⟨Lc1, hQ1, l1, y1, z1⟩, st1⟩ := X0.virtualBack hx (y := (⟨"com/example/steward/steward/ejbql/Operand$Function", "takes", "(I)Z"⟩ : MethodName)) (z := (⟨"com/example/steward/steward/ejbql/Operand$Function", "takes", "(I)Z"⟩ : MethodName)) hown (mvT hZ (hw _ (List.mem_of_getElem? (i := 8) rfl))) (mvT hZ (hw _ (List.mem_of_getElem? (i := 9) rfl))) (notFace_of_selects (args := #[]) (mvT hZ (hw _ (List.mem_of_getElem? (i := 11) rfl)))) (mvT hZ (hw _ (List.mem_of_getElem? (i := 11) rfl))) (mvT hZ (hw _ (List.mem_of_getElem? (i := 10) rfl))) (by decide) (backOf (W := 0) (rm2 l Z a0 hw [] ak pn mn mx h0 n0 Z0 F_min F_max t ht) hZ (hw _ (List.mem_of_getElem? (i := 12) rfl)) (hw _ (List.mem_of_getElem? (i := 2) rfl)) (by decide) (by decide)) q1a q1c (g := (mkF m 19 #[.val (.ref ak), .val (.int lo), .val (.int hi), .val (.int pn), .val (.int (1 : Int32))] [(.int pn), (.ref ak)])) rfl (by rw [hml]; rfl) (Steps.refl _) (argsL := [(.int pn)]) (rest := []) (lenOf pdm_0 rfl) rfl (by show 2 * 0 + _ ≤ _; exact Nat.le_of_eq rfl) (hb hby d1_19) (fun _ _ => ⟨rfl, e0, (by decide : 0 + 0 ≤ _), (by decide : 0 + 0 ≤ _)⟩)
  dsimp only [Pt.U, Pt.locs, Pt.cells, Pt.slots] at X1 l1 y1 z1 st1 hQ1
  subst l1 y1 z1
  obtain ⟨rfl, N1q, e1⟩ := hQ1
  have N1 := Fr.app N0 N1q
  obtain ⟨fs, hr, hrun, hended, hW, hsame⟩ := X1.leave (v := some (.int (1 : Int32))) (fun h => by rw [Bd.returns] at h; cases h)
  refine ⟨_, _, pre0 _ ?_, hrun, hended, _, _, rfl, ?_, ⟨_, rfl⟩, hW, hsame.mono (by decide) (by decide)⟩
  · show Steps p.tables e below (s₁.setTop (mkF m 0 #[.val (.ref ak), .val (.int lo), .val (.int hi), .val (.int pn), .unset] [])) _
    refine XS.iloadN X0.here hx rfl (hb hby d1_0) rfl ?_
    show Steps p.tables e below (s₁.setTop (mkF m 1 #[.val (.ref ak), .val (.int lo), .val (.int hi), .val (.int pn), .unset] [(.int pn)])) _
    refine XS.iloadN X0.here hx rfl (hb hby d1_1) rfl ?_
    show Steps p.tables e below (s₁.setTop (mkF m 2 #[.val (.ref ak), .val (.int lo), .val (.int hi), .val (.int pn), .unset] [(.int lo), (.int pn)])) _
    refine XS.icmpNo X0.here hx rfl (hb hby d1_2) rfl (feq hc2).1 ?_
    show Steps p.tables e below (s₁.setTop (mkF m 5 #[.val (.ref ak), .val (.int lo), .val (.int hi), .val (.int pn), .unset] [])) _
    refine XS.iloadN X0.here hx rfl (hb hby d1_5) rfl ?_
    show Steps p.tables e below (s₁.setTop (mkF m 6 #[.val (.ref ak), .val (.int lo), .val (.int hi), .val (.int pn), .unset] [(.int pn)])) _
    refine XS.iloadN X0.here hx rfl (hb hby d1_6) rfl ?_
    show Steps p.tables e below (s₁.setTop (mkF m 7 #[.val (.ref ak), .val (.int lo), .val (.int hi), .val (.int pn), .unset] [(.int hi), (.int pn)])) _
    refine XS.icmpNo X0.here hx rfl (hb hby d1_7) rfl (teq hc7).2 ?_
    show Steps p.tables e below (s₁.setTop (mkF m 10 #[.val (.ref ak), .val (.int lo), .val (.int hi), .val (.int pn), .unset] [])) _
    refine XS.iconst X0.here hx rfl (hb hby d1_10) ?_
    show Steps p.tables e below (s₁.setTop (mkF m 11 #[.val (.ref ak), .val (.int lo), .val (.int hi), .val (.int pn), .unset] [(.int (1 : Int32))])) _
    refine XS.goto X0.here hx rfl (pc0 := 11) (pc' := 15) rfl (hb hby d1_11) (by decide) (by decide) ?_
    show Steps p.tables e below (s₁.setTop (mkF m 15 #[.val (.ref ak), .val (.int lo), .val (.int hi), .val (.int pn), .unset] [(.int (1 : Int32))])) _
    refine XS.istore X0.here hx rfl (hb hby d1_15) rfl (l' := #[.val (.ref ak), .val (.int lo), .val (.int hi), .val (.int pn), .val (.int (1 : Int32))]) rfl ?_
    show Steps p.tables e below (s₁.setTop (mkF m 17 #[.val (.ref ak), .val (.int lo), .val (.int hi), .val (.int pn), .val (.int (1 : Int32))] [])) _
    refine XS.aloadN X0.here hx rfl (hb hby d1_17) rfl rfl ?_
    show Steps p.tables e below (s₁.setTop (mkF m 18 #[.val (.ref ak), .val (.int lo), .val (.int hi), .val (.int pn), .val (.int (1 : Int32))] [(.ref ak)])) _
    refine XS.iloadN X0.here hx rfl (hb hby d1_18) rfl ?_
    show Steps p.tables e below (s₁.setTop (mkF m 19 #[.val (.ref ak), .val (.int lo), .val (.int hi), .val (.int pn), .val (.int (1 : Int32))] [(.int pn), (.ref ak)])) _
    refine st1.trans ?_
    show Steps p.tables e below (T1.setTop (mkF m 22 #[.val (.ref ak), .val (.int lo), .val (.int hi), .val (.int pn), .val (.int (1 : Int32))] [(.int t)])) _
    refine XS.iload X1.here hx rfl (hb hby d1_22) rfl ?_
    show Steps p.tables e below (T1.setTop (mkF m 24 #[.val (.ref ak), .val (.int lo), .val (.int hi), .val (.int pn), .val (.int (1 : Int32))] [(.int (1 : Int32)), (.int t)])) _
    refine XS.icmpNo X1.here hx rfl (hb hby d1_24) rfl (teq hc24).2 ?_
    show Steps p.tables e below (T1.setTop (mkF m 27 #[.val (.ref ak), .val (.int lo), .val (.int hi), .val (.int pn), .val (.int (1 : Int32))] [])) _
    refine XS.iconst X1.here hx rfl (hb hby d1_27) ?_
    show Steps p.tables e below (T1.setTop (mkF m 28 #[.val (.ref ak), .val (.int lo), .val (.int hi), .val (.int pn), .val (.int (1 : Int32))] [(.int (1 : Int32))])) _
    refine XS.goto X1.here hx rfl (pc0 := 28) (pc' := 32) rfl (hb hby d1_28) (by decide) (by decide) ?_
    show Steps p.tables e below (T1.setTop (mkF m 32 #[.val (.ref ak), .val (.int lo), .val (.int hi), .val (.int pn), .val (.int (1 : Int32))] [(.int (1 : Int32))])) _
    exact retN X1 hx (t := .boolean) Bd.returns (by simp) (hb hby d1_32) hr
  · show QP (.int (1 : Int32)) h0 n0 _ T1.heap _
    rw [e1]
    exact ⟨rfl, N1, rfl⟩
set_option maxRecDepth 65536 in
set_option maxHeartbeats 40000000 in
theorem rm1 (l : Launch) (Z : State) (a0 : Array Value) (hw : ∀ d ∈ tables_1, d.before a0 Z = true) (ws : List Jvm.Cond) (ak : Addr) (lo : Int32) (hi : Int32) (pn : Int32) (mn : Int32) (mx : Int32) (t : Int32) (h0 : Heap) (n0 : Nat) (Z0 : n0 ≤ h0.size) (F_min : Fld Z h0 ak "com/example/steward/steward/ejbql/Operand$Function" "minArguments" "I" (.int mn)) (F_max : Fld Z h0 ak "com/example/steward/steward/ejbql/Operand$Function" "maxArguments" "I" (.int mx)) (E_ak : Exa Z h0 ak "com/example/steward/steward/ejbql/Operand$Function") (ht : t = (if pn < mn then (0 : Int32) else (if mx < pn then (0 : Int32) else (1 : Int32)))) (r : Int32) (hr0 : r = (if pn = lo then (if t = (1 : Int32) then (1 : Int32) else (0 : Int32)) else (if pn = hi then (if t = (1 : Int32) then (1 : Int32) else (0 : Int32)) else (if t = (0 : Int32) then (1 : Int32) else (0 : Int32))))) :
    MetFree l (⟨"com/example/steward/steward/ejbql/FunctionTakesPinLaw", "check", "(Lcom/example/steward/steward/ejbql/Operand$Function;III)Z"⟩ : MethodName) (head1 (Jvm.Cond.code (⟨"com/example/steward/steward/ejbql/FunctionTakesPinLaw", "check", "(Lcom/example/steward/steward/ejbql/Operand$Function;III)Z"⟩ : MethodName) method_3_code 5 (some .boolean) :: ws) ({ frames := 1, cells := 0, slots := 0, locals := 13 } : Room)) (fun a U => a = #[(.ref ak), (.int lo), (.int hi), (.int pn)] ∧ Z.Warmed39 U.vm ∧ U.heap = h0) (fun _ _ _ _ _ => True) (fun _ U o U' => ∃ v L, o = .returned v ∧ QP (.int r) h0 n0 v U'.heap L ∧ FrameEnd U o U' L ({ frames := 1, cells := 0, slots := 0, locals := 13 } : Room).cells ({ frames := 1, cells := 0, slots := 0, locals := 13 } : Room).slots) := by
  by_cases hc2 : pn = lo
  · by_cases hc24 : t = (1 : Int32)
    · exact rm1_tf l Z a0 hw ws ak lo hi pn mn mx t h0 n0 Z0 F_min F_max E_ak ht r ((hr0.trans (if_pos hc2)).trans (if_pos hc24)) hc2 hc24
    · exact rm1_tt l Z a0 hw ws ak lo hi pn mn mx t h0 n0 Z0 F_min F_max E_ak ht r ((hr0.trans (if_pos hc2)).trans (if_neg hc24)) hc2 hc24
  · by_cases hc7 : pn = hi
    · by_cases hc24 : t = (1 : Int32)
      · exact rm1_fff l Z a0 hw ws ak lo hi pn mn mx t h0 n0 Z0 F_min F_max E_ak ht r (((hr0.trans (if_neg hc2)).trans (if_pos hc7)).trans (if_pos hc24)) hc2 hc7 hc24
      · exact rm1_fft l Z a0 hw ws ak lo hi pn mn mx t h0 n0 Z0 F_min F_max E_ak ht r (((hr0.trans (if_neg hc2)).trans (if_pos hc7)).trans (if_neg hc24)) hc2 hc7 hc24
    · by_cases hc24 : t = (0 : Int32)
      · exact rm1_ftf l Z a0 hw ws ak lo hi pn mn mx t h0 n0 Z0 F_min F_max E_ak ht r (((hr0.trans (if_neg hc2)).trans (if_neg hc7)).trans (if_pos hc24)) hc2 hc7 hc24
      · exact rm1_ftt l Z a0 hw ws ak lo hi pn mn mx t h0 n0 Z0 F_min F_max E_ak ht r (((hr0.trans (if_neg hc2)).trans (if_neg hc7)).trans (if_neg hc24)) hc2 hc7 hc24
theorem own_chk_1_1 (pn : Int32) : (1 : Int32) = (if pn = (1 : Int32) then (if (if pn < (1 : Int32) then (0 : Int32) else (if (1 : Int32) < pn then (0 : Int32) else (1 : Int32))) = (1 : Int32) then (1 : Int32) else (0 : Int32)) else (if pn = (1 : Int32) then (if (if pn < (1 : Int32) then (0 : Int32) else (if (1 : Int32) < pn then (0 : Int32) else (1 : Int32))) = (1 : Int32) then (1 : Int32) else (0 : Int32)) else (if (if pn < (1 : Int32) then (0 : Int32) else (if (1 : Int32) < pn then (0 : Int32) else (1 : Int32))) = (0 : Int32) then (1 : Int32) else (0 : Int32)))) := by
  have q1 : (1 : Int32).toInt = 1 := by decide
  have q2 : (1 : Int32).toInt = 1 := by decide
  simp only [← Int32.toInt_inj, Int32.lt_iff_toInt_lt, q1, q2]
  repeat' split
  all_goals first | rfl | (exfalso; simp_all; done) | (exfalso; omega)
theorem own_chk_2_2 (pn : Int32) : (1 : Int32) = (if pn = (2 : Int32) then (if (if pn < (2 : Int32) then (0 : Int32) else (if (2 : Int32) < pn then (0 : Int32) else (1 : Int32))) = (1 : Int32) then (1 : Int32) else (0 : Int32)) else (if pn = (2 : Int32) then (if (if pn < (2 : Int32) then (0 : Int32) else (if (2 : Int32) < pn then (0 : Int32) else (1 : Int32))) = (1 : Int32) then (1 : Int32) else (0 : Int32)) else (if (if pn < (2 : Int32) then (0 : Int32) else (if (2 : Int32) < pn then (0 : Int32) else (1 : Int32))) = (0 : Int32) then (1 : Int32) else (0 : Int32)))) := by
  have q1 : (2 : Int32).toInt = 2 := by decide
  have q2 : (2 : Int32).toInt = 2 := by decide
  simp only [← Int32.toInt_inj, Int32.lt_iff_toInt_lt, q1, q2]
  repeat' split
  all_goals first | rfl | (exfalso; simp_all; done) | (exfalso; omega)
theorem own_chk_2_3 (pn : Int32) : (1 : Int32) = (if pn = (2 : Int32) then (if (if pn < (2 : Int32) then (0 : Int32) else (if (3 : Int32) < pn then (0 : Int32) else (1 : Int32))) = (1 : Int32) then (1 : Int32) else (0 : Int32)) else (if pn = (3 : Int32) then (if (if pn < (2 : Int32) then (0 : Int32) else (if (3 : Int32) < pn then (0 : Int32) else (1 : Int32))) = (1 : Int32) then (1 : Int32) else (0 : Int32)) else (if (if pn < (2 : Int32) then (0 : Int32) else (if (3 : Int32) < pn then (0 : Int32) else (1 : Int32))) = (0 : Int32) then (1 : Int32) else (0 : Int32)))) := by
  have q1 : (2 : Int32).toInt = 2 := by decide
  have q2 : (3 : Int32).toInt = 3 := by decide
  simp only [← Int32.toInt_inj, Int32.lt_iff_toInt_lt, q1, q2]
  repeat' split
  all_goals first | rfl | (exfalso; simp_all; done) | (exfalso; omega)
theorem own_chk_3_3 (pn : Int32) : (1 : Int32) = (if pn = (3 : Int32) then (if (if pn < (3 : Int32) then (0 : Int32) else (if (3 : Int32) < pn then (0 : Int32) else (1 : Int32))) = (1 : Int32) then (1 : Int32) else (0 : Int32)) else (if pn = (3 : Int32) then (if (if pn < (3 : Int32) then (0 : Int32) else (if (3 : Int32) < pn then (0 : Int32) else (1 : Int32))) = (1 : Int32) then (1 : Int32) else (0 : Int32)) else (if (if pn < (3 : Int32) then (0 : Int32) else (if (3 : Int32) < pn then (0 : Int32) else (1 : Int32))) = (0 : Int32) then (1 : Int32) else (0 : Int32)))) := by
  have q1 : (3 : Int32).toInt = 3 := by decide
  have q2 : (3 : Int32).toInt = 3 := by decide
  simp only [← Int32.toInt_inj, Int32.lt_iff_toInt_lt, q1, q2]
  repeat' split
  all_goals first | rfl | (exfalso; simp_all; done) | (exfalso; omega)
theorem pdm_1 : parseMethodDescriptor "(Lcom/example/steward/steward/ejbql/Operand$Function;III)Z" = some ⟨[(.object "com/example/steward/steward/ejbql/Operand$Function"), .int, .int, .int], some .boolean⟩ := by decide +kernel
theorem ef_rm0 (m : MethodId) (p1 : Int32) (p2 : Int32) (p3 : Int32) : entryFrame m #[(.int p1), (.int p2), (.int p3)] maxLocals = mkF m 0 #[.val (.int p1), .val (.int p2), .val (.int p3), .unset, .unset, .unset, .unset, .unset] [] := by first | (simp [entryFrame, mkF, argsToLocals, Value.category, maxLocals]; done) | rfl
set_option maxRecDepth 65536 in
set_option maxHeartbeats 40000000 in
theorem rm0_tttttt (l : Launch) (Z : State) (a0 : Array Value) (hw : ∀ d ∈ tables_1, d.before a0 Z = true) (ws : List Jvm.Cond) (p1 : Int32) (p2 : Int32) (p3 : Int32) (w_CONCAT : Addr) (w_SUBSTRING : Addr) (w_LOCATE : Addr) (w_LENGTH : Addr) (w_ABS : Addr) (w_SQRT : Addr) (w_MOD : Addr) (h0 : Heap) (n0 : Nat) (Z0 : n0 ≤ h0.size) (S_CONCAT : Sta Z h0 "com/example/steward/steward/ejbql/Operand$Function" "CONCAT" "Lcom/example/steward/steward/ejbql/Operand$Function;" (.ref w_CONCAT)) (S_SUBSTRING : Sta Z h0 "com/example/steward/steward/ejbql/Operand$Function" "SUBSTRING" "Lcom/example/steward/steward/ejbql/Operand$Function;" (.ref w_SUBSTRING)) (S_LOCATE : Sta Z h0 "com/example/steward/steward/ejbql/Operand$Function" "LOCATE" "Lcom/example/steward/steward/ejbql/Operand$Function;" (.ref w_LOCATE)) (S_LENGTH : Sta Z h0 "com/example/steward/steward/ejbql/Operand$Function" "LENGTH" "Lcom/example/steward/steward/ejbql/Operand$Function;" (.ref w_LENGTH)) (S_ABS : Sta Z h0 "com/example/steward/steward/ejbql/Operand$Function" "ABS" "Lcom/example/steward/steward/ejbql/Operand$Function;" (.ref w_ABS)) (S_SQRT : Sta Z h0 "com/example/steward/steward/ejbql/Operand$Function" "SQRT" "Lcom/example/steward/steward/ejbql/Operand$Function;" (.ref w_SQRT)) (S_MOD : Sta Z h0 "com/example/steward/steward/ejbql/Operand$Function" "MOD" "Lcom/example/steward/steward/ejbql/Operand$Function;" (.ref w_MOD)) (E_CONCAT : Exa Z h0 w_CONCAT "com/example/steward/steward/ejbql/Operand$Function") (E_SUBSTRING : Exa Z h0 w_SUBSTRING "com/example/steward/steward/ejbql/Operand$Function") (E_LOCATE : Exa Z h0 w_LOCATE "com/example/steward/steward/ejbql/Operand$Function") (E_LENGTH : Exa Z h0 w_LENGTH "com/example/steward/steward/ejbql/Operand$Function") (E_ABS : Exa Z h0 w_ABS "com/example/steward/steward/ejbql/Operand$Function") (E_SQRT : Exa Z h0 w_SQRT "com/example/steward/steward/ejbql/Operand$Function") (E_MOD : Exa Z h0 w_MOD "com/example/steward/steward/ejbql/Operand$Function") (F_CONCAT_min : Fld Z h0 w_CONCAT "com/example/steward/steward/ejbql/Operand$Function" "minArguments" "I" (.int (2 : Int32))) (F_CONCAT_max : Fld Z h0 w_CONCAT "com/example/steward/steward/ejbql/Operand$Function" "maxArguments" "I" (.int (2 : Int32))) (F_SUBSTRING_min : Fld Z h0 w_SUBSTRING "com/example/steward/steward/ejbql/Operand$Function" "minArguments" "I" (.int (3 : Int32))) (F_SUBSTRING_max : Fld Z h0 w_SUBSTRING "com/example/steward/steward/ejbql/Operand$Function" "maxArguments" "I" (.int (3 : Int32))) (F_LOCATE_min : Fld Z h0 w_LOCATE "com/example/steward/steward/ejbql/Operand$Function" "minArguments" "I" (.int (2 : Int32))) (F_LOCATE_max : Fld Z h0 w_LOCATE "com/example/steward/steward/ejbql/Operand$Function" "maxArguments" "I" (.int (3 : Int32))) (F_LENGTH_min : Fld Z h0 w_LENGTH "com/example/steward/steward/ejbql/Operand$Function" "minArguments" "I" (.int (1 : Int32))) (F_LENGTH_max : Fld Z h0 w_LENGTH "com/example/steward/steward/ejbql/Operand$Function" "maxArguments" "I" (.int (1 : Int32))) (F_ABS_min : Fld Z h0 w_ABS "com/example/steward/steward/ejbql/Operand$Function" "minArguments" "I" (.int (1 : Int32))) (F_ABS_max : Fld Z h0 w_ABS "com/example/steward/steward/ejbql/Operand$Function" "maxArguments" "I" (.int (1 : Int32))) (F_SQRT_min : Fld Z h0 w_SQRT "com/example/steward/steward/ejbql/Operand$Function" "minArguments" "I" (.int (1 : Int32))) (F_SQRT_max : Fld Z h0 w_SQRT "com/example/steward/steward/ejbql/Operand$Function" "maxArguments" "I" (.int (1 : Int32))) (F_MOD_min : Fld Z h0 w_MOD "com/example/steward/steward/ejbql/Operand$Function" "minArguments" "I" (.int (2 : Int32))) (F_MOD_max : Fld Z h0 w_MOD "com/example/steward/steward/ejbql/Operand$Function" "maxArguments" "I" (.int (2 : Int32))) (r : Int32) (hr0 : r = (1 : Int32)) (hc9 : ¬ (((p1 &&& (2147483647 : Int32)) % (7 : Int32)) = (0 : Int32))) (hc28 : ¬ (((p1 &&& (2147483647 : Int32)) % (7 : Int32)) = (1 : Int32))) (hc47 : ¬ (((p1 &&& (2147483647 : Int32)) % (7 : Int32)) = (2 : Int32))) (hc66 : ¬ (((p1 &&& (2147483647 : Int32)) % (7 : Int32)) = (3 : Int32))) (hc85 : ¬ (((p1 &&& (2147483647 : Int32)) % (7 : Int32)) = (4 : Int32))) (hc104 : ¬ (((p1 &&& (2147483647 : Int32)) % (7 : Int32)) = (5 : Int32))) :
    MetFree l x (head1 (Jvm.Cond.code x code maxLocals ret :: ws) room_1) (fun a U => a = #[(.int p1), (.int p2), (.int p3)] ∧ Z.Warmed39 U.vm ∧ U.heap = h0) (fun _ _ _ _ _ => True) (fun _ U o U' => ∃ v L, o = .returned v ∧ QP (.int r) h0 n0 v U'.heap L ∧ FrameEnd U o U' L room_1.cells room_1.slots) := by
  subst hr0
  refine MetFree.of_bodySF (plainFor_of_name pnm_1) hisR ?_
  intro p e s m args below meth c s₁ Bd hml0 hP hK
  obtain ⟨rfl, hZ, hh⟩ := hP
  have hx := Bd.exec
  have hby := Bd.bytes
  have hml : c.maxLocals = 8 := hml0
  have hown : s.vm.findClass "com/example/steward/steward/ejbql/FunctionTakesPinLaw" = some m.cls := findClass_of_methodNamed Bd.named
  have hnm := (name_of_methodNamed Bd.named Bd.method).1
  have X0 : Stand p l e room_1 s m #[(.int p1), (.int p2), (.int p3)] below meth c s₁ [] 0 0 := Stand.of_body Bd
  have e0 : s₁.heap = h0 := by rw [← hh, Bd.state]; rfl
  have N0 := Fr.nil n0
  have pre0 : ∀ t, Steps p.tables e below (s₁.setTop (mkF m 0 #[.val (.int p1), .val (.int p2), .val (.int p3), .unset, .unset, .unset, .unset, .unset] [])) t → Steps p.tables e below (s₁.setTop (entryFrame m #[(.int p1), (.int p2), (.int p3)] maxLocals)) t := fun t k => castTop (ef_rm0 m p1 p2 p3) k
  obtain ⟨T1, X1, e1, st1⟩ := getS2 X0 hx hZ hown (host := "") (Or.inl (hw _ (List.mem_of_getElem? (i := 27) rfl))) Via.refl e0 S_MOD (g := (mkF m 121 #[.val (.int p1), .val (.int p2), .val (.int p3), .val (.int ((p1 &&& (2147483647 : Int32)) % (7 : Int32))), .unset, .unset, .unset, .unset] [])) rfl (hb hby at_121)
  obtain ⟨_, _, ⟨T2, L2, k2, n2⟩, -, X2, ⟨Lc2, hQ2, l2, y2, z2⟩, st2⟩ := Jvm.LawKit.callS X1 hx (y := (⟨"com/example/steward/steward/ejbql/FunctionTakesPinLaw", "check", "(Lcom/example/steward/steward/ejbql/Operand$Function;III)Z"⟩ : MethodName)) hown (mvT hZ (hw _ (List.mem_of_getElem? (i := 4) rfl))) (mvT hZ (hw _ (List.mem_of_getElem? (i := 5) rfl))) (mvT hZ (hw _ (List.mem_of_getElem? (i := 6) rfl))) (mvT hZ (hw _ (List.mem_of_getElem? (i := 7) rfl))) (by decide) (backOf (W := 0) (rm1 l Z a0 hw [] w_MOD (2 : Int32) (2 : Int32) p2 (2 : Int32) (2 : Int32) (if p2 < (2 : Int32) then (0 : Int32) else (if (2 : Int32) < p2 then (0 : Int32) else (1 : Int32))) h0 n0 Z0 F_MOD_min F_MOD_max E_MOD rfl (1 : Int32) (own_chk_2_2 p2)) hZ (hw _ (List.mem_of_getElem? (i := 7) rfl)) (hw _ (List.mem_of_getElem? (i := 6) rfl)) (by decide) (by decide)) (g := (mkF m 147 #[.val (.int p1), .val (.int p2), .val (.int p3), .val (.int ((p1 &&& (2147483647 : Int32)) % (7 : Int32))), .val (.ref w_MOD), .val (.int (2 : Int32)), .val (.int (2 : Int32)), .val (.int ((p3 &&& (7 : Int32)) - (2 : Int32)))] [(.int p2), (.int (2 : Int32)), (.int (2 : Int32)), (.ref w_MOD)])) rfl (by rw [hml]; rfl) (argsL := [(.ref w_MOD), (.int (2 : Int32)), (.int (2 : Int32)), (.int p2)]) (rest := []) (lenOf pdm_1 rfl) rfl (by show 2 * 0 + _ ≤ _; exact Nat.le_of_eq rfl) (hb hby at_147) (fun _ _ => ⟨rfl, e1, (by decide : 0 + 0 ≤ _), (by decide : 0 + 0 ≤ _)⟩)
  dsimp only [Pt.U, Pt.locs, Pt.cells, Pt.slots] at X2 l2 y2 z2 st2 hQ2
  subst l2 y2 z2
  obtain ⟨rfl, N2q, e2⟩ := hQ2
  have N2 := Fr.app N0 N2q
  obtain ⟨_, _, ⟨T3, L3, k3, n3⟩, -, X3, ⟨Lc3, hQ3, l3, y3, z3⟩, st3⟩ := Jvm.LawKit.callS X2 hx (y := (⟨"com/example/steward/steward/ejbql/FunctionTakesPinLaw", "check", "(Lcom/example/steward/steward/ejbql/Operand$Function;III)Z"⟩ : MethodName)) hown (mvT hZ (hw _ (List.mem_of_getElem? (i := 4) rfl))) (mvT hZ (hw _ (List.mem_of_getElem? (i := 5) rfl))) (mvT hZ (hw _ (List.mem_of_getElem? (i := 6) rfl))) (mvT hZ (hw _ (List.mem_of_getElem? (i := 7) rfl))) (by decide) (backOf (W := 0) (rm1 l Z a0 hw [] w_MOD (2 : Int32) (2 : Int32) ((p3 &&& (7 : Int32)) - (2 : Int32)) (2 : Int32) (2 : Int32) (if ((p3 &&& (7 : Int32)) - (2 : Int32)) < (2 : Int32) then (0 : Int32) else (if (2 : Int32) < ((p3 &&& (7 : Int32)) - (2 : Int32)) then (0 : Int32) else (1 : Int32))) h0 n0 Z0 F_MOD_min F_MOD_max E_MOD rfl (1 : Int32) (own_chk_2_2 ((p3 &&& (7 : Int32)) - (2 : Int32)))) hZ (hw _ (List.mem_of_getElem? (i := 7) rfl)) (hw _ (List.mem_of_getElem? (i := 6) rfl)) (by decide) (by decide)) (g := (mkF m 161 #[.val (.int p1), .val (.int p2), .val (.int p3), .val (.int ((p1 &&& (2147483647 : Int32)) % (7 : Int32))), .val (.ref w_MOD), .val (.int (2 : Int32)), .val (.int (2 : Int32)), .val (.int ((p3 &&& (7 : Int32)) - (2 : Int32)))] [(.int ((p3 &&& (7 : Int32)) - (2 : Int32))), (.int (2 : Int32)), (.int (2 : Int32)), (.ref w_MOD)])) rfl (by rw [hml]; rfl) (argsL := [(.ref w_MOD), (.int (2 : Int32)), (.int (2 : Int32)), (.int ((p3 &&& (7 : Int32)) - (2 : Int32)))]) (rest := []) (lenOf pdm_1 rfl) rfl (by show 2 * 0 + _ ≤ _; exact Nat.le_of_eq rfl) (hb hby at_161) (fun _ _ => ⟨rfl, e2, (by decide : 0 + 0 ≤ _), (by decide : 0 + 0 ≤ _)⟩)
  dsimp only [Pt.U, Pt.locs, Pt.cells, Pt.slots] at X3 l3 y3 z3 st3 hQ3
  subst l3 y3 z3
  obtain ⟨rfl, N3q, e3⟩ := hQ3
  have N3 := Fr.app N2 N3q
  obtain ⟨fs, hr, hrun, hended, hW, hsame⟩ := X3.leave (v := some (.int (1 : Int32))) (fun h => by rw [Bd.returns] at h; cases h)
  refine ⟨_, _, pre0 _ ?_, hrun, hended, _, _, rfl, ?_, ⟨_, rfl⟩, hW, hsame.mono (by decide) (by decide)⟩
  · show Steps p.tables e below (s₁.setTop (mkF m 0 #[.val (.int p1), .val (.int p2), .val (.int p3), .unset, .unset, .unset, .unset, .unset] [])) _
    refine XS.iloadN X0.here hx rfl (hb hby at_0) rfl ?_
    show Steps p.tables e below (s₁.setTop (mkF m 1 #[.val (.int p1), .val (.int p2), .val (.int p3), .unset, .unset, .unset, .unset, .unset] [(.int p1)])) _
    refine X0.ldcInt hx hown (mvT hZ (hw _ (List.mem_of_getElem? (i := 0) rfl))) (g := (mkF m 1 #[.val (.int p1), .val (.int p2), .val (.int p3), .unset, .unset, .unset, .unset, .unset] [(.int p1)])) rfl (hb hby at_1) _ ?_
    show Steps p.tables e below (s₁.setTop (mkF m 3 #[.val (.int p1), .val (.int p2), .val (.int p3), .unset, .unset, .unset, .unset, .unset] [(.int (2147483647 : Int32)), (.int p1)])) _
    refine XS.iand X0.here hx rfl (hb hby at_3) rfl ?_
    show Steps p.tables e below (s₁.setTop (mkF m 4 #[.val (.int p1), .val (.int p2), .val (.int p3), .unset, .unset, .unset, .unset, .unset] [(.int (p1 &&& (2147483647 : Int32)))])) _
    refine XS.bipush X0.here hx rfl (hb hby at_4) ?_
    show Steps p.tables e below (s₁.setTop (mkF m 6 #[.val (.int p1), .val (.int p2), .val (.int p3), .unset, .unset, .unset, .unset, .unset] [(.int (7 : Int32)), (.int (p1 &&& (2147483647 : Int32)))])) _
    refine iremM X0 hx rfl (hb hby at_6) rfl (by decide) ?_
    show Steps p.tables e below (s₁.setTop (mkF m 7 #[.val (.int p1), .val (.int p2), .val (.int p3), .unset, .unset, .unset, .unset, .unset] [(.int ((p1 &&& (2147483647 : Int32)) % (7 : Int32)))])) _
    refine XS.istoreN X0.here hx rfl (hb hby at_7) rfl (l' := #[.val (.int p1), .val (.int p2), .val (.int p3), .val (.int ((p1 &&& (2147483647 : Int32)) % (7 : Int32))), .unset, .unset, .unset, .unset]) rfl ?_
    show Steps p.tables e below (s₁.setTop (mkF m 8 #[.val (.int p1), .val (.int p2), .val (.int p3), .val (.int ((p1 &&& (2147483647 : Int32)) % (7 : Int32))), .unset, .unset, .unset, .unset] [])) _
    refine XS.iloadN X0.here hx rfl (hb hby at_8) rfl ?_
    show Steps p.tables e below (s₁.setTop (mkF m 9 #[.val (.int p1), .val (.int p2), .val (.int p3), .val (.int ((p1 &&& (2147483647 : Int32)) % (7 : Int32))), .unset, .unset, .unset, .unset] [(.int ((p1 &&& (2147483647 : Int32)) % (7 : Int32)))])) _
    refine XS.ifYes X0.here hx rfl (pc0 := 9) (pc' := 26) rfl (hb hby at_9) rfl ((if0 _ _).trans (feq hc9).2) (by decide) (by decide) ?_
    show Steps p.tables e below (s₁.setTop (mkF m 26 #[.val (.int p1), .val (.int p2), .val (.int p3), .val (.int ((p1 &&& (2147483647 : Int32)) % (7 : Int32))), .unset, .unset, .unset, .unset] [])) _
    refine XS.iloadN X0.here hx rfl (hb hby at_26) rfl ?_
    show Steps p.tables e below (s₁.setTop (mkF m 27 #[.val (.int p1), .val (.int p2), .val (.int p3), .val (.int ((p1 &&& (2147483647 : Int32)) % (7 : Int32))), .unset, .unset, .unset, .unset] [(.int ((p1 &&& (2147483647 : Int32)) % (7 : Int32)))])) _
    refine XS.iconst X0.here hx rfl (hb hby at_27) ?_
    show Steps p.tables e below (s₁.setTop (mkF m 28 #[.val (.int p1), .val (.int p2), .val (.int p3), .val (.int ((p1 &&& (2147483647 : Int32)) % (7 : Int32))), .unset, .unset, .unset, .unset] [(.int (1 : Int32)), (.int ((p1 &&& (2147483647 : Int32)) % (7 : Int32)))])) _
    refine XS.icmpYes X0.here hx rfl (pc0 := 28) (pc' := 45) rfl (hb hby at_28) rfl (feq hc28).2 (by decide) (by decide) ?_
    show Steps p.tables e below (s₁.setTop (mkF m 45 #[.val (.int p1), .val (.int p2), .val (.int p3), .val (.int ((p1 &&& (2147483647 : Int32)) % (7 : Int32))), .unset, .unset, .unset, .unset] [])) _
    refine XS.iloadN X0.here hx rfl (hb hby at_45) rfl ?_
    show Steps p.tables e below (s₁.setTop (mkF m 46 #[.val (.int p1), .val (.int p2), .val (.int p3), .val (.int ((p1 &&& (2147483647 : Int32)) % (7 : Int32))), .unset, .unset, .unset, .unset] [(.int ((p1 &&& (2147483647 : Int32)) % (7 : Int32)))])) _
    refine XS.iconst X0.here hx rfl (hb hby at_46) ?_
    show Steps p.tables e below (s₁.setTop (mkF m 47 #[.val (.int p1), .val (.int p2), .val (.int p3), .val (.int ((p1 &&& (2147483647 : Int32)) % (7 : Int32))), .unset, .unset, .unset, .unset] [(.int (2 : Int32)), (.int ((p1 &&& (2147483647 : Int32)) % (7 : Int32)))])) _
    refine XS.icmpYes X0.here hx rfl (pc0 := 47) (pc' := 64) rfl (hb hby at_47) rfl (feq hc47).2 (by decide) (by decide) ?_
    show Steps p.tables e below (s₁.setTop (mkF m 64 #[.val (.int p1), .val (.int p2), .val (.int p3), .val (.int ((p1 &&& (2147483647 : Int32)) % (7 : Int32))), .unset, .unset, .unset, .unset] [])) _
    refine XS.iloadN X0.here hx rfl (hb hby at_64) rfl ?_
    show Steps p.tables e below (s₁.setTop (mkF m 65 #[.val (.int p1), .val (.int p2), .val (.int p3), .val (.int ((p1 &&& (2147483647 : Int32)) % (7 : Int32))), .unset, .unset, .unset, .unset] [(.int ((p1 &&& (2147483647 : Int32)) % (7 : Int32)))])) _
    refine XS.iconst X0.here hx rfl (hb hby at_65) ?_
    show Steps p.tables e below (s₁.setTop (mkF m 66 #[.val (.int p1), .val (.int p2), .val (.int p3), .val (.int ((p1 &&& (2147483647 : Int32)) % (7 : Int32))), .unset, .unset, .unset, .unset] [(.int (3 : Int32)), (.int ((p1 &&& (2147483647 : Int32)) % (7 : Int32)))])) _
    refine XS.icmpYes X0.here hx rfl (pc0 := 66) (pc' := 83) rfl (hb hby at_66) rfl (feq hc66).2 (by decide) (by decide) ?_
    show Steps p.tables e below (s₁.setTop (mkF m 83 #[.val (.int p1), .val (.int p2), .val (.int p3), .val (.int ((p1 &&& (2147483647 : Int32)) % (7 : Int32))), .unset, .unset, .unset, .unset] [])) _
    refine XS.iloadN X0.here hx rfl (hb hby at_83) rfl ?_
    show Steps p.tables e below (s₁.setTop (mkF m 84 #[.val (.int p1), .val (.int p2), .val (.int p3), .val (.int ((p1 &&& (2147483647 : Int32)) % (7 : Int32))), .unset, .unset, .unset, .unset] [(.int ((p1 &&& (2147483647 : Int32)) % (7 : Int32)))])) _
    refine XS.iconst X0.here hx rfl (hb hby at_84) ?_
    show Steps p.tables e below (s₁.setTop (mkF m 85 #[.val (.int p1), .val (.int p2), .val (.int p3), .val (.int ((p1 &&& (2147483647 : Int32)) % (7 : Int32))), .unset, .unset, .unset, .unset] [(.int (4 : Int32)), (.int ((p1 &&& (2147483647 : Int32)) % (7 : Int32)))])) _
    refine XS.icmpYes X0.here hx rfl (pc0 := 85) (pc' := 102) rfl (hb hby at_85) rfl (feq hc85).2 (by decide) (by decide) ?_
    show Steps p.tables e below (s₁.setTop (mkF m 102 #[.val (.int p1), .val (.int p2), .val (.int p3), .val (.int ((p1 &&& (2147483647 : Int32)) % (7 : Int32))), .unset, .unset, .unset, .unset] [])) _
    refine XS.iloadN X0.here hx rfl (hb hby at_102) rfl ?_
    show Steps p.tables e below (s₁.setTop (mkF m 103 #[.val (.int p1), .val (.int p2), .val (.int p3), .val (.int ((p1 &&& (2147483647 : Int32)) % (7 : Int32))), .unset, .unset, .unset, .unset] [(.int ((p1 &&& (2147483647 : Int32)) % (7 : Int32)))])) _
    refine XS.iconst X0.here hx rfl (hb hby at_103) ?_
    show Steps p.tables e below (s₁.setTop (mkF m 104 #[.val (.int p1), .val (.int p2), .val (.int p3), .val (.int ((p1 &&& (2147483647 : Int32)) % (7 : Int32))), .unset, .unset, .unset, .unset] [(.int (5 : Int32)), (.int ((p1 &&& (2147483647 : Int32)) % (7 : Int32)))])) _
    refine XS.icmpYes X0.here hx rfl (pc0 := 104) (pc' := 121) rfl (hb hby at_104) rfl (feq hc104).2 (by decide) (by decide) ?_
    show Steps p.tables e below (s₁.setTop (mkF m 121 #[.val (.int p1), .val (.int p2), .val (.int p3), .val (.int ((p1 &&& (2147483647 : Int32)) % (7 : Int32))), .unset, .unset, .unset, .unset] [])) _
    refine st1 _ ?_
    show Steps p.tables e below (T1.setTop (mkF m 124 #[.val (.int p1), .val (.int p2), .val (.int p3), .val (.int ((p1 &&& (2147483647 : Int32)) % (7 : Int32))), .unset, .unset, .unset, .unset] [(.ref w_MOD)])) _
    refine XS.astore X1.here hx rfl (hb hby at_124) rfl rfl (l' := #[.val (.int p1), .val (.int p2), .val (.int p3), .val (.int ((p1 &&& (2147483647 : Int32)) % (7 : Int32))), .val (.ref w_MOD), .unset, .unset, .unset]) rfl ?_
    show Steps p.tables e below (T1.setTop (mkF m 126 #[.val (.int p1), .val (.int p2), .val (.int p3), .val (.int ((p1 &&& (2147483647 : Int32)) % (7 : Int32))), .val (.ref w_MOD), .unset, .unset, .unset] [])) _
    refine XS.iconst X1.here hx rfl (hb hby at_126) ?_
    show Steps p.tables e below (T1.setTop (mkF m 127 #[.val (.int p1), .val (.int p2), .val (.int p3), .val (.int ((p1 &&& (2147483647 : Int32)) % (7 : Int32))), .val (.ref w_MOD), .unset, .unset, .unset] [(.int (2 : Int32))])) _
    refine XS.istore X1.here hx rfl (hb hby at_127) rfl (l' := #[.val (.int p1), .val (.int p2), .val (.int p3), .val (.int ((p1 &&& (2147483647 : Int32)) % (7 : Int32))), .val (.ref w_MOD), .val (.int (2 : Int32)), .unset, .unset]) rfl ?_
    show Steps p.tables e below (T1.setTop (mkF m 129 #[.val (.int p1), .val (.int p2), .val (.int p3), .val (.int ((p1 &&& (2147483647 : Int32)) % (7 : Int32))), .val (.ref w_MOD), .val (.int (2 : Int32)), .unset, .unset] [])) _
    refine XS.iconst X1.here hx rfl (hb hby at_129) ?_
    show Steps p.tables e below (T1.setTop (mkF m 130 #[.val (.int p1), .val (.int p2), .val (.int p3), .val (.int ((p1 &&& (2147483647 : Int32)) % (7 : Int32))), .val (.ref w_MOD), .val (.int (2 : Int32)), .unset, .unset] [(.int (2 : Int32))])) _
    refine XS.istore X1.here hx rfl (hb hby at_130) rfl (l' := #[.val (.int p1), .val (.int p2), .val (.int p3), .val (.int ((p1 &&& (2147483647 : Int32)) % (7 : Int32))), .val (.ref w_MOD), .val (.int (2 : Int32)), .val (.int (2 : Int32)), .unset]) rfl ?_
    show Steps p.tables e below (T1.setTop (mkF m 132 #[.val (.int p1), .val (.int p2), .val (.int p3), .val (.int ((p1 &&& (2147483647 : Int32)) % (7 : Int32))), .val (.ref w_MOD), .val (.int (2 : Int32)), .val (.int (2 : Int32)), .unset] [])) _
    refine XS.iloadN X1.here hx rfl (hb hby at_132) rfl ?_
    show Steps p.tables e below (T1.setTop (mkF m 133 #[.val (.int p1), .val (.int p2), .val (.int p3), .val (.int ((p1 &&& (2147483647 : Int32)) % (7 : Int32))), .val (.ref w_MOD), .val (.int (2 : Int32)), .val (.int (2 : Int32)), .unset] [(.int p3)])) _
    refine XS.bipush X1.here hx rfl (hb hby at_133) ?_
    show Steps p.tables e below (T1.setTop (mkF m 135 #[.val (.int p1), .val (.int p2), .val (.int p3), .val (.int ((p1 &&& (2147483647 : Int32)) % (7 : Int32))), .val (.ref w_MOD), .val (.int (2 : Int32)), .val (.int (2 : Int32)), .unset] [(.int (7 : Int32)), (.int p3)])) _
    refine XS.iand X1.here hx rfl (hb hby at_135) rfl ?_
    show Steps p.tables e below (T1.setTop (mkF m 136 #[.val (.int p1), .val (.int p2), .val (.int p3), .val (.int ((p1 &&& (2147483647 : Int32)) % (7 : Int32))), .val (.ref w_MOD), .val (.int (2 : Int32)), .val (.int (2 : Int32)), .unset] [(.int (p3 &&& (7 : Int32)))])) _
    refine XS.iconst X1.here hx rfl (hb hby at_136) ?_
    show Steps p.tables e below (T1.setTop (mkF m 137 #[.val (.int p1), .val (.int p2), .val (.int p3), .val (.int ((p1 &&& (2147483647 : Int32)) % (7 : Int32))), .val (.ref w_MOD), .val (.int (2 : Int32)), .val (.int (2 : Int32)), .unset] [(.int (2 : Int32)), (.int (p3 &&& (7 : Int32)))])) _
    refine XS.isub X1.here hx rfl (hb hby at_137) rfl ?_
    show Steps p.tables e below (T1.setTop (mkF m 138 #[.val (.int p1), .val (.int p2), .val (.int p3), .val (.int ((p1 &&& (2147483647 : Int32)) % (7 : Int32))), .val (.ref w_MOD), .val (.int (2 : Int32)), .val (.int (2 : Int32)), .unset] [(.int ((p3 &&& (7 : Int32)) - (2 : Int32)))])) _
    refine XS.istore X1.here hx rfl (hb hby at_138) rfl (l' := #[.val (.int p1), .val (.int p2), .val (.int p3), .val (.int ((p1 &&& (2147483647 : Int32)) % (7 : Int32))), .val (.ref w_MOD), .val (.int (2 : Int32)), .val (.int (2 : Int32)), .val (.int ((p3 &&& (7 : Int32)) - (2 : Int32)))]) rfl ?_
    show Steps p.tables e below (T1.setTop (mkF m 140 #[.val (.int p1), .val (.int p2), .val (.int p3), .val (.int ((p1 &&& (2147483647 : Int32)) % (7 : Int32))), .val (.ref w_MOD), .val (.int (2 : Int32)), .val (.int (2 : Int32)), .val (.int ((p3 &&& (7 : Int32)) - (2 : Int32)))] [])) _
    refine XS.aload X1.here hx rfl (hb hby at_140) rfl rfl ?_
    show Steps p.tables e below (T1.setTop (mkF m 142 #[.val (.int p1), .val (.int p2), .val (.int p3), .val (.int ((p1 &&& (2147483647 : Int32)) % (7 : Int32))), .val (.ref w_MOD), .val (.int (2 : Int32)), .val (.int (2 : Int32)), .val (.int ((p3 &&& (7 : Int32)) - (2 : Int32)))] [(.ref w_MOD)])) _
    refine XS.iload X1.here hx rfl (hb hby at_142) rfl ?_
    show Steps p.tables e below (T1.setTop (mkF m 144 #[.val (.int p1), .val (.int p2), .val (.int p3), .val (.int ((p1 &&& (2147483647 : Int32)) % (7 : Int32))), .val (.ref w_MOD), .val (.int (2 : Int32)), .val (.int (2 : Int32)), .val (.int ((p3 &&& (7 : Int32)) - (2 : Int32)))] [(.int (2 : Int32)), (.ref w_MOD)])) _
    refine XS.iload X1.here hx rfl (hb hby at_144) rfl ?_
    show Steps p.tables e below (T1.setTop (mkF m 146 #[.val (.int p1), .val (.int p2), .val (.int p3), .val (.int ((p1 &&& (2147483647 : Int32)) % (7 : Int32))), .val (.ref w_MOD), .val (.int (2 : Int32)), .val (.int (2 : Int32)), .val (.int ((p3 &&& (7 : Int32)) - (2 : Int32)))] [(.int (2 : Int32)), (.int (2 : Int32)), (.ref w_MOD)])) _
    refine XS.iloadN X1.here hx rfl (hb hby at_146) rfl ?_
    show Steps p.tables e below (T1.setTop (mkF m 147 #[.val (.int p1), .val (.int p2), .val (.int p3), .val (.int ((p1 &&& (2147483647 : Int32)) % (7 : Int32))), .val (.ref w_MOD), .val (.int (2 : Int32)), .val (.int (2 : Int32)), .val (.int ((p3 &&& (7 : Int32)) - (2 : Int32)))] [(.int p2), (.int (2 : Int32)), (.int (2 : Int32)), (.ref w_MOD)])) _
    refine st2 _ ?_
    show Steps p.tables e below (T2.setTop (mkF m 150 #[.val (.int p1), .val (.int p2), .val (.int p3), .val (.int ((p1 &&& (2147483647 : Int32)) % (7 : Int32))), .val (.ref w_MOD), .val (.int (2 : Int32)), .val (.int (2 : Int32)), .val (.int ((p3 &&& (7 : Int32)) - (2 : Int32)))] [(.int (1 : Int32))])) _
    refine XS.ifNo X2.here hx rfl (hb hby at_150) rfl ((if0 _ _).trans (feq (by decide : ¬ ((1 : Int32) = (0 : Int32)))).1) ?_
    show Steps p.tables e below (T2.setTop (mkF m 153 #[.val (.int p1), .val (.int p2), .val (.int p3), .val (.int ((p1 &&& (2147483647 : Int32)) % (7 : Int32))), .val (.ref w_MOD), .val (.int (2 : Int32)), .val (.int (2 : Int32)), .val (.int ((p3 &&& (7 : Int32)) - (2 : Int32)))] [])) _
    refine XS.aload X2.here hx rfl (hb hby at_153) rfl rfl ?_
    show Steps p.tables e below (T2.setTop (mkF m 155 #[.val (.int p1), .val (.int p2), .val (.int p3), .val (.int ((p1 &&& (2147483647 : Int32)) % (7 : Int32))), .val (.ref w_MOD), .val (.int (2 : Int32)), .val (.int (2 : Int32)), .val (.int ((p3 &&& (7 : Int32)) - (2 : Int32)))] [(.ref w_MOD)])) _
    refine XS.iload X2.here hx rfl (hb hby at_155) rfl ?_
    show Steps p.tables e below (T2.setTop (mkF m 157 #[.val (.int p1), .val (.int p2), .val (.int p3), .val (.int ((p1 &&& (2147483647 : Int32)) % (7 : Int32))), .val (.ref w_MOD), .val (.int (2 : Int32)), .val (.int (2 : Int32)), .val (.int ((p3 &&& (7 : Int32)) - (2 : Int32)))] [(.int (2 : Int32)), (.ref w_MOD)])) _
    refine XS.iload X2.here hx rfl (hb hby at_157) rfl ?_
    show Steps p.tables e below (T2.setTop (mkF m 159 #[.val (.int p1), .val (.int p2), .val (.int p3), .val (.int ((p1 &&& (2147483647 : Int32)) % (7 : Int32))), .val (.ref w_MOD), .val (.int (2 : Int32)), .val (.int (2 : Int32)), .val (.int ((p3 &&& (7 : Int32)) - (2 : Int32)))] [(.int (2 : Int32)), (.int (2 : Int32)), (.ref w_MOD)])) _
    refine XS.iload X2.here hx rfl (hb hby at_159) rfl ?_
    show Steps p.tables e below (T2.setTop (mkF m 161 #[.val (.int p1), .val (.int p2), .val (.int p3), .val (.int ((p1 &&& (2147483647 : Int32)) % (7 : Int32))), .val (.ref w_MOD), .val (.int (2 : Int32)), .val (.int (2 : Int32)), .val (.int ((p3 &&& (7 : Int32)) - (2 : Int32)))] [(.int ((p3 &&& (7 : Int32)) - (2 : Int32))), (.int (2 : Int32)), (.int (2 : Int32)), (.ref w_MOD)])) _
    refine st3 _ ?_
    show Steps p.tables e below (T3.setTop (mkF m 164 #[.val (.int p1), .val (.int p2), .val (.int p3), .val (.int ((p1 &&& (2147483647 : Int32)) % (7 : Int32))), .val (.ref w_MOD), .val (.int (2 : Int32)), .val (.int (2 : Int32)), .val (.int ((p3 &&& (7 : Int32)) - (2 : Int32)))] [(.int (1 : Int32))])) _
    refine XS.ifNo X3.here hx rfl (hb hby at_164) rfl ((if0 _ _).trans (feq (by decide : ¬ ((1 : Int32) = (0 : Int32)))).1) ?_
    show Steps p.tables e below (T3.setTop (mkF m 167 #[.val (.int p1), .val (.int p2), .val (.int p3), .val (.int ((p1 &&& (2147483647 : Int32)) % (7 : Int32))), .val (.ref w_MOD), .val (.int (2 : Int32)), .val (.int (2 : Int32)), .val (.int ((p3 &&& (7 : Int32)) - (2 : Int32)))] [])) _
    refine XS.iconst X3.here hx rfl (hb hby at_167) ?_
    show Steps p.tables e below (T3.setTop (mkF m 168 #[.val (.int p1), .val (.int p2), .val (.int p3), .val (.int ((p1 &&& (2147483647 : Int32)) % (7 : Int32))), .val (.ref w_MOD), .val (.int (2 : Int32)), .val (.int (2 : Int32)), .val (.int ((p3 &&& (7 : Int32)) - (2 : Int32)))] [(.int (1 : Int32))])) _
    refine XS.goto X3.here hx rfl (pc0 := 168) (pc' := 172) rfl (hb hby at_168) (by decide) (by decide) ?_
    show Steps p.tables e below (T3.setTop (mkF m 172 #[.val (.int p1), .val (.int p2), .val (.int p3), .val (.int ((p1 &&& (2147483647 : Int32)) % (7 : Int32))), .val (.ref w_MOD), .val (.int (2 : Int32)), .val (.int (2 : Int32)), .val (.int ((p3 &&& (7 : Int32)) - (2 : Int32)))] [(.int (1 : Int32))])) _
    exact retN X3 hx (t := .boolean) Bd.returns (by simp) (hb hby at_172) hr
  · show QP (.int (1 : Int32)) h0 n0 _ T3.heap _
    rw [e3]
    exact ⟨rfl, N3, rfl⟩
set_option maxRecDepth 65536 in
set_option maxHeartbeats 40000000 in
theorem rm0_tttttf (l : Launch) (Z : State) (a0 : Array Value) (hw : ∀ d ∈ tables_1, d.before a0 Z = true) (ws : List Jvm.Cond) (p1 : Int32) (p2 : Int32) (p3 : Int32) (w_CONCAT : Addr) (w_SUBSTRING : Addr) (w_LOCATE : Addr) (w_LENGTH : Addr) (w_ABS : Addr) (w_SQRT : Addr) (w_MOD : Addr) (h0 : Heap) (n0 : Nat) (Z0 : n0 ≤ h0.size) (S_CONCAT : Sta Z h0 "com/example/steward/steward/ejbql/Operand$Function" "CONCAT" "Lcom/example/steward/steward/ejbql/Operand$Function;" (.ref w_CONCAT)) (S_SUBSTRING : Sta Z h0 "com/example/steward/steward/ejbql/Operand$Function" "SUBSTRING" "Lcom/example/steward/steward/ejbql/Operand$Function;" (.ref w_SUBSTRING)) (S_LOCATE : Sta Z h0 "com/example/steward/steward/ejbql/Operand$Function" "LOCATE" "Lcom/example/steward/steward/ejbql/Operand$Function;" (.ref w_LOCATE)) (S_LENGTH : Sta Z h0 "com/example/steward/steward/ejbql/Operand$Function" "LENGTH" "Lcom/example/steward/steward/ejbql/Operand$Function;" (.ref w_LENGTH)) (S_ABS : Sta Z h0 "com/example/steward/steward/ejbql/Operand$Function" "ABS" "Lcom/example/steward/steward/ejbql/Operand$Function;" (.ref w_ABS)) (S_SQRT : Sta Z h0 "com/example/steward/steward/ejbql/Operand$Function" "SQRT" "Lcom/example/steward/steward/ejbql/Operand$Function;" (.ref w_SQRT)) (S_MOD : Sta Z h0 "com/example/steward/steward/ejbql/Operand$Function" "MOD" "Lcom/example/steward/steward/ejbql/Operand$Function;" (.ref w_MOD)) (E_CONCAT : Exa Z h0 w_CONCAT "com/example/steward/steward/ejbql/Operand$Function") (E_SUBSTRING : Exa Z h0 w_SUBSTRING "com/example/steward/steward/ejbql/Operand$Function") (E_LOCATE : Exa Z h0 w_LOCATE "com/example/steward/steward/ejbql/Operand$Function") (E_LENGTH : Exa Z h0 w_LENGTH "com/example/steward/steward/ejbql/Operand$Function") (E_ABS : Exa Z h0 w_ABS "com/example/steward/steward/ejbql/Operand$Function") (E_SQRT : Exa Z h0 w_SQRT "com/example/steward/steward/ejbql/Operand$Function") (E_MOD : Exa Z h0 w_MOD "com/example/steward/steward/ejbql/Operand$Function") (F_CONCAT_min : Fld Z h0 w_CONCAT "com/example/steward/steward/ejbql/Operand$Function" "minArguments" "I" (.int (2 : Int32))) (F_CONCAT_max : Fld Z h0 w_CONCAT "com/example/steward/steward/ejbql/Operand$Function" "maxArguments" "I" (.int (2 : Int32))) (F_SUBSTRING_min : Fld Z h0 w_SUBSTRING "com/example/steward/steward/ejbql/Operand$Function" "minArguments" "I" (.int (3 : Int32))) (F_SUBSTRING_max : Fld Z h0 w_SUBSTRING "com/example/steward/steward/ejbql/Operand$Function" "maxArguments" "I" (.int (3 : Int32))) (F_LOCATE_min : Fld Z h0 w_LOCATE "com/example/steward/steward/ejbql/Operand$Function" "minArguments" "I" (.int (2 : Int32))) (F_LOCATE_max : Fld Z h0 w_LOCATE "com/example/steward/steward/ejbql/Operand$Function" "maxArguments" "I" (.int (3 : Int32))) (F_LENGTH_min : Fld Z h0 w_LENGTH "com/example/steward/steward/ejbql/Operand$Function" "minArguments" "I" (.int (1 : Int32))) (F_LENGTH_max : Fld Z h0 w_LENGTH "com/example/steward/steward/ejbql/Operand$Function" "maxArguments" "I" (.int (1 : Int32))) (F_ABS_min : Fld Z h0 w_ABS "com/example/steward/steward/ejbql/Operand$Function" "minArguments" "I" (.int (1 : Int32))) (F_ABS_max : Fld Z h0 w_ABS "com/example/steward/steward/ejbql/Operand$Function" "maxArguments" "I" (.int (1 : Int32))) (F_SQRT_min : Fld Z h0 w_SQRT "com/example/steward/steward/ejbql/Operand$Function" "minArguments" "I" (.int (1 : Int32))) (F_SQRT_max : Fld Z h0 w_SQRT "com/example/steward/steward/ejbql/Operand$Function" "maxArguments" "I" (.int (1 : Int32))) (F_MOD_min : Fld Z h0 w_MOD "com/example/steward/steward/ejbql/Operand$Function" "minArguments" "I" (.int (2 : Int32))) (F_MOD_max : Fld Z h0 w_MOD "com/example/steward/steward/ejbql/Operand$Function" "maxArguments" "I" (.int (2 : Int32))) (r : Int32) (hr0 : r = (1 : Int32)) (hc9 : ¬ (((p1 &&& (2147483647 : Int32)) % (7 : Int32)) = (0 : Int32))) (hc28 : ¬ (((p1 &&& (2147483647 : Int32)) % (7 : Int32)) = (1 : Int32))) (hc47 : ¬ (((p1 &&& (2147483647 : Int32)) % (7 : Int32)) = (2 : Int32))) (hc66 : ¬ (((p1 &&& (2147483647 : Int32)) % (7 : Int32)) = (3 : Int32))) (hc85 : ¬ (((p1 &&& (2147483647 : Int32)) % (7 : Int32)) = (4 : Int32))) (hc104 : ((p1 &&& (2147483647 : Int32)) % (7 : Int32)) = (5 : Int32)) :
    MetFree l x (head1 (Jvm.Cond.code x code maxLocals ret :: ws) room_1) (fun a U => a = #[(.int p1), (.int p2), (.int p3)] ∧ Z.Warmed39 U.vm ∧ U.heap = h0) (fun _ _ _ _ _ => True) (fun _ U o U' => ∃ v L, o = .returned v ∧ QP (.int r) h0 n0 v U'.heap L ∧ FrameEnd U o U' L room_1.cells room_1.slots) := by
  subst hr0
  refine MetFree.of_bodySF (plainFor_of_name pnm_1) hisR ?_
  intro p e s m args below meth c s₁ Bd hml0 hP hK
  obtain ⟨rfl, hZ, hh⟩ := hP
  have hx := Bd.exec
  have hby := Bd.bytes
  have hml : c.maxLocals = 8 := hml0
  have hown : s.vm.findClass "com/example/steward/steward/ejbql/FunctionTakesPinLaw" = some m.cls := findClass_of_methodNamed Bd.named
  have hnm := (name_of_methodNamed Bd.named Bd.method).1
  have X0 : Stand p l e room_1 s m #[(.int p1), (.int p2), (.int p3)] below meth c s₁ [] 0 0 := Stand.of_body Bd
  have e0 : s₁.heap = h0 := by rw [← hh, Bd.state]; rfl
  have N0 := Fr.nil n0
  have pre0 : ∀ t, Steps p.tables e below (s₁.setTop (mkF m 0 #[.val (.int p1), .val (.int p2), .val (.int p3), .unset, .unset, .unset, .unset, .unset] [])) t → Steps p.tables e below (s₁.setTop (entryFrame m #[(.int p1), (.int p2), (.int p3)] maxLocals)) t := fun t k => castTop (ef_rm0 m p1 p2 p3) k
  obtain ⟨T1, X1, e1, st1⟩ := getS2 X0 hx hZ hown (host := "") (Or.inl (hw _ (List.mem_of_getElem? (i := 21) rfl))) Via.refl e0 S_SQRT (g := (mkF m 107 #[.val (.int p1), .val (.int p2), .val (.int p3), .val (.int ((p1 &&& (2147483647 : Int32)) % (7 : Int32))), .unset, .unset, .unset, .unset] [])) rfl (hb hby at_107)
  obtain ⟨_, _, ⟨T2, L2, k2, n2⟩, -, X2, ⟨Lc2, hQ2, l2, y2, z2⟩, st2⟩ := Jvm.LawKit.callS X1 hx (y := (⟨"com/example/steward/steward/ejbql/FunctionTakesPinLaw", "check", "(Lcom/example/steward/steward/ejbql/Operand$Function;III)Z"⟩ : MethodName)) hown (mvT hZ (hw _ (List.mem_of_getElem? (i := 4) rfl))) (mvT hZ (hw _ (List.mem_of_getElem? (i := 5) rfl))) (mvT hZ (hw _ (List.mem_of_getElem? (i := 6) rfl))) (mvT hZ (hw _ (List.mem_of_getElem? (i := 7) rfl))) (by decide) (backOf (W := 0) (rm1 l Z a0 hw [] w_SQRT (1 : Int32) (1 : Int32) p2 (1 : Int32) (1 : Int32) (if p2 < (1 : Int32) then (0 : Int32) else (if (1 : Int32) < p2 then (0 : Int32) else (1 : Int32))) h0 n0 Z0 F_SQRT_min F_SQRT_max E_SQRT rfl (1 : Int32) (own_chk_1_1 p2)) hZ (hw _ (List.mem_of_getElem? (i := 7) rfl)) (hw _ (List.mem_of_getElem? (i := 6) rfl)) (by decide) (by decide)) (g := (mkF m 147 #[.val (.int p1), .val (.int p2), .val (.int p3), .val (.int ((p1 &&& (2147483647 : Int32)) % (7 : Int32))), .val (.ref w_SQRT), .val (.int (1 : Int32)), .val (.int (1 : Int32)), .val (.int ((p3 &&& (7 : Int32)) - (2 : Int32)))] [(.int p2), (.int (1 : Int32)), (.int (1 : Int32)), (.ref w_SQRT)])) rfl (by rw [hml]; rfl) (argsL := [(.ref w_SQRT), (.int (1 : Int32)), (.int (1 : Int32)), (.int p2)]) (rest := []) (lenOf pdm_1 rfl) rfl (by show 2 * 0 + _ ≤ _; exact Nat.le_of_eq rfl) (hb hby at_147) (fun _ _ => ⟨rfl, e1, (by decide : 0 + 0 ≤ _), (by decide : 0 + 0 ≤ _)⟩)
  dsimp only [Pt.U, Pt.locs, Pt.cells, Pt.slots] at X2 l2 y2 z2 st2 hQ2
  subst l2 y2 z2
  obtain ⟨rfl, N2q, e2⟩ := hQ2
  have N2 := Fr.app N0 N2q
  obtain ⟨_, _, ⟨T3, L3, k3, n3⟩, -, X3, ⟨Lc3, hQ3, l3, y3, z3⟩, st3⟩ := Jvm.LawKit.callS X2 hx (y := (⟨"com/example/steward/steward/ejbql/FunctionTakesPinLaw", "check", "(Lcom/example/steward/steward/ejbql/Operand$Function;III)Z"⟩ : MethodName)) hown (mvT hZ (hw _ (List.mem_of_getElem? (i := 4) rfl))) (mvT hZ (hw _ (List.mem_of_getElem? (i := 5) rfl))) (mvT hZ (hw _ (List.mem_of_getElem? (i := 6) rfl))) (mvT hZ (hw _ (List.mem_of_getElem? (i := 7) rfl))) (by decide) (backOf (W := 0) (rm1 l Z a0 hw [] w_SQRT (1 : Int32) (1 : Int32) ((p3 &&& (7 : Int32)) - (2 : Int32)) (1 : Int32) (1 : Int32) (if ((p3 &&& (7 : Int32)) - (2 : Int32)) < (1 : Int32) then (0 : Int32) else (if (1 : Int32) < ((p3 &&& (7 : Int32)) - (2 : Int32)) then (0 : Int32) else (1 : Int32))) h0 n0 Z0 F_SQRT_min F_SQRT_max E_SQRT rfl (1 : Int32) (own_chk_1_1 ((p3 &&& (7 : Int32)) - (2 : Int32)))) hZ (hw _ (List.mem_of_getElem? (i := 7) rfl)) (hw _ (List.mem_of_getElem? (i := 6) rfl)) (by decide) (by decide)) (g := (mkF m 161 #[.val (.int p1), .val (.int p2), .val (.int p3), .val (.int ((p1 &&& (2147483647 : Int32)) % (7 : Int32))), .val (.ref w_SQRT), .val (.int (1 : Int32)), .val (.int (1 : Int32)), .val (.int ((p3 &&& (7 : Int32)) - (2 : Int32)))] [(.int ((p3 &&& (7 : Int32)) - (2 : Int32))), (.int (1 : Int32)), (.int (1 : Int32)), (.ref w_SQRT)])) rfl (by rw [hml]; rfl) (argsL := [(.ref w_SQRT), (.int (1 : Int32)), (.int (1 : Int32)), (.int ((p3 &&& (7 : Int32)) - (2 : Int32)))]) (rest := []) (lenOf pdm_1 rfl) rfl (by show 2 * 0 + _ ≤ _; exact Nat.le_of_eq rfl) (hb hby at_161) (fun _ _ => ⟨rfl, e2, (by decide : 0 + 0 ≤ _), (by decide : 0 + 0 ≤ _)⟩)
  dsimp only [Pt.U, Pt.locs, Pt.cells, Pt.slots] at X3 l3 y3 z3 st3 hQ3
  subst l3 y3 z3
  obtain ⟨rfl, N3q, e3⟩ := hQ3
  have N3 := Fr.app N2 N3q
  obtain ⟨fs, hr, hrun, hended, hW, hsame⟩ := X3.leave (v := some (.int (1 : Int32))) (fun h => by rw [Bd.returns] at h; cases h)
  refine ⟨_, _, pre0 _ ?_, hrun, hended, _, _, rfl, ?_, ⟨_, rfl⟩, hW, hsame.mono (by decide) (by decide)⟩
  · show Steps p.tables e below (s₁.setTop (mkF m 0 #[.val (.int p1), .val (.int p2), .val (.int p3), .unset, .unset, .unset, .unset, .unset] [])) _
    refine XS.iloadN X0.here hx rfl (hb hby at_0) rfl ?_
    show Steps p.tables e below (s₁.setTop (mkF m 1 #[.val (.int p1), .val (.int p2), .val (.int p3), .unset, .unset, .unset, .unset, .unset] [(.int p1)])) _
    refine X0.ldcInt hx hown (mvT hZ (hw _ (List.mem_of_getElem? (i := 0) rfl))) (g := (mkF m 1 #[.val (.int p1), .val (.int p2), .val (.int p3), .unset, .unset, .unset, .unset, .unset] [(.int p1)])) rfl (hb hby at_1) _ ?_
    show Steps p.tables e below (s₁.setTop (mkF m 3 #[.val (.int p1), .val (.int p2), .val (.int p3), .unset, .unset, .unset, .unset, .unset] [(.int (2147483647 : Int32)), (.int p1)])) _
    refine XS.iand X0.here hx rfl (hb hby at_3) rfl ?_
    show Steps p.tables e below (s₁.setTop (mkF m 4 #[.val (.int p1), .val (.int p2), .val (.int p3), .unset, .unset, .unset, .unset, .unset] [(.int (p1 &&& (2147483647 : Int32)))])) _
    refine XS.bipush X0.here hx rfl (hb hby at_4) ?_
    show Steps p.tables e below (s₁.setTop (mkF m 6 #[.val (.int p1), .val (.int p2), .val (.int p3), .unset, .unset, .unset, .unset, .unset] [(.int (7 : Int32)), (.int (p1 &&& (2147483647 : Int32)))])) _
    refine iremM X0 hx rfl (hb hby at_6) rfl (by decide) ?_
    show Steps p.tables e below (s₁.setTop (mkF m 7 #[.val (.int p1), .val (.int p2), .val (.int p3), .unset, .unset, .unset, .unset, .unset] [(.int ((p1 &&& (2147483647 : Int32)) % (7 : Int32)))])) _
    refine XS.istoreN X0.here hx rfl (hb hby at_7) rfl (l' := #[.val (.int p1), .val (.int p2), .val (.int p3), .val (.int ((p1 &&& (2147483647 : Int32)) % (7 : Int32))), .unset, .unset, .unset, .unset]) rfl ?_
    show Steps p.tables e below (s₁.setTop (mkF m 8 #[.val (.int p1), .val (.int p2), .val (.int p3), .val (.int ((p1 &&& (2147483647 : Int32)) % (7 : Int32))), .unset, .unset, .unset, .unset] [])) _
    refine XS.iloadN X0.here hx rfl (hb hby at_8) rfl ?_
    show Steps p.tables e below (s₁.setTop (mkF m 9 #[.val (.int p1), .val (.int p2), .val (.int p3), .val (.int ((p1 &&& (2147483647 : Int32)) % (7 : Int32))), .unset, .unset, .unset, .unset] [(.int ((p1 &&& (2147483647 : Int32)) % (7 : Int32)))])) _
    refine XS.ifYes X0.here hx rfl (pc0 := 9) (pc' := 26) rfl (hb hby at_9) rfl ((if0 _ _).trans (feq hc9).2) (by decide) (by decide) ?_
    show Steps p.tables e below (s₁.setTop (mkF m 26 #[.val (.int p1), .val (.int p2), .val (.int p3), .val (.int ((p1 &&& (2147483647 : Int32)) % (7 : Int32))), .unset, .unset, .unset, .unset] [])) _
    refine XS.iloadN X0.here hx rfl (hb hby at_26) rfl ?_
    show Steps p.tables e below (s₁.setTop (mkF m 27 #[.val (.int p1), .val (.int p2), .val (.int p3), .val (.int ((p1 &&& (2147483647 : Int32)) % (7 : Int32))), .unset, .unset, .unset, .unset] [(.int ((p1 &&& (2147483647 : Int32)) % (7 : Int32)))])) _
    refine XS.iconst X0.here hx rfl (hb hby at_27) ?_
    show Steps p.tables e below (s₁.setTop (mkF m 28 #[.val (.int p1), .val (.int p2), .val (.int p3), .val (.int ((p1 &&& (2147483647 : Int32)) % (7 : Int32))), .unset, .unset, .unset, .unset] [(.int (1 : Int32)), (.int ((p1 &&& (2147483647 : Int32)) % (7 : Int32)))])) _
    refine XS.icmpYes X0.here hx rfl (pc0 := 28) (pc' := 45) rfl (hb hby at_28) rfl (feq hc28).2 (by decide) (by decide) ?_
    show Steps p.tables e below (s₁.setTop (mkF m 45 #[.val (.int p1), .val (.int p2), .val (.int p3), .val (.int ((p1 &&& (2147483647 : Int32)) % (7 : Int32))), .unset, .unset, .unset, .unset] [])) _
    refine XS.iloadN X0.here hx rfl (hb hby at_45) rfl ?_
    show Steps p.tables e below (s₁.setTop (mkF m 46 #[.val (.int p1), .val (.int p2), .val (.int p3), .val (.int ((p1 &&& (2147483647 : Int32)) % (7 : Int32))), .unset, .unset, .unset, .unset] [(.int ((p1 &&& (2147483647 : Int32)) % (7 : Int32)))])) _
    refine XS.iconst X0.here hx rfl (hb hby at_46) ?_
    show Steps p.tables e below (s₁.setTop (mkF m 47 #[.val (.int p1), .val (.int p2), .val (.int p3), .val (.int ((p1 &&& (2147483647 : Int32)) % (7 : Int32))), .unset, .unset, .unset, .unset] [(.int (2 : Int32)), (.int ((p1 &&& (2147483647 : Int32)) % (7 : Int32)))])) _
    refine XS.icmpYes X0.here hx rfl (pc0 := 47) (pc' := 64) rfl (hb hby at_47) rfl (feq hc47).2 (by decide) (by decide) ?_
    show Steps p.tables e below (s₁.setTop (mkF m 64 #[.val (.int p1), .val (.int p2), .val (.int p3), .val (.int ((p1 &&& (2147483647 : Int32)) % (7 : Int32))), .unset, .unset, .unset, .unset] [])) _
    refine XS.iloadN X0.here hx rfl (hb hby at_64) rfl ?_
    show Steps p.tables e below (s₁.setTop (mkF m 65 #[.val (.int p1), .val (.int p2), .val (.int p3), .val (.int ((p1 &&& (2147483647 : Int32)) % (7 : Int32))), .unset, .unset, .unset, .unset] [(.int ((p1 &&& (2147483647 : Int32)) % (7 : Int32)))])) _
    refine XS.iconst X0.here hx rfl (hb hby at_65) ?_
    show Steps p.tables e below (s₁.setTop (mkF m 66 #[.val (.int p1), .val (.int p2), .val (.int p3), .val (.int ((p1 &&& (2147483647 : Int32)) % (7 : Int32))), .unset, .unset, .unset, .unset] [(.int (3 : Int32)), (.int ((p1 &&& (2147483647 : Int32)) % (7 : Int32)))])) _
    refine XS.icmpYes X0.here hx rfl (pc0 := 66) (pc' := 83) rfl (hb hby at_66) rfl (feq hc66).2 (by decide) (by decide) ?_
    show Steps p.tables e below (s₁.setTop (mkF m 83 #[.val (.int p1), .val (.int p2), .val (.int p3), .val (.int ((p1 &&& (2147483647 : Int32)) % (7 : Int32))), .unset, .unset, .unset, .unset] [])) _
    refine XS.iloadN X0.here hx rfl (hb hby at_83) rfl ?_
    show Steps p.tables e below (s₁.setTop (mkF m 84 #[.val (.int p1), .val (.int p2), .val (.int p3), .val (.int ((p1 &&& (2147483647 : Int32)) % (7 : Int32))), .unset, .unset, .unset, .unset] [(.int ((p1 &&& (2147483647 : Int32)) % (7 : Int32)))])) _
    refine XS.iconst X0.here hx rfl (hb hby at_84) ?_
    show Steps p.tables e below (s₁.setTop (mkF m 85 #[.val (.int p1), .val (.int p2), .val (.int p3), .val (.int ((p1 &&& (2147483647 : Int32)) % (7 : Int32))), .unset, .unset, .unset, .unset] [(.int (4 : Int32)), (.int ((p1 &&& (2147483647 : Int32)) % (7 : Int32)))])) _
    refine XS.icmpYes X0.here hx rfl (pc0 := 85) (pc' := 102) rfl (hb hby at_85) rfl (feq hc85).2 (by decide) (by decide) ?_
    show Steps p.tables e below (s₁.setTop (mkF m 102 #[.val (.int p1), .val (.int p2), .val (.int p3), .val (.int ((p1 &&& (2147483647 : Int32)) % (7 : Int32))), .unset, .unset, .unset, .unset] [])) _
    refine XS.iloadN X0.here hx rfl (hb hby at_102) rfl ?_
    show Steps p.tables e below (s₁.setTop (mkF m 103 #[.val (.int p1), .val (.int p2), .val (.int p3), .val (.int ((p1 &&& (2147483647 : Int32)) % (7 : Int32))), .unset, .unset, .unset, .unset] [(.int ((p1 &&& (2147483647 : Int32)) % (7 : Int32)))])) _
    refine XS.iconst X0.here hx rfl (hb hby at_103) ?_
    show Steps p.tables e below (s₁.setTop (mkF m 104 #[.val (.int p1), .val (.int p2), .val (.int p3), .val (.int ((p1 &&& (2147483647 : Int32)) % (7 : Int32))), .unset, .unset, .unset, .unset] [(.int (5 : Int32)), (.int ((p1 &&& (2147483647 : Int32)) % (7 : Int32)))])) _
    refine XS.icmpNo X0.here hx rfl (hb hby at_104) rfl (teq hc104).2 ?_
    show Steps p.tables e below (s₁.setTop (mkF m 107 #[.val (.int p1), .val (.int p2), .val (.int p3), .val (.int ((p1 &&& (2147483647 : Int32)) % (7 : Int32))), .unset, .unset, .unset, .unset] [])) _
    refine st1 _ ?_
    show Steps p.tables e below (T1.setTop (mkF m 110 #[.val (.int p1), .val (.int p2), .val (.int p3), .val (.int ((p1 &&& (2147483647 : Int32)) % (7 : Int32))), .unset, .unset, .unset, .unset] [(.ref w_SQRT)])) _
    refine XS.astore X1.here hx rfl (hb hby at_110) rfl rfl (l' := #[.val (.int p1), .val (.int p2), .val (.int p3), .val (.int ((p1 &&& (2147483647 : Int32)) % (7 : Int32))), .val (.ref w_SQRT), .unset, .unset, .unset]) rfl ?_
    show Steps p.tables e below (T1.setTop (mkF m 112 #[.val (.int p1), .val (.int p2), .val (.int p3), .val (.int ((p1 &&& (2147483647 : Int32)) % (7 : Int32))), .val (.ref w_SQRT), .unset, .unset, .unset] [])) _
    refine XS.iconst X1.here hx rfl (hb hby at_112) ?_
    show Steps p.tables e below (T1.setTop (mkF m 113 #[.val (.int p1), .val (.int p2), .val (.int p3), .val (.int ((p1 &&& (2147483647 : Int32)) % (7 : Int32))), .val (.ref w_SQRT), .unset, .unset, .unset] [(.int (1 : Int32))])) _
    refine XS.istore X1.here hx rfl (hb hby at_113) rfl (l' := #[.val (.int p1), .val (.int p2), .val (.int p3), .val (.int ((p1 &&& (2147483647 : Int32)) % (7 : Int32))), .val (.ref w_SQRT), .val (.int (1 : Int32)), .unset, .unset]) rfl ?_
    show Steps p.tables e below (T1.setTop (mkF m 115 #[.val (.int p1), .val (.int p2), .val (.int p3), .val (.int ((p1 &&& (2147483647 : Int32)) % (7 : Int32))), .val (.ref w_SQRT), .val (.int (1 : Int32)), .unset, .unset] [])) _
    refine XS.iconst X1.here hx rfl (hb hby at_115) ?_
    show Steps p.tables e below (T1.setTop (mkF m 116 #[.val (.int p1), .val (.int p2), .val (.int p3), .val (.int ((p1 &&& (2147483647 : Int32)) % (7 : Int32))), .val (.ref w_SQRT), .val (.int (1 : Int32)), .unset, .unset] [(.int (1 : Int32))])) _
    refine XS.istore X1.here hx rfl (hb hby at_116) rfl (l' := #[.val (.int p1), .val (.int p2), .val (.int p3), .val (.int ((p1 &&& (2147483647 : Int32)) % (7 : Int32))), .val (.ref w_SQRT), .val (.int (1 : Int32)), .val (.int (1 : Int32)), .unset]) rfl ?_
    show Steps p.tables e below (T1.setTop (mkF m 118 #[.val (.int p1), .val (.int p2), .val (.int p3), .val (.int ((p1 &&& (2147483647 : Int32)) % (7 : Int32))), .val (.ref w_SQRT), .val (.int (1 : Int32)), .val (.int (1 : Int32)), .unset] [])) _
    refine XS.goto X1.here hx rfl (pc0 := 118) (pc' := 132) rfl (hb hby at_118) (by decide) (by decide) ?_
    show Steps p.tables e below (T1.setTop (mkF m 132 #[.val (.int p1), .val (.int p2), .val (.int p3), .val (.int ((p1 &&& (2147483647 : Int32)) % (7 : Int32))), .val (.ref w_SQRT), .val (.int (1 : Int32)), .val (.int (1 : Int32)), .unset] [])) _
    refine XS.iloadN X1.here hx rfl (hb hby at_132) rfl ?_
    show Steps p.tables e below (T1.setTop (mkF m 133 #[.val (.int p1), .val (.int p2), .val (.int p3), .val (.int ((p1 &&& (2147483647 : Int32)) % (7 : Int32))), .val (.ref w_SQRT), .val (.int (1 : Int32)), .val (.int (1 : Int32)), .unset] [(.int p3)])) _
    refine XS.bipush X1.here hx rfl (hb hby at_133) ?_
    show Steps p.tables e below (T1.setTop (mkF m 135 #[.val (.int p1), .val (.int p2), .val (.int p3), .val (.int ((p1 &&& (2147483647 : Int32)) % (7 : Int32))), .val (.ref w_SQRT), .val (.int (1 : Int32)), .val (.int (1 : Int32)), .unset] [(.int (7 : Int32)), (.int p3)])) _
    refine XS.iand X1.here hx rfl (hb hby at_135) rfl ?_
    show Steps p.tables e below (T1.setTop (mkF m 136 #[.val (.int p1), .val (.int p2), .val (.int p3), .val (.int ((p1 &&& (2147483647 : Int32)) % (7 : Int32))), .val (.ref w_SQRT), .val (.int (1 : Int32)), .val (.int (1 : Int32)), .unset] [(.int (p3 &&& (7 : Int32)))])) _
    refine XS.iconst X1.here hx rfl (hb hby at_136) ?_
    show Steps p.tables e below (T1.setTop (mkF m 137 #[.val (.int p1), .val (.int p2), .val (.int p3), .val (.int ((p1 &&& (2147483647 : Int32)) % (7 : Int32))), .val (.ref w_SQRT), .val (.int (1 : Int32)), .val (.int (1 : Int32)), .unset] [(.int (2 : Int32)), (.int (p3 &&& (7 : Int32)))])) _
    refine XS.isub X1.here hx rfl (hb hby at_137) rfl ?_
    show Steps p.tables e below (T1.setTop (mkF m 138 #[.val (.int p1), .val (.int p2), .val (.int p3), .val (.int ((p1 &&& (2147483647 : Int32)) % (7 : Int32))), .val (.ref w_SQRT), .val (.int (1 : Int32)), .val (.int (1 : Int32)), .unset] [(.int ((p3 &&& (7 : Int32)) - (2 : Int32)))])) _
    refine XS.istore X1.here hx rfl (hb hby at_138) rfl (l' := #[.val (.int p1), .val (.int p2), .val (.int p3), .val (.int ((p1 &&& (2147483647 : Int32)) % (7 : Int32))), .val (.ref w_SQRT), .val (.int (1 : Int32)), .val (.int (1 : Int32)), .val (.int ((p3 &&& (7 : Int32)) - (2 : Int32)))]) rfl ?_
    show Steps p.tables e below (T1.setTop (mkF m 140 #[.val (.int p1), .val (.int p2), .val (.int p3), .val (.int ((p1 &&& (2147483647 : Int32)) % (7 : Int32))), .val (.ref w_SQRT), .val (.int (1 : Int32)), .val (.int (1 : Int32)), .val (.int ((p3 &&& (7 : Int32)) - (2 : Int32)))] [])) _
    refine XS.aload X1.here hx rfl (hb hby at_140) rfl rfl ?_
    show Steps p.tables e below (T1.setTop (mkF m 142 #[.val (.int p1), .val (.int p2), .val (.int p3), .val (.int ((p1 &&& (2147483647 : Int32)) % (7 : Int32))), .val (.ref w_SQRT), .val (.int (1 : Int32)), .val (.int (1 : Int32)), .val (.int ((p3 &&& (7 : Int32)) - (2 : Int32)))] [(.ref w_SQRT)])) _
    refine XS.iload X1.here hx rfl (hb hby at_142) rfl ?_
    show Steps p.tables e below (T1.setTop (mkF m 144 #[.val (.int p1), .val (.int p2), .val (.int p3), .val (.int ((p1 &&& (2147483647 : Int32)) % (7 : Int32))), .val (.ref w_SQRT), .val (.int (1 : Int32)), .val (.int (1 : Int32)), .val (.int ((p3 &&& (7 : Int32)) - (2 : Int32)))] [(.int (1 : Int32)), (.ref w_SQRT)])) _
    refine XS.iload X1.here hx rfl (hb hby at_144) rfl ?_
    show Steps p.tables e below (T1.setTop (mkF m 146 #[.val (.int p1), .val (.int p2), .val (.int p3), .val (.int ((p1 &&& (2147483647 : Int32)) % (7 : Int32))), .val (.ref w_SQRT), .val (.int (1 : Int32)), .val (.int (1 : Int32)), .val (.int ((p3 &&& (7 : Int32)) - (2 : Int32)))] [(.int (1 : Int32)), (.int (1 : Int32)), (.ref w_SQRT)])) _
    refine XS.iloadN X1.here hx rfl (hb hby at_146) rfl ?_
    show Steps p.tables e below (T1.setTop (mkF m 147 #[.val (.int p1), .val (.int p2), .val (.int p3), .val (.int ((p1 &&& (2147483647 : Int32)) % (7 : Int32))), .val (.ref w_SQRT), .val (.int (1 : Int32)), .val (.int (1 : Int32)), .val (.int ((p3 &&& (7 : Int32)) - (2 : Int32)))] [(.int p2), (.int (1 : Int32)), (.int (1 : Int32)), (.ref w_SQRT)])) _
    refine st2 _ ?_
    show Steps p.tables e below (T2.setTop (mkF m 150 #[.val (.int p1), .val (.int p2), .val (.int p3), .val (.int ((p1 &&& (2147483647 : Int32)) % (7 : Int32))), .val (.ref w_SQRT), .val (.int (1 : Int32)), .val (.int (1 : Int32)), .val (.int ((p3 &&& (7 : Int32)) - (2 : Int32)))] [(.int (1 : Int32))])) _
    refine XS.ifNo X2.here hx rfl (hb hby at_150) rfl ((if0 _ _).trans (feq (by decide : ¬ ((1 : Int32) = (0 : Int32)))).1) ?_
    show Steps p.tables e below (T2.setTop (mkF m 153 #[.val (.int p1), .val (.int p2), .val (.int p3), .val (.int ((p1 &&& (2147483647 : Int32)) % (7 : Int32))), .val (.ref w_SQRT), .val (.int (1 : Int32)), .val (.int (1 : Int32)), .val (.int ((p3 &&& (7 : Int32)) - (2 : Int32)))] [])) _
    refine XS.aload X2.here hx rfl (hb hby at_153) rfl rfl ?_
    show Steps p.tables e below (T2.setTop (mkF m 155 #[.val (.int p1), .val (.int p2), .val (.int p3), .val (.int ((p1 &&& (2147483647 : Int32)) % (7 : Int32))), .val (.ref w_SQRT), .val (.int (1 : Int32)), .val (.int (1 : Int32)), .val (.int ((p3 &&& (7 : Int32)) - (2 : Int32)))] [(.ref w_SQRT)])) _
    refine XS.iload X2.here hx rfl (hb hby at_155) rfl ?_
    show Steps p.tables e below (T2.setTop (mkF m 157 #[.val (.int p1), .val (.int p2), .val (.int p3), .val (.int ((p1 &&& (2147483647 : Int32)) % (7 : Int32))), .val (.ref w_SQRT), .val (.int (1 : Int32)), .val (.int (1 : Int32)), .val (.int ((p3 &&& (7 : Int32)) - (2 : Int32)))] [(.int (1 : Int32)), (.ref w_SQRT)])) _
    refine XS.iload X2.here hx rfl (hb hby at_157) rfl ?_
    show Steps p.tables e below (T2.setTop (mkF m 159 #[.val (.int p1), .val (.int p2), .val (.int p3), .val (.int ((p1 &&& (2147483647 : Int32)) % (7 : Int32))), .val (.ref w_SQRT), .val (.int (1 : Int32)), .val (.int (1 : Int32)), .val (.int ((p3 &&& (7 : Int32)) - (2 : Int32)))] [(.int (1 : Int32)), (.int (1 : Int32)), (.ref w_SQRT)])) _
    refine XS.iload X2.here hx rfl (hb hby at_159) rfl ?_
    show Steps p.tables e below (T2.setTop (mkF m 161 #[.val (.int p1), .val (.int p2), .val (.int p3), .val (.int ((p1 &&& (2147483647 : Int32)) % (7 : Int32))), .val (.ref w_SQRT), .val (.int (1 : Int32)), .val (.int (1 : Int32)), .val (.int ((p3 &&& (7 : Int32)) - (2 : Int32)))] [(.int ((p3 &&& (7 : Int32)) - (2 : Int32))), (.int (1 : Int32)), (.int (1 : Int32)), (.ref w_SQRT)])) _
    refine st3 _ ?_
    show Steps p.tables e below (T3.setTop (mkF m 164 #[.val (.int p1), .val (.int p2), .val (.int p3), .val (.int ((p1 &&& (2147483647 : Int32)) % (7 : Int32))), .val (.ref w_SQRT), .val (.int (1 : Int32)), .val (.int (1 : Int32)), .val (.int ((p3 &&& (7 : Int32)) - (2 : Int32)))] [(.int (1 : Int32))])) _
    refine XS.ifNo X3.here hx rfl (hb hby at_164) rfl ((if0 _ _).trans (feq (by decide : ¬ ((1 : Int32) = (0 : Int32)))).1) ?_
    show Steps p.tables e below (T3.setTop (mkF m 167 #[.val (.int p1), .val (.int p2), .val (.int p3), .val (.int ((p1 &&& (2147483647 : Int32)) % (7 : Int32))), .val (.ref w_SQRT), .val (.int (1 : Int32)), .val (.int (1 : Int32)), .val (.int ((p3 &&& (7 : Int32)) - (2 : Int32)))] [])) _
    refine XS.iconst X3.here hx rfl (hb hby at_167) ?_
    show Steps p.tables e below (T3.setTop (mkF m 168 #[.val (.int p1), .val (.int p2), .val (.int p3), .val (.int ((p1 &&& (2147483647 : Int32)) % (7 : Int32))), .val (.ref w_SQRT), .val (.int (1 : Int32)), .val (.int (1 : Int32)), .val (.int ((p3 &&& (7 : Int32)) - (2 : Int32)))] [(.int (1 : Int32))])) _
    refine XS.goto X3.here hx rfl (pc0 := 168) (pc' := 172) rfl (hb hby at_168) (by decide) (by decide) ?_
    show Steps p.tables e below (T3.setTop (mkF m 172 #[.val (.int p1), .val (.int p2), .val (.int p3), .val (.int ((p1 &&& (2147483647 : Int32)) % (7 : Int32))), .val (.ref w_SQRT), .val (.int (1 : Int32)), .val (.int (1 : Int32)), .val (.int ((p3 &&& (7 : Int32)) - (2 : Int32)))] [(.int (1 : Int32))])) _
    exact retN X3 hx (t := .boolean) Bd.returns (by simp) (hb hby at_172) hr
  · show QP (.int (1 : Int32)) h0 n0 _ T3.heap _
    rw [e3]
    exact ⟨rfl, N3, rfl⟩
set_option maxRecDepth 65536 in
set_option maxHeartbeats 40000000 in
theorem rm0_ttttf (l : Launch) (Z : State) (a0 : Array Value) (hw : ∀ d ∈ tables_1, d.before a0 Z = true) (ws : List Jvm.Cond) (p1 : Int32) (p2 : Int32) (p3 : Int32) (w_CONCAT : Addr) (w_SUBSTRING : Addr) (w_LOCATE : Addr) (w_LENGTH : Addr) (w_ABS : Addr) (w_SQRT : Addr) (w_MOD : Addr) (h0 : Heap) (n0 : Nat) (Z0 : n0 ≤ h0.size) (S_CONCAT : Sta Z h0 "com/example/steward/steward/ejbql/Operand$Function" "CONCAT" "Lcom/example/steward/steward/ejbql/Operand$Function;" (.ref w_CONCAT)) (S_SUBSTRING : Sta Z h0 "com/example/steward/steward/ejbql/Operand$Function" "SUBSTRING" "Lcom/example/steward/steward/ejbql/Operand$Function;" (.ref w_SUBSTRING)) (S_LOCATE : Sta Z h0 "com/example/steward/steward/ejbql/Operand$Function" "LOCATE" "Lcom/example/steward/steward/ejbql/Operand$Function;" (.ref w_LOCATE)) (S_LENGTH : Sta Z h0 "com/example/steward/steward/ejbql/Operand$Function" "LENGTH" "Lcom/example/steward/steward/ejbql/Operand$Function;" (.ref w_LENGTH)) (S_ABS : Sta Z h0 "com/example/steward/steward/ejbql/Operand$Function" "ABS" "Lcom/example/steward/steward/ejbql/Operand$Function;" (.ref w_ABS)) (S_SQRT : Sta Z h0 "com/example/steward/steward/ejbql/Operand$Function" "SQRT" "Lcom/example/steward/steward/ejbql/Operand$Function;" (.ref w_SQRT)) (S_MOD : Sta Z h0 "com/example/steward/steward/ejbql/Operand$Function" "MOD" "Lcom/example/steward/steward/ejbql/Operand$Function;" (.ref w_MOD)) (E_CONCAT : Exa Z h0 w_CONCAT "com/example/steward/steward/ejbql/Operand$Function") (E_SUBSTRING : Exa Z h0 w_SUBSTRING "com/example/steward/steward/ejbql/Operand$Function") (E_LOCATE : Exa Z h0 w_LOCATE "com/example/steward/steward/ejbql/Operand$Function") (E_LENGTH : Exa Z h0 w_LENGTH "com/example/steward/steward/ejbql/Operand$Function") (E_ABS : Exa Z h0 w_ABS "com/example/steward/steward/ejbql/Operand$Function") (E_SQRT : Exa Z h0 w_SQRT "com/example/steward/steward/ejbql/Operand$Function") (E_MOD : Exa Z h0 w_MOD "com/example/steward/steward/ejbql/Operand$Function") (F_CONCAT_min : Fld Z h0 w_CONCAT "com/example/steward/steward/ejbql/Operand$Function" "minArguments" "I" (.int (2 : Int32))) (F_CONCAT_max : Fld Z h0 w_CONCAT "com/example/steward/steward/ejbql/Operand$Function" "maxArguments" "I" (.int (2 : Int32))) (F_SUBSTRING_min : Fld Z h0 w_SUBSTRING "com/example/steward/steward/ejbql/Operand$Function" "minArguments" "I" (.int (3 : Int32))) (F_SUBSTRING_max : Fld Z h0 w_SUBSTRING "com/example/steward/steward/ejbql/Operand$Function" "maxArguments" "I" (.int (3 : Int32))) (F_LOCATE_min : Fld Z h0 w_LOCATE "com/example/steward/steward/ejbql/Operand$Function" "minArguments" "I" (.int (2 : Int32))) (F_LOCATE_max : Fld Z h0 w_LOCATE "com/example/steward/steward/ejbql/Operand$Function" "maxArguments" "I" (.int (3 : Int32))) (F_LENGTH_min : Fld Z h0 w_LENGTH "com/example/steward/steward/ejbql/Operand$Function" "minArguments" "I" (.int (1 : Int32))) (F_LENGTH_max : Fld Z h0 w_LENGTH "com/example/steward/steward/ejbql/Operand$Function" "maxArguments" "I" (.int (1 : Int32))) (F_ABS_min : Fld Z h0 w_ABS "com/example/steward/steward/ejbql/Operand$Function" "minArguments" "I" (.int (1 : Int32))) (F_ABS_max : Fld Z h0 w_ABS "com/example/steward/steward/ejbql/Operand$Function" "maxArguments" "I" (.int (1 : Int32))) (F_SQRT_min : Fld Z h0 w_SQRT "com/example/steward/steward/ejbql/Operand$Function" "minArguments" "I" (.int (1 : Int32))) (F_SQRT_max : Fld Z h0 w_SQRT "com/example/steward/steward/ejbql/Operand$Function" "maxArguments" "I" (.int (1 : Int32))) (F_MOD_min : Fld Z h0 w_MOD "com/example/steward/steward/ejbql/Operand$Function" "minArguments" "I" (.int (2 : Int32))) (F_MOD_max : Fld Z h0 w_MOD "com/example/steward/steward/ejbql/Operand$Function" "maxArguments" "I" (.int (2 : Int32))) (r : Int32) (hr0 : r = (1 : Int32)) (hc9 : ¬ (((p1 &&& (2147483647 : Int32)) % (7 : Int32)) = (0 : Int32))) (hc28 : ¬ (((p1 &&& (2147483647 : Int32)) % (7 : Int32)) = (1 : Int32))) (hc47 : ¬ (((p1 &&& (2147483647 : Int32)) % (7 : Int32)) = (2 : Int32))) (hc66 : ¬ (((p1 &&& (2147483647 : Int32)) % (7 : Int32)) = (3 : Int32))) (hc85 : ((p1 &&& (2147483647 : Int32)) % (7 : Int32)) = (4 : Int32)) :
    MetFree l x (head1 (Jvm.Cond.code x code maxLocals ret :: ws) room_1) (fun a U => a = #[(.int p1), (.int p2), (.int p3)] ∧ Z.Warmed39 U.vm ∧ U.heap = h0) (fun _ _ _ _ _ => True) (fun _ U o U' => ∃ v L, o = .returned v ∧ QP (.int r) h0 n0 v U'.heap L ∧ FrameEnd U o U' L room_1.cells room_1.slots) := by
  subst hr0
  refine MetFree.of_bodySF (plainFor_of_name pnm_1) hisR ?_
  intro p e s m args below meth c s₁ Bd hml0 hP hK
  obtain ⟨rfl, hZ, hh⟩ := hP
  have hx := Bd.exec
  have hby := Bd.bytes
  have hml : c.maxLocals = 8 := hml0
  have hown : s.vm.findClass "com/example/steward/steward/ejbql/FunctionTakesPinLaw" = some m.cls := findClass_of_methodNamed Bd.named
  have hnm := (name_of_methodNamed Bd.named Bd.method).1
  have X0 : Stand p l e room_1 s m #[(.int p1), (.int p2), (.int p3)] below meth c s₁ [] 0 0 := Stand.of_body Bd
  have e0 : s₁.heap = h0 := by rw [← hh, Bd.state]; rfl
  have N0 := Fr.nil n0
  have pre0 : ∀ t, Steps p.tables e below (s₁.setTop (mkF m 0 #[.val (.int p1), .val (.int p2), .val (.int p3), .unset, .unset, .unset, .unset, .unset] [])) t → Steps p.tables e below (s₁.setTop (entryFrame m #[(.int p1), (.int p2), (.int p3)] maxLocals)) t := fun t k => castTop (ef_rm0 m p1 p2 p3) k
  obtain ⟨T1, X1, e1, st1⟩ := getS2 X0 hx hZ hown (host := "") (Or.inl (hw _ (List.mem_of_getElem? (i := 25) rfl))) Via.refl e0 S_ABS (g := (mkF m 88 #[.val (.int p1), .val (.int p2), .val (.int p3), .val (.int ((p1 &&& (2147483647 : Int32)) % (7 : Int32))), .unset, .unset, .unset, .unset] [])) rfl (hb hby at_88)
  obtain ⟨_, _, ⟨T2, L2, k2, n2⟩, -, X2, ⟨Lc2, hQ2, l2, y2, z2⟩, st2⟩ := Jvm.LawKit.callS X1 hx (y := (⟨"com/example/steward/steward/ejbql/FunctionTakesPinLaw", "check", "(Lcom/example/steward/steward/ejbql/Operand$Function;III)Z"⟩ : MethodName)) hown (mvT hZ (hw _ (List.mem_of_getElem? (i := 4) rfl))) (mvT hZ (hw _ (List.mem_of_getElem? (i := 5) rfl))) (mvT hZ (hw _ (List.mem_of_getElem? (i := 6) rfl))) (mvT hZ (hw _ (List.mem_of_getElem? (i := 7) rfl))) (by decide) (backOf (W := 0) (rm1 l Z a0 hw [] w_ABS (1 : Int32) (1 : Int32) p2 (1 : Int32) (1 : Int32) (if p2 < (1 : Int32) then (0 : Int32) else (if (1 : Int32) < p2 then (0 : Int32) else (1 : Int32))) h0 n0 Z0 F_ABS_min F_ABS_max E_ABS rfl (1 : Int32) (own_chk_1_1 p2)) hZ (hw _ (List.mem_of_getElem? (i := 7) rfl)) (hw _ (List.mem_of_getElem? (i := 6) rfl)) (by decide) (by decide)) (g := (mkF m 147 #[.val (.int p1), .val (.int p2), .val (.int p3), .val (.int ((p1 &&& (2147483647 : Int32)) % (7 : Int32))), .val (.ref w_ABS), .val (.int (1 : Int32)), .val (.int (1 : Int32)), .val (.int ((p3 &&& (7 : Int32)) - (2 : Int32)))] [(.int p2), (.int (1 : Int32)), (.int (1 : Int32)), (.ref w_ABS)])) rfl (by rw [hml]; rfl) (argsL := [(.ref w_ABS), (.int (1 : Int32)), (.int (1 : Int32)), (.int p2)]) (rest := []) (lenOf pdm_1 rfl) rfl (by show 2 * 0 + _ ≤ _; exact Nat.le_of_eq rfl) (hb hby at_147) (fun _ _ => ⟨rfl, e1, (by decide : 0 + 0 ≤ _), (by decide : 0 + 0 ≤ _)⟩)
  dsimp only [Pt.U, Pt.locs, Pt.cells, Pt.slots] at X2 l2 y2 z2 st2 hQ2
  subst l2 y2 z2
  obtain ⟨rfl, N2q, e2⟩ := hQ2
  have N2 := Fr.app N0 N2q
  obtain ⟨_, _, ⟨T3, L3, k3, n3⟩, -, X3, ⟨Lc3, hQ3, l3, y3, z3⟩, st3⟩ := Jvm.LawKit.callS X2 hx (y := (⟨"com/example/steward/steward/ejbql/FunctionTakesPinLaw", "check", "(Lcom/example/steward/steward/ejbql/Operand$Function;III)Z"⟩ : MethodName)) hown (mvT hZ (hw _ (List.mem_of_getElem? (i := 4) rfl))) (mvT hZ (hw _ (List.mem_of_getElem? (i := 5) rfl))) (mvT hZ (hw _ (List.mem_of_getElem? (i := 6) rfl))) (mvT hZ (hw _ (List.mem_of_getElem? (i := 7) rfl))) (by decide) (backOf (W := 0) (rm1 l Z a0 hw [] w_ABS (1 : Int32) (1 : Int32) ((p3 &&& (7 : Int32)) - (2 : Int32)) (1 : Int32) (1 : Int32) (if ((p3 &&& (7 : Int32)) - (2 : Int32)) < (1 : Int32) then (0 : Int32) else (if (1 : Int32) < ((p3 &&& (7 : Int32)) - (2 : Int32)) then (0 : Int32) else (1 : Int32))) h0 n0 Z0 F_ABS_min F_ABS_max E_ABS rfl (1 : Int32) (own_chk_1_1 ((p3 &&& (7 : Int32)) - (2 : Int32)))) hZ (hw _ (List.mem_of_getElem? (i := 7) rfl)) (hw _ (List.mem_of_getElem? (i := 6) rfl)) (by decide) (by decide)) (g := (mkF m 161 #[.val (.int p1), .val (.int p2), .val (.int p3), .val (.int ((p1 &&& (2147483647 : Int32)) % (7 : Int32))), .val (.ref w_ABS), .val (.int (1 : Int32)), .val (.int (1 : Int32)), .val (.int ((p3 &&& (7 : Int32)) - (2 : Int32)))] [(.int ((p3 &&& (7 : Int32)) - (2 : Int32))), (.int (1 : Int32)), (.int (1 : Int32)), (.ref w_ABS)])) rfl (by rw [hml]; rfl) (argsL := [(.ref w_ABS), (.int (1 : Int32)), (.int (1 : Int32)), (.int ((p3 &&& (7 : Int32)) - (2 : Int32)))]) (rest := []) (lenOf pdm_1 rfl) rfl (by show 2 * 0 + _ ≤ _; exact Nat.le_of_eq rfl) (hb hby at_161) (fun _ _ => ⟨rfl, e2, (by decide : 0 + 0 ≤ _), (by decide : 0 + 0 ≤ _)⟩)
  dsimp only [Pt.U, Pt.locs, Pt.cells, Pt.slots] at X3 l3 y3 z3 st3 hQ3
  subst l3 y3 z3
  obtain ⟨rfl, N3q, e3⟩ := hQ3
  have N3 := Fr.app N2 N3q
  obtain ⟨fs, hr, hrun, hended, hW, hsame⟩ := X3.leave (v := some (.int (1 : Int32))) (fun h => by rw [Bd.returns] at h; cases h)
  refine ⟨_, _, pre0 _ ?_, hrun, hended, _, _, rfl, ?_, ⟨_, rfl⟩, hW, hsame.mono (by decide) (by decide)⟩
  · show Steps p.tables e below (s₁.setTop (mkF m 0 #[.val (.int p1), .val (.int p2), .val (.int p3), .unset, .unset, .unset, .unset, .unset] [])) _
    refine XS.iloadN X0.here hx rfl (hb hby at_0) rfl ?_
    show Steps p.tables e below (s₁.setTop (mkF m 1 #[.val (.int p1), .val (.int p2), .val (.int p3), .unset, .unset, .unset, .unset, .unset] [(.int p1)])) _
    refine X0.ldcInt hx hown (mvT hZ (hw _ (List.mem_of_getElem? (i := 0) rfl))) (g := (mkF m 1 #[.val (.int p1), .val (.int p2), .val (.int p3), .unset, .unset, .unset, .unset, .unset] [(.int p1)])) rfl (hb hby at_1) _ ?_
    show Steps p.tables e below (s₁.setTop (mkF m 3 #[.val (.int p1), .val (.int p2), .val (.int p3), .unset, .unset, .unset, .unset, .unset] [(.int (2147483647 : Int32)), (.int p1)])) _
    refine XS.iand X0.here hx rfl (hb hby at_3) rfl ?_
    show Steps p.tables e below (s₁.setTop (mkF m 4 #[.val (.int p1), .val (.int p2), .val (.int p3), .unset, .unset, .unset, .unset, .unset] [(.int (p1 &&& (2147483647 : Int32)))])) _
    refine XS.bipush X0.here hx rfl (hb hby at_4) ?_
    show Steps p.tables e below (s₁.setTop (mkF m 6 #[.val (.int p1), .val (.int p2), .val (.int p3), .unset, .unset, .unset, .unset, .unset] [(.int (7 : Int32)), (.int (p1 &&& (2147483647 : Int32)))])) _
    refine iremM X0 hx rfl (hb hby at_6) rfl (by decide) ?_
    show Steps p.tables e below (s₁.setTop (mkF m 7 #[.val (.int p1), .val (.int p2), .val (.int p3), .unset, .unset, .unset, .unset, .unset] [(.int ((p1 &&& (2147483647 : Int32)) % (7 : Int32)))])) _
    refine XS.istoreN X0.here hx rfl (hb hby at_7) rfl (l' := #[.val (.int p1), .val (.int p2), .val (.int p3), .val (.int ((p1 &&& (2147483647 : Int32)) % (7 : Int32))), .unset, .unset, .unset, .unset]) rfl ?_
    show Steps p.tables e below (s₁.setTop (mkF m 8 #[.val (.int p1), .val (.int p2), .val (.int p3), .val (.int ((p1 &&& (2147483647 : Int32)) % (7 : Int32))), .unset, .unset, .unset, .unset] [])) _
    refine XS.iloadN X0.here hx rfl (hb hby at_8) rfl ?_
    show Steps p.tables e below (s₁.setTop (mkF m 9 #[.val (.int p1), .val (.int p2), .val (.int p3), .val (.int ((p1 &&& (2147483647 : Int32)) % (7 : Int32))), .unset, .unset, .unset, .unset] [(.int ((p1 &&& (2147483647 : Int32)) % (7 : Int32)))])) _
    refine XS.ifYes X0.here hx rfl (pc0 := 9) (pc' := 26) rfl (hb hby at_9) rfl ((if0 _ _).trans (feq hc9).2) (by decide) (by decide) ?_
    show Steps p.tables e below (s₁.setTop (mkF m 26 #[.val (.int p1), .val (.int p2), .val (.int p3), .val (.int ((p1 &&& (2147483647 : Int32)) % (7 : Int32))), .unset, .unset, .unset, .unset] [])) _
    refine XS.iloadN X0.here hx rfl (hb hby at_26) rfl ?_
    show Steps p.tables e below (s₁.setTop (mkF m 27 #[.val (.int p1), .val (.int p2), .val (.int p3), .val (.int ((p1 &&& (2147483647 : Int32)) % (7 : Int32))), .unset, .unset, .unset, .unset] [(.int ((p1 &&& (2147483647 : Int32)) % (7 : Int32)))])) _
    refine XS.iconst X0.here hx rfl (hb hby at_27) ?_
    show Steps p.tables e below (s₁.setTop (mkF m 28 #[.val (.int p1), .val (.int p2), .val (.int p3), .val (.int ((p1 &&& (2147483647 : Int32)) % (7 : Int32))), .unset, .unset, .unset, .unset] [(.int (1 : Int32)), (.int ((p1 &&& (2147483647 : Int32)) % (7 : Int32)))])) _
    refine XS.icmpYes X0.here hx rfl (pc0 := 28) (pc' := 45) rfl (hb hby at_28) rfl (feq hc28).2 (by decide) (by decide) ?_
    show Steps p.tables e below (s₁.setTop (mkF m 45 #[.val (.int p1), .val (.int p2), .val (.int p3), .val (.int ((p1 &&& (2147483647 : Int32)) % (7 : Int32))), .unset, .unset, .unset, .unset] [])) _
    refine XS.iloadN X0.here hx rfl (hb hby at_45) rfl ?_
    show Steps p.tables e below (s₁.setTop (mkF m 46 #[.val (.int p1), .val (.int p2), .val (.int p3), .val (.int ((p1 &&& (2147483647 : Int32)) % (7 : Int32))), .unset, .unset, .unset, .unset] [(.int ((p1 &&& (2147483647 : Int32)) % (7 : Int32)))])) _
    refine XS.iconst X0.here hx rfl (hb hby at_46) ?_
    show Steps p.tables e below (s₁.setTop (mkF m 47 #[.val (.int p1), .val (.int p2), .val (.int p3), .val (.int ((p1 &&& (2147483647 : Int32)) % (7 : Int32))), .unset, .unset, .unset, .unset] [(.int (2 : Int32)), (.int ((p1 &&& (2147483647 : Int32)) % (7 : Int32)))])) _
    refine XS.icmpYes X0.here hx rfl (pc0 := 47) (pc' := 64) rfl (hb hby at_47) rfl (feq hc47).2 (by decide) (by decide) ?_
    show Steps p.tables e below (s₁.setTop (mkF m 64 #[.val (.int p1), .val (.int p2), .val (.int p3), .val (.int ((p1 &&& (2147483647 : Int32)) % (7 : Int32))), .unset, .unset, .unset, .unset] [])) _
    refine XS.iloadN X0.here hx rfl (hb hby at_64) rfl ?_
    show Steps p.tables e below (s₁.setTop (mkF m 65 #[.val (.int p1), .val (.int p2), .val (.int p3), .val (.int ((p1 &&& (2147483647 : Int32)) % (7 : Int32))), .unset, .unset, .unset, .unset] [(.int ((p1 &&& (2147483647 : Int32)) % (7 : Int32)))])) _
    refine XS.iconst X0.here hx rfl (hb hby at_65) ?_
    show Steps p.tables e below (s₁.setTop (mkF m 66 #[.val (.int p1), .val (.int p2), .val (.int p3), .val (.int ((p1 &&& (2147483647 : Int32)) % (7 : Int32))), .unset, .unset, .unset, .unset] [(.int (3 : Int32)), (.int ((p1 &&& (2147483647 : Int32)) % (7 : Int32)))])) _
    refine XS.icmpYes X0.here hx rfl (pc0 := 66) (pc' := 83) rfl (hb hby at_66) rfl (feq hc66).2 (by decide) (by decide) ?_
    show Steps p.tables e below (s₁.setTop (mkF m 83 #[.val (.int p1), .val (.int p2), .val (.int p3), .val (.int ((p1 &&& (2147483647 : Int32)) % (7 : Int32))), .unset, .unset, .unset, .unset] [])) _
    refine XS.iloadN X0.here hx rfl (hb hby at_83) rfl ?_
    show Steps p.tables e below (s₁.setTop (mkF m 84 #[.val (.int p1), .val (.int p2), .val (.int p3), .val (.int ((p1 &&& (2147483647 : Int32)) % (7 : Int32))), .unset, .unset, .unset, .unset] [(.int ((p1 &&& (2147483647 : Int32)) % (7 : Int32)))])) _
    refine XS.iconst X0.here hx rfl (hb hby at_84) ?_
    show Steps p.tables e below (s₁.setTop (mkF m 85 #[.val (.int p1), .val (.int p2), .val (.int p3), .val (.int ((p1 &&& (2147483647 : Int32)) % (7 : Int32))), .unset, .unset, .unset, .unset] [(.int (4 : Int32)), (.int ((p1 &&& (2147483647 : Int32)) % (7 : Int32)))])) _
    refine XS.icmpNo X0.here hx rfl (hb hby at_85) rfl (teq hc85).2 ?_
    show Steps p.tables e below (s₁.setTop (mkF m 88 #[.val (.int p1), .val (.int p2), .val (.int p3), .val (.int ((p1 &&& (2147483647 : Int32)) % (7 : Int32))), .unset, .unset, .unset, .unset] [])) _
    refine st1 _ ?_
    show Steps p.tables e below (T1.setTop (mkF m 91 #[.val (.int p1), .val (.int p2), .val (.int p3), .val (.int ((p1 &&& (2147483647 : Int32)) % (7 : Int32))), .unset, .unset, .unset, .unset] [(.ref w_ABS)])) _
    refine XS.astore X1.here hx rfl (hb hby at_91) rfl rfl (l' := #[.val (.int p1), .val (.int p2), .val (.int p3), .val (.int ((p1 &&& (2147483647 : Int32)) % (7 : Int32))), .val (.ref w_ABS), .unset, .unset, .unset]) rfl ?_
    show Steps p.tables e below (T1.setTop (mkF m 93 #[.val (.int p1), .val (.int p2), .val (.int p3), .val (.int ((p1 &&& (2147483647 : Int32)) % (7 : Int32))), .val (.ref w_ABS), .unset, .unset, .unset] [])) _
    refine XS.iconst X1.here hx rfl (hb hby at_93) ?_
    show Steps p.tables e below (T1.setTop (mkF m 94 #[.val (.int p1), .val (.int p2), .val (.int p3), .val (.int ((p1 &&& (2147483647 : Int32)) % (7 : Int32))), .val (.ref w_ABS), .unset, .unset, .unset] [(.int (1 : Int32))])) _
    refine XS.istore X1.here hx rfl (hb hby at_94) rfl (l' := #[.val (.int p1), .val (.int p2), .val (.int p3), .val (.int ((p1 &&& (2147483647 : Int32)) % (7 : Int32))), .val (.ref w_ABS), .val (.int (1 : Int32)), .unset, .unset]) rfl ?_
    show Steps p.tables e below (T1.setTop (mkF m 96 #[.val (.int p1), .val (.int p2), .val (.int p3), .val (.int ((p1 &&& (2147483647 : Int32)) % (7 : Int32))), .val (.ref w_ABS), .val (.int (1 : Int32)), .unset, .unset] [])) _
    refine XS.iconst X1.here hx rfl (hb hby at_96) ?_
    show Steps p.tables e below (T1.setTop (mkF m 97 #[.val (.int p1), .val (.int p2), .val (.int p3), .val (.int ((p1 &&& (2147483647 : Int32)) % (7 : Int32))), .val (.ref w_ABS), .val (.int (1 : Int32)), .unset, .unset] [(.int (1 : Int32))])) _
    refine XS.istore X1.here hx rfl (hb hby at_97) rfl (l' := #[.val (.int p1), .val (.int p2), .val (.int p3), .val (.int ((p1 &&& (2147483647 : Int32)) % (7 : Int32))), .val (.ref w_ABS), .val (.int (1 : Int32)), .val (.int (1 : Int32)), .unset]) rfl ?_
    show Steps p.tables e below (T1.setTop (mkF m 99 #[.val (.int p1), .val (.int p2), .val (.int p3), .val (.int ((p1 &&& (2147483647 : Int32)) % (7 : Int32))), .val (.ref w_ABS), .val (.int (1 : Int32)), .val (.int (1 : Int32)), .unset] [])) _
    refine XS.goto X1.here hx rfl (pc0 := 99) (pc' := 132) rfl (hb hby at_99) (by decide) (by decide) ?_
    show Steps p.tables e below (T1.setTop (mkF m 132 #[.val (.int p1), .val (.int p2), .val (.int p3), .val (.int ((p1 &&& (2147483647 : Int32)) % (7 : Int32))), .val (.ref w_ABS), .val (.int (1 : Int32)), .val (.int (1 : Int32)), .unset] [])) _
    refine XS.iloadN X1.here hx rfl (hb hby at_132) rfl ?_
    show Steps p.tables e below (T1.setTop (mkF m 133 #[.val (.int p1), .val (.int p2), .val (.int p3), .val (.int ((p1 &&& (2147483647 : Int32)) % (7 : Int32))), .val (.ref w_ABS), .val (.int (1 : Int32)), .val (.int (1 : Int32)), .unset] [(.int p3)])) _
    refine XS.bipush X1.here hx rfl (hb hby at_133) ?_
    show Steps p.tables e below (T1.setTop (mkF m 135 #[.val (.int p1), .val (.int p2), .val (.int p3), .val (.int ((p1 &&& (2147483647 : Int32)) % (7 : Int32))), .val (.ref w_ABS), .val (.int (1 : Int32)), .val (.int (1 : Int32)), .unset] [(.int (7 : Int32)), (.int p3)])) _
    refine XS.iand X1.here hx rfl (hb hby at_135) rfl ?_
    show Steps p.tables e below (T1.setTop (mkF m 136 #[.val (.int p1), .val (.int p2), .val (.int p3), .val (.int ((p1 &&& (2147483647 : Int32)) % (7 : Int32))), .val (.ref w_ABS), .val (.int (1 : Int32)), .val (.int (1 : Int32)), .unset] [(.int (p3 &&& (7 : Int32)))])) _
    refine XS.iconst X1.here hx rfl (hb hby at_136) ?_
    show Steps p.tables e below (T1.setTop (mkF m 137 #[.val (.int p1), .val (.int p2), .val (.int p3), .val (.int ((p1 &&& (2147483647 : Int32)) % (7 : Int32))), .val (.ref w_ABS), .val (.int (1 : Int32)), .val (.int (1 : Int32)), .unset] [(.int (2 : Int32)), (.int (p3 &&& (7 : Int32)))])) _
    refine XS.isub X1.here hx rfl (hb hby at_137) rfl ?_
    show Steps p.tables e below (T1.setTop (mkF m 138 #[.val (.int p1), .val (.int p2), .val (.int p3), .val (.int ((p1 &&& (2147483647 : Int32)) % (7 : Int32))), .val (.ref w_ABS), .val (.int (1 : Int32)), .val (.int (1 : Int32)), .unset] [(.int ((p3 &&& (7 : Int32)) - (2 : Int32)))])) _
    refine XS.istore X1.here hx rfl (hb hby at_138) rfl (l' := #[.val (.int p1), .val (.int p2), .val (.int p3), .val (.int ((p1 &&& (2147483647 : Int32)) % (7 : Int32))), .val (.ref w_ABS), .val (.int (1 : Int32)), .val (.int (1 : Int32)), .val (.int ((p3 &&& (7 : Int32)) - (2 : Int32)))]) rfl ?_
    show Steps p.tables e below (T1.setTop (mkF m 140 #[.val (.int p1), .val (.int p2), .val (.int p3), .val (.int ((p1 &&& (2147483647 : Int32)) % (7 : Int32))), .val (.ref w_ABS), .val (.int (1 : Int32)), .val (.int (1 : Int32)), .val (.int ((p3 &&& (7 : Int32)) - (2 : Int32)))] [])) _
    refine XS.aload X1.here hx rfl (hb hby at_140) rfl rfl ?_
    show Steps p.tables e below (T1.setTop (mkF m 142 #[.val (.int p1), .val (.int p2), .val (.int p3), .val (.int ((p1 &&& (2147483647 : Int32)) % (7 : Int32))), .val (.ref w_ABS), .val (.int (1 : Int32)), .val (.int (1 : Int32)), .val (.int ((p3 &&& (7 : Int32)) - (2 : Int32)))] [(.ref w_ABS)])) _
    refine XS.iload X1.here hx rfl (hb hby at_142) rfl ?_
    show Steps p.tables e below (T1.setTop (mkF m 144 #[.val (.int p1), .val (.int p2), .val (.int p3), .val (.int ((p1 &&& (2147483647 : Int32)) % (7 : Int32))), .val (.ref w_ABS), .val (.int (1 : Int32)), .val (.int (1 : Int32)), .val (.int ((p3 &&& (7 : Int32)) - (2 : Int32)))] [(.int (1 : Int32)), (.ref w_ABS)])) _
    refine XS.iload X1.here hx rfl (hb hby at_144) rfl ?_
    show Steps p.tables e below (T1.setTop (mkF m 146 #[.val (.int p1), .val (.int p2), .val (.int p3), .val (.int ((p1 &&& (2147483647 : Int32)) % (7 : Int32))), .val (.ref w_ABS), .val (.int (1 : Int32)), .val (.int (1 : Int32)), .val (.int ((p3 &&& (7 : Int32)) - (2 : Int32)))] [(.int (1 : Int32)), (.int (1 : Int32)), (.ref w_ABS)])) _
    refine XS.iloadN X1.here hx rfl (hb hby at_146) rfl ?_
    show Steps p.tables e below (T1.setTop (mkF m 147 #[.val (.int p1), .val (.int p2), .val (.int p3), .val (.int ((p1 &&& (2147483647 : Int32)) % (7 : Int32))), .val (.ref w_ABS), .val (.int (1 : Int32)), .val (.int (1 : Int32)), .val (.int ((p3 &&& (7 : Int32)) - (2 : Int32)))] [(.int p2), (.int (1 : Int32)), (.int (1 : Int32)), (.ref w_ABS)])) _
    refine st2 _ ?_
    show Steps p.tables e below (T2.setTop (mkF m 150 #[.val (.int p1), .val (.int p2), .val (.int p3), .val (.int ((p1 &&& (2147483647 : Int32)) % (7 : Int32))), .val (.ref w_ABS), .val (.int (1 : Int32)), .val (.int (1 : Int32)), .val (.int ((p3 &&& (7 : Int32)) - (2 : Int32)))] [(.int (1 : Int32))])) _
    refine XS.ifNo X2.here hx rfl (hb hby at_150) rfl ((if0 _ _).trans (feq (by decide : ¬ ((1 : Int32) = (0 : Int32)))).1) ?_
    show Steps p.tables e below (T2.setTop (mkF m 153 #[.val (.int p1), .val (.int p2), .val (.int p3), .val (.int ((p1 &&& (2147483647 : Int32)) % (7 : Int32))), .val (.ref w_ABS), .val (.int (1 : Int32)), .val (.int (1 : Int32)), .val (.int ((p3 &&& (7 : Int32)) - (2 : Int32)))] [])) _
    refine XS.aload X2.here hx rfl (hb hby at_153) rfl rfl ?_
    show Steps p.tables e below (T2.setTop (mkF m 155 #[.val (.int p1), .val (.int p2), .val (.int p3), .val (.int ((p1 &&& (2147483647 : Int32)) % (7 : Int32))), .val (.ref w_ABS), .val (.int (1 : Int32)), .val (.int (1 : Int32)), .val (.int ((p3 &&& (7 : Int32)) - (2 : Int32)))] [(.ref w_ABS)])) _
    refine XS.iload X2.here hx rfl (hb hby at_155) rfl ?_
    show Steps p.tables e below (T2.setTop (mkF m 157 #[.val (.int p1), .val (.int p2), .val (.int p3), .val (.int ((p1 &&& (2147483647 : Int32)) % (7 : Int32))), .val (.ref w_ABS), .val (.int (1 : Int32)), .val (.int (1 : Int32)), .val (.int ((p3 &&& (7 : Int32)) - (2 : Int32)))] [(.int (1 : Int32)), (.ref w_ABS)])) _
    refine XS.iload X2.here hx rfl (hb hby at_157) rfl ?_
    show Steps p.tables e below (T2.setTop (mkF m 159 #[.val (.int p1), .val (.int p2), .val (.int p3), .val (.int ((p1 &&& (2147483647 : Int32)) % (7 : Int32))), .val (.ref w_ABS), .val (.int (1 : Int32)), .val (.int (1 : Int32)), .val (.int ((p3 &&& (7 : Int32)) - (2 : Int32)))] [(.int (1 : Int32)), (.int (1 : Int32)), (.ref w_ABS)])) _
    refine XS.iload X2.here hx rfl (hb hby at_159) rfl ?_
    show Steps p.tables e below (T2.setTop (mkF m 161 #[.val (.int p1), .val (.int p2), .val (.int p3), .val (.int ((p1 &&& (2147483647 : Int32)) % (7 : Int32))), .val (.ref w_ABS), .val (.int (1 : Int32)), .val (.int (1 : Int32)), .val (.int ((p3 &&& (7 : Int32)) - (2 : Int32)))] [(.int ((p3 &&& (7 : Int32)) - (2 : Int32))), (.int (1 : Int32)), (.int (1 : Int32)), (.ref w_ABS)])) _
    refine st3 _ ?_
    show Steps p.tables e below (T3.setTop (mkF m 164 #[.val (.int p1), .val (.int p2), .val (.int p3), .val (.int ((p1 &&& (2147483647 : Int32)) % (7 : Int32))), .val (.ref w_ABS), .val (.int (1 : Int32)), .val (.int (1 : Int32)), .val (.int ((p3 &&& (7 : Int32)) - (2 : Int32)))] [(.int (1 : Int32))])) _
    refine XS.ifNo X3.here hx rfl (hb hby at_164) rfl ((if0 _ _).trans (feq (by decide : ¬ ((1 : Int32) = (0 : Int32)))).1) ?_
    show Steps p.tables e below (T3.setTop (mkF m 167 #[.val (.int p1), .val (.int p2), .val (.int p3), .val (.int ((p1 &&& (2147483647 : Int32)) % (7 : Int32))), .val (.ref w_ABS), .val (.int (1 : Int32)), .val (.int (1 : Int32)), .val (.int ((p3 &&& (7 : Int32)) - (2 : Int32)))] [])) _
    refine XS.iconst X3.here hx rfl (hb hby at_167) ?_
    show Steps p.tables e below (T3.setTop (mkF m 168 #[.val (.int p1), .val (.int p2), .val (.int p3), .val (.int ((p1 &&& (2147483647 : Int32)) % (7 : Int32))), .val (.ref w_ABS), .val (.int (1 : Int32)), .val (.int (1 : Int32)), .val (.int ((p3 &&& (7 : Int32)) - (2 : Int32)))] [(.int (1 : Int32))])) _
    refine XS.goto X3.here hx rfl (pc0 := 168) (pc' := 172) rfl (hb hby at_168) (by decide) (by decide) ?_
    show Steps p.tables e below (T3.setTop (mkF m 172 #[.val (.int p1), .val (.int p2), .val (.int p3), .val (.int ((p1 &&& (2147483647 : Int32)) % (7 : Int32))), .val (.ref w_ABS), .val (.int (1 : Int32)), .val (.int (1 : Int32)), .val (.int ((p3 &&& (7 : Int32)) - (2 : Int32)))] [(.int (1 : Int32))])) _
    exact retN X3 hx (t := .boolean) Bd.returns (by simp) (hb hby at_172) hr
  · show QP (.int (1 : Int32)) h0 n0 _ T3.heap _
    rw [e3]
    exact ⟨rfl, N3, rfl⟩
set_option maxRecDepth 65536 in
set_option maxHeartbeats 40000000 in
theorem rm0_tttf (l : Launch) (Z : State) (a0 : Array Value) (hw : ∀ d ∈ tables_1, d.before a0 Z = true) (ws : List Jvm.Cond) (p1 : Int32) (p2 : Int32) (p3 : Int32) (w_CONCAT : Addr) (w_SUBSTRING : Addr) (w_LOCATE : Addr) (w_LENGTH : Addr) (w_ABS : Addr) (w_SQRT : Addr) (w_MOD : Addr) (h0 : Heap) (n0 : Nat) (Z0 : n0 ≤ h0.size) (S_CONCAT : Sta Z h0 "com/example/steward/steward/ejbql/Operand$Function" "CONCAT" "Lcom/example/steward/steward/ejbql/Operand$Function;" (.ref w_CONCAT)) (S_SUBSTRING : Sta Z h0 "com/example/steward/steward/ejbql/Operand$Function" "SUBSTRING" "Lcom/example/steward/steward/ejbql/Operand$Function;" (.ref w_SUBSTRING)) (S_LOCATE : Sta Z h0 "com/example/steward/steward/ejbql/Operand$Function" "LOCATE" "Lcom/example/steward/steward/ejbql/Operand$Function;" (.ref w_LOCATE)) (S_LENGTH : Sta Z h0 "com/example/steward/steward/ejbql/Operand$Function" "LENGTH" "Lcom/example/steward/steward/ejbql/Operand$Function;" (.ref w_LENGTH)) (S_ABS : Sta Z h0 "com/example/steward/steward/ejbql/Operand$Function" "ABS" "Lcom/example/steward/steward/ejbql/Operand$Function;" (.ref w_ABS)) (S_SQRT : Sta Z h0 "com/example/steward/steward/ejbql/Operand$Function" "SQRT" "Lcom/example/steward/steward/ejbql/Operand$Function;" (.ref w_SQRT)) (S_MOD : Sta Z h0 "com/example/steward/steward/ejbql/Operand$Function" "MOD" "Lcom/example/steward/steward/ejbql/Operand$Function;" (.ref w_MOD)) (E_CONCAT : Exa Z h0 w_CONCAT "com/example/steward/steward/ejbql/Operand$Function") (E_SUBSTRING : Exa Z h0 w_SUBSTRING "com/example/steward/steward/ejbql/Operand$Function") (E_LOCATE : Exa Z h0 w_LOCATE "com/example/steward/steward/ejbql/Operand$Function") (E_LENGTH : Exa Z h0 w_LENGTH "com/example/steward/steward/ejbql/Operand$Function") (E_ABS : Exa Z h0 w_ABS "com/example/steward/steward/ejbql/Operand$Function") (E_SQRT : Exa Z h0 w_SQRT "com/example/steward/steward/ejbql/Operand$Function") (E_MOD : Exa Z h0 w_MOD "com/example/steward/steward/ejbql/Operand$Function") (F_CONCAT_min : Fld Z h0 w_CONCAT "com/example/steward/steward/ejbql/Operand$Function" "minArguments" "I" (.int (2 : Int32))) (F_CONCAT_max : Fld Z h0 w_CONCAT "com/example/steward/steward/ejbql/Operand$Function" "maxArguments" "I" (.int (2 : Int32))) (F_SUBSTRING_min : Fld Z h0 w_SUBSTRING "com/example/steward/steward/ejbql/Operand$Function" "minArguments" "I" (.int (3 : Int32))) (F_SUBSTRING_max : Fld Z h0 w_SUBSTRING "com/example/steward/steward/ejbql/Operand$Function" "maxArguments" "I" (.int (3 : Int32))) (F_LOCATE_min : Fld Z h0 w_LOCATE "com/example/steward/steward/ejbql/Operand$Function" "minArguments" "I" (.int (2 : Int32))) (F_LOCATE_max : Fld Z h0 w_LOCATE "com/example/steward/steward/ejbql/Operand$Function" "maxArguments" "I" (.int (3 : Int32))) (F_LENGTH_min : Fld Z h0 w_LENGTH "com/example/steward/steward/ejbql/Operand$Function" "minArguments" "I" (.int (1 : Int32))) (F_LENGTH_max : Fld Z h0 w_LENGTH "com/example/steward/steward/ejbql/Operand$Function" "maxArguments" "I" (.int (1 : Int32))) (F_ABS_min : Fld Z h0 w_ABS "com/example/steward/steward/ejbql/Operand$Function" "minArguments" "I" (.int (1 : Int32))) (F_ABS_max : Fld Z h0 w_ABS "com/example/steward/steward/ejbql/Operand$Function" "maxArguments" "I" (.int (1 : Int32))) (F_SQRT_min : Fld Z h0 w_SQRT "com/example/steward/steward/ejbql/Operand$Function" "minArguments" "I" (.int (1 : Int32))) (F_SQRT_max : Fld Z h0 w_SQRT "com/example/steward/steward/ejbql/Operand$Function" "maxArguments" "I" (.int (1 : Int32))) (F_MOD_min : Fld Z h0 w_MOD "com/example/steward/steward/ejbql/Operand$Function" "minArguments" "I" (.int (2 : Int32))) (F_MOD_max : Fld Z h0 w_MOD "com/example/steward/steward/ejbql/Operand$Function" "maxArguments" "I" (.int (2 : Int32))) (r : Int32) (hr0 : r = (1 : Int32)) (hc9 : ¬ (((p1 &&& (2147483647 : Int32)) % (7 : Int32)) = (0 : Int32))) (hc28 : ¬ (((p1 &&& (2147483647 : Int32)) % (7 : Int32)) = (1 : Int32))) (hc47 : ¬ (((p1 &&& (2147483647 : Int32)) % (7 : Int32)) = (2 : Int32))) (hc66 : ((p1 &&& (2147483647 : Int32)) % (7 : Int32)) = (3 : Int32)) :
    MetFree l x (head1 (Jvm.Cond.code x code maxLocals ret :: ws) room_1) (fun a U => a = #[(.int p1), (.int p2), (.int p3)] ∧ Z.Warmed39 U.vm ∧ U.heap = h0) (fun _ _ _ _ _ => True) (fun _ U o U' => ∃ v L, o = .returned v ∧ QP (.int r) h0 n0 v U'.heap L ∧ FrameEnd U o U' L room_1.cells room_1.slots) := by
  subst hr0
  refine MetFree.of_bodySF (plainFor_of_name pnm_1) hisR ?_
  intro p e s m args below meth c s₁ Bd hml0 hP hK
  obtain ⟨rfl, hZ, hh⟩ := hP
  have hx := Bd.exec
  have hby := Bd.bytes
  have hml : c.maxLocals = 8 := hml0
  have hown : s.vm.findClass "com/example/steward/steward/ejbql/FunctionTakesPinLaw" = some m.cls := findClass_of_methodNamed Bd.named
  have hnm := (name_of_methodNamed Bd.named Bd.method).1
  have X0 : Stand p l e room_1 s m #[(.int p1), (.int p2), (.int p3)] below meth c s₁ [] 0 0 := Stand.of_body Bd
  have e0 : s₁.heap = h0 := by rw [← hh, Bd.state]; rfl
  have N0 := Fr.nil n0
  have pre0 : ∀ t, Steps p.tables e below (s₁.setTop (mkF m 0 #[.val (.int p1), .val (.int p2), .val (.int p3), .unset, .unset, .unset, .unset, .unset] [])) t → Steps p.tables e below (s₁.setTop (entryFrame m #[(.int p1), (.int p2), (.int p3)] maxLocals)) t := fun t k => castTop (ef_rm0 m p1 p2 p3) k
  obtain ⟨T1, X1, e1, st1⟩ := getS2 X0 hx hZ hown (host := "") (Or.inl (hw _ (List.mem_of_getElem? (i := 19) rfl))) Via.refl e0 S_LENGTH (g := (mkF m 69 #[.val (.int p1), .val (.int p2), .val (.int p3), .val (.int ((p1 &&& (2147483647 : Int32)) % (7 : Int32))), .unset, .unset, .unset, .unset] [])) rfl (hb hby at_69)
  obtain ⟨_, _, ⟨T2, L2, k2, n2⟩, -, X2, ⟨Lc2, hQ2, l2, y2, z2⟩, st2⟩ := Jvm.LawKit.callS X1 hx (y := (⟨"com/example/steward/steward/ejbql/FunctionTakesPinLaw", "check", "(Lcom/example/steward/steward/ejbql/Operand$Function;III)Z"⟩ : MethodName)) hown (mvT hZ (hw _ (List.mem_of_getElem? (i := 4) rfl))) (mvT hZ (hw _ (List.mem_of_getElem? (i := 5) rfl))) (mvT hZ (hw _ (List.mem_of_getElem? (i := 6) rfl))) (mvT hZ (hw _ (List.mem_of_getElem? (i := 7) rfl))) (by decide) (backOf (W := 0) (rm1 l Z a0 hw [] w_LENGTH (1 : Int32) (1 : Int32) p2 (1 : Int32) (1 : Int32) (if p2 < (1 : Int32) then (0 : Int32) else (if (1 : Int32) < p2 then (0 : Int32) else (1 : Int32))) h0 n0 Z0 F_LENGTH_min F_LENGTH_max E_LENGTH rfl (1 : Int32) (own_chk_1_1 p2)) hZ (hw _ (List.mem_of_getElem? (i := 7) rfl)) (hw _ (List.mem_of_getElem? (i := 6) rfl)) (by decide) (by decide)) (g := (mkF m 147 #[.val (.int p1), .val (.int p2), .val (.int p3), .val (.int ((p1 &&& (2147483647 : Int32)) % (7 : Int32))), .val (.ref w_LENGTH), .val (.int (1 : Int32)), .val (.int (1 : Int32)), .val (.int ((p3 &&& (7 : Int32)) - (2 : Int32)))] [(.int p2), (.int (1 : Int32)), (.int (1 : Int32)), (.ref w_LENGTH)])) rfl (by rw [hml]; rfl) (argsL := [(.ref w_LENGTH), (.int (1 : Int32)), (.int (1 : Int32)), (.int p2)]) (rest := []) (lenOf pdm_1 rfl) rfl (by show 2 * 0 + _ ≤ _; exact Nat.le_of_eq rfl) (hb hby at_147) (fun _ _ => ⟨rfl, e1, (by decide : 0 + 0 ≤ _), (by decide : 0 + 0 ≤ _)⟩)
  dsimp only [Pt.U, Pt.locs, Pt.cells, Pt.slots] at X2 l2 y2 z2 st2 hQ2
  subst l2 y2 z2
  obtain ⟨rfl, N2q, e2⟩ := hQ2
  have N2 := Fr.app N0 N2q
  obtain ⟨_, _, ⟨T3, L3, k3, n3⟩, -, X3, ⟨Lc3, hQ3, l3, y3, z3⟩, st3⟩ := Jvm.LawKit.callS X2 hx (y := (⟨"com/example/steward/steward/ejbql/FunctionTakesPinLaw", "check", "(Lcom/example/steward/steward/ejbql/Operand$Function;III)Z"⟩ : MethodName)) hown (mvT hZ (hw _ (List.mem_of_getElem? (i := 4) rfl))) (mvT hZ (hw _ (List.mem_of_getElem? (i := 5) rfl))) (mvT hZ (hw _ (List.mem_of_getElem? (i := 6) rfl))) (mvT hZ (hw _ (List.mem_of_getElem? (i := 7) rfl))) (by decide) (backOf (W := 0) (rm1 l Z a0 hw [] w_LENGTH (1 : Int32) (1 : Int32) ((p3 &&& (7 : Int32)) - (2 : Int32)) (1 : Int32) (1 : Int32) (if ((p3 &&& (7 : Int32)) - (2 : Int32)) < (1 : Int32) then (0 : Int32) else (if (1 : Int32) < ((p3 &&& (7 : Int32)) - (2 : Int32)) then (0 : Int32) else (1 : Int32))) h0 n0 Z0 F_LENGTH_min F_LENGTH_max E_LENGTH rfl (1 : Int32) (own_chk_1_1 ((p3 &&& (7 : Int32)) - (2 : Int32)))) hZ (hw _ (List.mem_of_getElem? (i := 7) rfl)) (hw _ (List.mem_of_getElem? (i := 6) rfl)) (by decide) (by decide)) (g := (mkF m 161 #[.val (.int p1), .val (.int p2), .val (.int p3), .val (.int ((p1 &&& (2147483647 : Int32)) % (7 : Int32))), .val (.ref w_LENGTH), .val (.int (1 : Int32)), .val (.int (1 : Int32)), .val (.int ((p3 &&& (7 : Int32)) - (2 : Int32)))] [(.int ((p3 &&& (7 : Int32)) - (2 : Int32))), (.int (1 : Int32)), (.int (1 : Int32)), (.ref w_LENGTH)])) rfl (by rw [hml]; rfl) (argsL := [(.ref w_LENGTH), (.int (1 : Int32)), (.int (1 : Int32)), (.int ((p3 &&& (7 : Int32)) - (2 : Int32)))]) (rest := []) (lenOf pdm_1 rfl) rfl (by show 2 * 0 + _ ≤ _; exact Nat.le_of_eq rfl) (hb hby at_161) (fun _ _ => ⟨rfl, e2, (by decide : 0 + 0 ≤ _), (by decide : 0 + 0 ≤ _)⟩)
  dsimp only [Pt.U, Pt.locs, Pt.cells, Pt.slots] at X3 l3 y3 z3 st3 hQ3
  subst l3 y3 z3
  obtain ⟨rfl, N3q, e3⟩ := hQ3
  have N3 := Fr.app N2 N3q
  obtain ⟨fs, hr, hrun, hended, hW, hsame⟩ := X3.leave (v := some (.int (1 : Int32))) (fun h => by rw [Bd.returns] at h; cases h)
  refine ⟨_, _, pre0 _ ?_, hrun, hended, _, _, rfl, ?_, ⟨_, rfl⟩, hW, hsame.mono (by decide) (by decide)⟩
  · show Steps p.tables e below (s₁.setTop (mkF m 0 #[.val (.int p1), .val (.int p2), .val (.int p3), .unset, .unset, .unset, .unset, .unset] [])) _
    refine XS.iloadN X0.here hx rfl (hb hby at_0) rfl ?_
    show Steps p.tables e below (s₁.setTop (mkF m 1 #[.val (.int p1), .val (.int p2), .val (.int p3), .unset, .unset, .unset, .unset, .unset] [(.int p1)])) _
    refine X0.ldcInt hx hown (mvT hZ (hw _ (List.mem_of_getElem? (i := 0) rfl))) (g := (mkF m 1 #[.val (.int p1), .val (.int p2), .val (.int p3), .unset, .unset, .unset, .unset, .unset] [(.int p1)])) rfl (hb hby at_1) _ ?_
    show Steps p.tables e below (s₁.setTop (mkF m 3 #[.val (.int p1), .val (.int p2), .val (.int p3), .unset, .unset, .unset, .unset, .unset] [(.int (2147483647 : Int32)), (.int p1)])) _
    refine XS.iand X0.here hx rfl (hb hby at_3) rfl ?_
    show Steps p.tables e below (s₁.setTop (mkF m 4 #[.val (.int p1), .val (.int p2), .val (.int p3), .unset, .unset, .unset, .unset, .unset] [(.int (p1 &&& (2147483647 : Int32)))])) _
    refine XS.bipush X0.here hx rfl (hb hby at_4) ?_
    show Steps p.tables e below (s₁.setTop (mkF m 6 #[.val (.int p1), .val (.int p2), .val (.int p3), .unset, .unset, .unset, .unset, .unset] [(.int (7 : Int32)), (.int (p1 &&& (2147483647 : Int32)))])) _
    refine iremM X0 hx rfl (hb hby at_6) rfl (by decide) ?_
    show Steps p.tables e below (s₁.setTop (mkF m 7 #[.val (.int p1), .val (.int p2), .val (.int p3), .unset, .unset, .unset, .unset, .unset] [(.int ((p1 &&& (2147483647 : Int32)) % (7 : Int32)))])) _
    refine XS.istoreN X0.here hx rfl (hb hby at_7) rfl (l' := #[.val (.int p1), .val (.int p2), .val (.int p3), .val (.int ((p1 &&& (2147483647 : Int32)) % (7 : Int32))), .unset, .unset, .unset, .unset]) rfl ?_
    show Steps p.tables e below (s₁.setTop (mkF m 8 #[.val (.int p1), .val (.int p2), .val (.int p3), .val (.int ((p1 &&& (2147483647 : Int32)) % (7 : Int32))), .unset, .unset, .unset, .unset] [])) _
    refine XS.iloadN X0.here hx rfl (hb hby at_8) rfl ?_
    show Steps p.tables e below (s₁.setTop (mkF m 9 #[.val (.int p1), .val (.int p2), .val (.int p3), .val (.int ((p1 &&& (2147483647 : Int32)) % (7 : Int32))), .unset, .unset, .unset, .unset] [(.int ((p1 &&& (2147483647 : Int32)) % (7 : Int32)))])) _
    refine XS.ifYes X0.here hx rfl (pc0 := 9) (pc' := 26) rfl (hb hby at_9) rfl ((if0 _ _).trans (feq hc9).2) (by decide) (by decide) ?_
    show Steps p.tables e below (s₁.setTop (mkF m 26 #[.val (.int p1), .val (.int p2), .val (.int p3), .val (.int ((p1 &&& (2147483647 : Int32)) % (7 : Int32))), .unset, .unset, .unset, .unset] [])) _
    refine XS.iloadN X0.here hx rfl (hb hby at_26) rfl ?_
    show Steps p.tables e below (s₁.setTop (mkF m 27 #[.val (.int p1), .val (.int p2), .val (.int p3), .val (.int ((p1 &&& (2147483647 : Int32)) % (7 : Int32))), .unset, .unset, .unset, .unset] [(.int ((p1 &&& (2147483647 : Int32)) % (7 : Int32)))])) _
    refine XS.iconst X0.here hx rfl (hb hby at_27) ?_
    show Steps p.tables e below (s₁.setTop (mkF m 28 #[.val (.int p1), .val (.int p2), .val (.int p3), .val (.int ((p1 &&& (2147483647 : Int32)) % (7 : Int32))), .unset, .unset, .unset, .unset] [(.int (1 : Int32)), (.int ((p1 &&& (2147483647 : Int32)) % (7 : Int32)))])) _
    refine XS.icmpYes X0.here hx rfl (pc0 := 28) (pc' := 45) rfl (hb hby at_28) rfl (feq hc28).2 (by decide) (by decide) ?_
    show Steps p.tables e below (s₁.setTop (mkF m 45 #[.val (.int p1), .val (.int p2), .val (.int p3), .val (.int ((p1 &&& (2147483647 : Int32)) % (7 : Int32))), .unset, .unset, .unset, .unset] [])) _
    refine XS.iloadN X0.here hx rfl (hb hby at_45) rfl ?_
    show Steps p.tables e below (s₁.setTop (mkF m 46 #[.val (.int p1), .val (.int p2), .val (.int p3), .val (.int ((p1 &&& (2147483647 : Int32)) % (7 : Int32))), .unset, .unset, .unset, .unset] [(.int ((p1 &&& (2147483647 : Int32)) % (7 : Int32)))])) _
    refine XS.iconst X0.here hx rfl (hb hby at_46) ?_
    show Steps p.tables e below (s₁.setTop (mkF m 47 #[.val (.int p1), .val (.int p2), .val (.int p3), .val (.int ((p1 &&& (2147483647 : Int32)) % (7 : Int32))), .unset, .unset, .unset, .unset] [(.int (2 : Int32)), (.int ((p1 &&& (2147483647 : Int32)) % (7 : Int32)))])) _
    refine XS.icmpYes X0.here hx rfl (pc0 := 47) (pc' := 64) rfl (hb hby at_47) rfl (feq hc47).2 (by decide) (by decide) ?_
    show Steps p.tables e below (s₁.setTop (mkF m 64 #[.val (.int p1), .val (.int p2), .val (.int p3), .val (.int ((p1 &&& (2147483647 : Int32)) % (7 : Int32))), .unset, .unset, .unset, .unset] [])) _
    refine XS.iloadN X0.here hx rfl (hb hby at_64) rfl ?_
    show Steps p.tables e below (s₁.setTop (mkF m 65 #[.val (.int p1), .val (.int p2), .val (.int p3), .val (.int ((p1 &&& (2147483647 : Int32)) % (7 : Int32))), .unset, .unset, .unset, .unset] [(.int ((p1 &&& (2147483647 : Int32)) % (7 : Int32)))])) _
    refine XS.iconst X0.here hx rfl (hb hby at_65) ?_
    show Steps p.tables e below (s₁.setTop (mkF m 66 #[.val (.int p1), .val (.int p2), .val (.int p3), .val (.int ((p1 &&& (2147483647 : Int32)) % (7 : Int32))), .unset, .unset, .unset, .unset] [(.int (3 : Int32)), (.int ((p1 &&& (2147483647 : Int32)) % (7 : Int32)))])) _
    refine XS.icmpNo X0.here hx rfl (hb hby at_66) rfl (teq hc66).2 ?_
    show Steps p.tables e below (s₁.setTop (mkF m 69 #[.val (.int p1), .val (.int p2), .val (.int p3), .val (.int ((p1 &&& (2147483647 : Int32)) % (7 : Int32))), .unset, .unset, .unset, .unset] [])) _
    refine st1 _ ?_
    show Steps p.tables e below (T1.setTop (mkF m 72 #[.val (.int p1), .val (.int p2), .val (.int p3), .val (.int ((p1 &&& (2147483647 : Int32)) % (7 : Int32))), .unset, .unset, .unset, .unset] [(.ref w_LENGTH)])) _
    refine XS.astore X1.here hx rfl (hb hby at_72) rfl rfl (l' := #[.val (.int p1), .val (.int p2), .val (.int p3), .val (.int ((p1 &&& (2147483647 : Int32)) % (7 : Int32))), .val (.ref w_LENGTH), .unset, .unset, .unset]) rfl ?_
    show Steps p.tables e below (T1.setTop (mkF m 74 #[.val (.int p1), .val (.int p2), .val (.int p3), .val (.int ((p1 &&& (2147483647 : Int32)) % (7 : Int32))), .val (.ref w_LENGTH), .unset, .unset, .unset] [])) _
    refine XS.iconst X1.here hx rfl (hb hby at_74) ?_
    show Steps p.tables e below (T1.setTop (mkF m 75 #[.val (.int p1), .val (.int p2), .val (.int p3), .val (.int ((p1 &&& (2147483647 : Int32)) % (7 : Int32))), .val (.ref w_LENGTH), .unset, .unset, .unset] [(.int (1 : Int32))])) _
    refine XS.istore X1.here hx rfl (hb hby at_75) rfl (l' := #[.val (.int p1), .val (.int p2), .val (.int p3), .val (.int ((p1 &&& (2147483647 : Int32)) % (7 : Int32))), .val (.ref w_LENGTH), .val (.int (1 : Int32)), .unset, .unset]) rfl ?_
    show Steps p.tables e below (T1.setTop (mkF m 77 #[.val (.int p1), .val (.int p2), .val (.int p3), .val (.int ((p1 &&& (2147483647 : Int32)) % (7 : Int32))), .val (.ref w_LENGTH), .val (.int (1 : Int32)), .unset, .unset] [])) _
    refine XS.iconst X1.here hx rfl (hb hby at_77) ?_
    show Steps p.tables e below (T1.setTop (mkF m 78 #[.val (.int p1), .val (.int p2), .val (.int p3), .val (.int ((p1 &&& (2147483647 : Int32)) % (7 : Int32))), .val (.ref w_LENGTH), .val (.int (1 : Int32)), .unset, .unset] [(.int (1 : Int32))])) _
    refine XS.istore X1.here hx rfl (hb hby at_78) rfl (l' := #[.val (.int p1), .val (.int p2), .val (.int p3), .val (.int ((p1 &&& (2147483647 : Int32)) % (7 : Int32))), .val (.ref w_LENGTH), .val (.int (1 : Int32)), .val (.int (1 : Int32)), .unset]) rfl ?_
    show Steps p.tables e below (T1.setTop (mkF m 80 #[.val (.int p1), .val (.int p2), .val (.int p3), .val (.int ((p1 &&& (2147483647 : Int32)) % (7 : Int32))), .val (.ref w_LENGTH), .val (.int (1 : Int32)), .val (.int (1 : Int32)), .unset] [])) _
    refine XS.goto X1.here hx rfl (pc0 := 80) (pc' := 132) rfl (hb hby at_80) (by decide) (by decide) ?_
    show Steps p.tables e below (T1.setTop (mkF m 132 #[.val (.int p1), .val (.int p2), .val (.int p3), .val (.int ((p1 &&& (2147483647 : Int32)) % (7 : Int32))), .val (.ref w_LENGTH), .val (.int (1 : Int32)), .val (.int (1 : Int32)), .unset] [])) _
    refine XS.iloadN X1.here hx rfl (hb hby at_132) rfl ?_
    show Steps p.tables e below (T1.setTop (mkF m 133 #[.val (.int p1), .val (.int p2), .val (.int p3), .val (.int ((p1 &&& (2147483647 : Int32)) % (7 : Int32))), .val (.ref w_LENGTH), .val (.int (1 : Int32)), .val (.int (1 : Int32)), .unset] [(.int p3)])) _
    refine XS.bipush X1.here hx rfl (hb hby at_133) ?_
    show Steps p.tables e below (T1.setTop (mkF m 135 #[.val (.int p1), .val (.int p2), .val (.int p3), .val (.int ((p1 &&& (2147483647 : Int32)) % (7 : Int32))), .val (.ref w_LENGTH), .val (.int (1 : Int32)), .val (.int (1 : Int32)), .unset] [(.int (7 : Int32)), (.int p3)])) _
    refine XS.iand X1.here hx rfl (hb hby at_135) rfl ?_
    show Steps p.tables e below (T1.setTop (mkF m 136 #[.val (.int p1), .val (.int p2), .val (.int p3), .val (.int ((p1 &&& (2147483647 : Int32)) % (7 : Int32))), .val (.ref w_LENGTH), .val (.int (1 : Int32)), .val (.int (1 : Int32)), .unset] [(.int (p3 &&& (7 : Int32)))])) _
    refine XS.iconst X1.here hx rfl (hb hby at_136) ?_
    show Steps p.tables e below (T1.setTop (mkF m 137 #[.val (.int p1), .val (.int p2), .val (.int p3), .val (.int ((p1 &&& (2147483647 : Int32)) % (7 : Int32))), .val (.ref w_LENGTH), .val (.int (1 : Int32)), .val (.int (1 : Int32)), .unset] [(.int (2 : Int32)), (.int (p3 &&& (7 : Int32)))])) _
    refine XS.isub X1.here hx rfl (hb hby at_137) rfl ?_
    show Steps p.tables e below (T1.setTop (mkF m 138 #[.val (.int p1), .val (.int p2), .val (.int p3), .val (.int ((p1 &&& (2147483647 : Int32)) % (7 : Int32))), .val (.ref w_LENGTH), .val (.int (1 : Int32)), .val (.int (1 : Int32)), .unset] [(.int ((p3 &&& (7 : Int32)) - (2 : Int32)))])) _
    refine XS.istore X1.here hx rfl (hb hby at_138) rfl (l' := #[.val (.int p1), .val (.int p2), .val (.int p3), .val (.int ((p1 &&& (2147483647 : Int32)) % (7 : Int32))), .val (.ref w_LENGTH), .val (.int (1 : Int32)), .val (.int (1 : Int32)), .val (.int ((p3 &&& (7 : Int32)) - (2 : Int32)))]) rfl ?_
    show Steps p.tables e below (T1.setTop (mkF m 140 #[.val (.int p1), .val (.int p2), .val (.int p3), .val (.int ((p1 &&& (2147483647 : Int32)) % (7 : Int32))), .val (.ref w_LENGTH), .val (.int (1 : Int32)), .val (.int (1 : Int32)), .val (.int ((p3 &&& (7 : Int32)) - (2 : Int32)))] [])) _
    refine XS.aload X1.here hx rfl (hb hby at_140) rfl rfl ?_
    show Steps p.tables e below (T1.setTop (mkF m 142 #[.val (.int p1), .val (.int p2), .val (.int p3), .val (.int ((p1 &&& (2147483647 : Int32)) % (7 : Int32))), .val (.ref w_LENGTH), .val (.int (1 : Int32)), .val (.int (1 : Int32)), .val (.int ((p3 &&& (7 : Int32)) - (2 : Int32)))] [(.ref w_LENGTH)])) _
    refine XS.iload X1.here hx rfl (hb hby at_142) rfl ?_
    show Steps p.tables e below (T1.setTop (mkF m 144 #[.val (.int p1), .val (.int p2), .val (.int p3), .val (.int ((p1 &&& (2147483647 : Int32)) % (7 : Int32))), .val (.ref w_LENGTH), .val (.int (1 : Int32)), .val (.int (1 : Int32)), .val (.int ((p3 &&& (7 : Int32)) - (2 : Int32)))] [(.int (1 : Int32)), (.ref w_LENGTH)])) _
    refine XS.iload X1.here hx rfl (hb hby at_144) rfl ?_
    show Steps p.tables e below (T1.setTop (mkF m 146 #[.val (.int p1), .val (.int p2), .val (.int p3), .val (.int ((p1 &&& (2147483647 : Int32)) % (7 : Int32))), .val (.ref w_LENGTH), .val (.int (1 : Int32)), .val (.int (1 : Int32)), .val (.int ((p3 &&& (7 : Int32)) - (2 : Int32)))] [(.int (1 : Int32)), (.int (1 : Int32)), (.ref w_LENGTH)])) _
    refine XS.iloadN X1.here hx rfl (hb hby at_146) rfl ?_
    show Steps p.tables e below (T1.setTop (mkF m 147 #[.val (.int p1), .val (.int p2), .val (.int p3), .val (.int ((p1 &&& (2147483647 : Int32)) % (7 : Int32))), .val (.ref w_LENGTH), .val (.int (1 : Int32)), .val (.int (1 : Int32)), .val (.int ((p3 &&& (7 : Int32)) - (2 : Int32)))] [(.int p2), (.int (1 : Int32)), (.int (1 : Int32)), (.ref w_LENGTH)])) _
    refine st2 _ ?_
    show Steps p.tables e below (T2.setTop (mkF m 150 #[.val (.int p1), .val (.int p2), .val (.int p3), .val (.int ((p1 &&& (2147483647 : Int32)) % (7 : Int32))), .val (.ref w_LENGTH), .val (.int (1 : Int32)), .val (.int (1 : Int32)), .val (.int ((p3 &&& (7 : Int32)) - (2 : Int32)))] [(.int (1 : Int32))])) _
    refine XS.ifNo X2.here hx rfl (hb hby at_150) rfl ((if0 _ _).trans (feq (by decide : ¬ ((1 : Int32) = (0 : Int32)))).1) ?_
    show Steps p.tables e below (T2.setTop (mkF m 153 #[.val (.int p1), .val (.int p2), .val (.int p3), .val (.int ((p1 &&& (2147483647 : Int32)) % (7 : Int32))), .val (.ref w_LENGTH), .val (.int (1 : Int32)), .val (.int (1 : Int32)), .val (.int ((p3 &&& (7 : Int32)) - (2 : Int32)))] [])) _
    refine XS.aload X2.here hx rfl (hb hby at_153) rfl rfl ?_
    show Steps p.tables e below (T2.setTop (mkF m 155 #[.val (.int p1), .val (.int p2), .val (.int p3), .val (.int ((p1 &&& (2147483647 : Int32)) % (7 : Int32))), .val (.ref w_LENGTH), .val (.int (1 : Int32)), .val (.int (1 : Int32)), .val (.int ((p3 &&& (7 : Int32)) - (2 : Int32)))] [(.ref w_LENGTH)])) _
    refine XS.iload X2.here hx rfl (hb hby at_155) rfl ?_
    show Steps p.tables e below (T2.setTop (mkF m 157 #[.val (.int p1), .val (.int p2), .val (.int p3), .val (.int ((p1 &&& (2147483647 : Int32)) % (7 : Int32))), .val (.ref w_LENGTH), .val (.int (1 : Int32)), .val (.int (1 : Int32)), .val (.int ((p3 &&& (7 : Int32)) - (2 : Int32)))] [(.int (1 : Int32)), (.ref w_LENGTH)])) _
    refine XS.iload X2.here hx rfl (hb hby at_157) rfl ?_
    show Steps p.tables e below (T2.setTop (mkF m 159 #[.val (.int p1), .val (.int p2), .val (.int p3), .val (.int ((p1 &&& (2147483647 : Int32)) % (7 : Int32))), .val (.ref w_LENGTH), .val (.int (1 : Int32)), .val (.int (1 : Int32)), .val (.int ((p3 &&& (7 : Int32)) - (2 : Int32)))] [(.int (1 : Int32)), (.int (1 : Int32)), (.ref w_LENGTH)])) _
    refine XS.iload X2.here hx rfl (hb hby at_159) rfl ?_
    show Steps p.tables e below (T2.setTop (mkF m 161 #[.val (.int p1), .val (.int p2), .val (.int p3), .val (.int ((p1 &&& (2147483647 : Int32)) % (7 : Int32))), .val (.ref w_LENGTH), .val (.int (1 : Int32)), .val (.int (1 : Int32)), .val (.int ((p3 &&& (7 : Int32)) - (2 : Int32)))] [(.int ((p3 &&& (7 : Int32)) - (2 : Int32))), (.int (1 : Int32)), (.int (1 : Int32)), (.ref w_LENGTH)])) _
    refine st3 _ ?_
    show Steps p.tables e below (T3.setTop (mkF m 164 #[.val (.int p1), .val (.int p2), .val (.int p3), .val (.int ((p1 &&& (2147483647 : Int32)) % (7 : Int32))), .val (.ref w_LENGTH), .val (.int (1 : Int32)), .val (.int (1 : Int32)), .val (.int ((p3 &&& (7 : Int32)) - (2 : Int32)))] [(.int (1 : Int32))])) _
    refine XS.ifNo X3.here hx rfl (hb hby at_164) rfl ((if0 _ _).trans (feq (by decide : ¬ ((1 : Int32) = (0 : Int32)))).1) ?_
    show Steps p.tables e below (T3.setTop (mkF m 167 #[.val (.int p1), .val (.int p2), .val (.int p3), .val (.int ((p1 &&& (2147483647 : Int32)) % (7 : Int32))), .val (.ref w_LENGTH), .val (.int (1 : Int32)), .val (.int (1 : Int32)), .val (.int ((p3 &&& (7 : Int32)) - (2 : Int32)))] [])) _
    refine XS.iconst X3.here hx rfl (hb hby at_167) ?_
    show Steps p.tables e below (T3.setTop (mkF m 168 #[.val (.int p1), .val (.int p2), .val (.int p3), .val (.int ((p1 &&& (2147483647 : Int32)) % (7 : Int32))), .val (.ref w_LENGTH), .val (.int (1 : Int32)), .val (.int (1 : Int32)), .val (.int ((p3 &&& (7 : Int32)) - (2 : Int32)))] [(.int (1 : Int32))])) _
    refine XS.goto X3.here hx rfl (pc0 := 168) (pc' := 172) rfl (hb hby at_168) (by decide) (by decide) ?_
    show Steps p.tables e below (T3.setTop (mkF m 172 #[.val (.int p1), .val (.int p2), .val (.int p3), .val (.int ((p1 &&& (2147483647 : Int32)) % (7 : Int32))), .val (.ref w_LENGTH), .val (.int (1 : Int32)), .val (.int (1 : Int32)), .val (.int ((p3 &&& (7 : Int32)) - (2 : Int32)))] [(.int (1 : Int32))])) _
    exact retN X3 hx (t := .boolean) Bd.returns (by simp) (hb hby at_172) hr
  · show QP (.int (1 : Int32)) h0 n0 _ T3.heap _
    rw [e3]
    exact ⟨rfl, N3, rfl⟩
set_option maxRecDepth 65536 in
set_option maxHeartbeats 40000000 in
theorem rm0_ttf (l : Launch) (Z : State) (a0 : Array Value) (hw : ∀ d ∈ tables_1, d.before a0 Z = true) (ws : List Jvm.Cond) (p1 : Int32) (p2 : Int32) (p3 : Int32) (w_CONCAT : Addr) (w_SUBSTRING : Addr) (w_LOCATE : Addr) (w_LENGTH : Addr) (w_ABS : Addr) (w_SQRT : Addr) (w_MOD : Addr) (h0 : Heap) (n0 : Nat) (Z0 : n0 ≤ h0.size) (S_CONCAT : Sta Z h0 "com/example/steward/steward/ejbql/Operand$Function" "CONCAT" "Lcom/example/steward/steward/ejbql/Operand$Function;" (.ref w_CONCAT)) (S_SUBSTRING : Sta Z h0 "com/example/steward/steward/ejbql/Operand$Function" "SUBSTRING" "Lcom/example/steward/steward/ejbql/Operand$Function;" (.ref w_SUBSTRING)) (S_LOCATE : Sta Z h0 "com/example/steward/steward/ejbql/Operand$Function" "LOCATE" "Lcom/example/steward/steward/ejbql/Operand$Function;" (.ref w_LOCATE)) (S_LENGTH : Sta Z h0 "com/example/steward/steward/ejbql/Operand$Function" "LENGTH" "Lcom/example/steward/steward/ejbql/Operand$Function;" (.ref w_LENGTH)) (S_ABS : Sta Z h0 "com/example/steward/steward/ejbql/Operand$Function" "ABS" "Lcom/example/steward/steward/ejbql/Operand$Function;" (.ref w_ABS)) (S_SQRT : Sta Z h0 "com/example/steward/steward/ejbql/Operand$Function" "SQRT" "Lcom/example/steward/steward/ejbql/Operand$Function;" (.ref w_SQRT)) (S_MOD : Sta Z h0 "com/example/steward/steward/ejbql/Operand$Function" "MOD" "Lcom/example/steward/steward/ejbql/Operand$Function;" (.ref w_MOD)) (E_CONCAT : Exa Z h0 w_CONCAT "com/example/steward/steward/ejbql/Operand$Function") (E_SUBSTRING : Exa Z h0 w_SUBSTRING "com/example/steward/steward/ejbql/Operand$Function") (E_LOCATE : Exa Z h0 w_LOCATE "com/example/steward/steward/ejbql/Operand$Function") (E_LENGTH : Exa Z h0 w_LENGTH "com/example/steward/steward/ejbql/Operand$Function") (E_ABS : Exa Z h0 w_ABS "com/example/steward/steward/ejbql/Operand$Function") (E_SQRT : Exa Z h0 w_SQRT "com/example/steward/steward/ejbql/Operand$Function") (E_MOD : Exa Z h0 w_MOD "com/example/steward/steward/ejbql/Operand$Function") (F_CONCAT_min : Fld Z h0 w_CONCAT "com/example/steward/steward/ejbql/Operand$Function" "minArguments" "I" (.int (2 : Int32))) (F_CONCAT_max : Fld Z h0 w_CONCAT "com/example/steward/steward/ejbql/Operand$Function" "maxArguments" "I" (.int (2 : Int32))) (F_SUBSTRING_min : Fld Z h0 w_SUBSTRING "com/example/steward/steward/ejbql/Operand$Function" "minArguments" "I" (.int (3 : Int32))) (F_SUBSTRING_max : Fld Z h0 w_SUBSTRING "com/example/steward/steward/ejbql/Operand$Function" "maxArguments" "I" (.int (3 : Int32))) (F_LOCATE_min : Fld Z h0 w_LOCATE "com/example/steward/steward/ejbql/Operand$Function" "minArguments" "I" (.int (2 : Int32))) (F_LOCATE_max : Fld Z h0 w_LOCATE "com/example/steward/steward/ejbql/Operand$Function" "maxArguments" "I" (.int (3 : Int32))) (F_LENGTH_min : Fld Z h0 w_LENGTH "com/example/steward/steward/ejbql/Operand$Function" "minArguments" "I" (.int (1 : Int32))) (F_LENGTH_max : Fld Z h0 w_LENGTH "com/example/steward/steward/ejbql/Operand$Function" "maxArguments" "I" (.int (1 : Int32))) (F_ABS_min : Fld Z h0 w_ABS "com/example/steward/steward/ejbql/Operand$Function" "minArguments" "I" (.int (1 : Int32))) (F_ABS_max : Fld Z h0 w_ABS "com/example/steward/steward/ejbql/Operand$Function" "maxArguments" "I" (.int (1 : Int32))) (F_SQRT_min : Fld Z h0 w_SQRT "com/example/steward/steward/ejbql/Operand$Function" "minArguments" "I" (.int (1 : Int32))) (F_SQRT_max : Fld Z h0 w_SQRT "com/example/steward/steward/ejbql/Operand$Function" "maxArguments" "I" (.int (1 : Int32))) (F_MOD_min : Fld Z h0 w_MOD "com/example/steward/steward/ejbql/Operand$Function" "minArguments" "I" (.int (2 : Int32))) (F_MOD_max : Fld Z h0 w_MOD "com/example/steward/steward/ejbql/Operand$Function" "maxArguments" "I" (.int (2 : Int32))) (r : Int32) (hr0 : r = (1 : Int32)) (hc9 : ¬ (((p1 &&& (2147483647 : Int32)) % (7 : Int32)) = (0 : Int32))) (hc28 : ¬ (((p1 &&& (2147483647 : Int32)) % (7 : Int32)) = (1 : Int32))) (hc47 : ((p1 &&& (2147483647 : Int32)) % (7 : Int32)) = (2 : Int32)) :
    MetFree l x (head1 (Jvm.Cond.code x code maxLocals ret :: ws) room_1) (fun a U => a = #[(.int p1), (.int p2), (.int p3)] ∧ Z.Warmed39 U.vm ∧ U.heap = h0) (fun _ _ _ _ _ => True) (fun _ U o U' => ∃ v L, o = .returned v ∧ QP (.int r) h0 n0 v U'.heap L ∧ FrameEnd U o U' L room_1.cells room_1.slots) := by
  subst hr0
  refine MetFree.of_bodySF (plainFor_of_name pnm_1) hisR ?_
  intro p e s m args below meth c s₁ Bd hml0 hP hK
  obtain ⟨rfl, hZ, hh⟩ := hP
  have hx := Bd.exec
  have hby := Bd.bytes
  have hml : c.maxLocals = 8 := hml0
  have hown : s.vm.findClass "com/example/steward/steward/ejbql/FunctionTakesPinLaw" = some m.cls := findClass_of_methodNamed Bd.named
  have hnm := (name_of_methodNamed Bd.named Bd.method).1
  have X0 : Stand p l e room_1 s m #[(.int p1), (.int p2), (.int p3)] below meth c s₁ [] 0 0 := Stand.of_body Bd
  have e0 : s₁.heap = h0 := by rw [← hh, Bd.state]; rfl
  have N0 := Fr.nil n0
  have pre0 : ∀ t, Steps p.tables e below (s₁.setTop (mkF m 0 #[.val (.int p1), .val (.int p2), .val (.int p3), .unset, .unset, .unset, .unset, .unset] [])) t → Steps p.tables e below (s₁.setTop (entryFrame m #[(.int p1), (.int p2), (.int p3)] maxLocals)) t := fun t k => castTop (ef_rm0 m p1 p2 p3) k
  obtain ⟨T1, X1, e1, st1⟩ := getS2 X0 hx hZ hown (host := "") (Or.inl (hw _ (List.mem_of_getElem? (i := 23) rfl))) Via.refl e0 S_LOCATE (g := (mkF m 50 #[.val (.int p1), .val (.int p2), .val (.int p3), .val (.int ((p1 &&& (2147483647 : Int32)) % (7 : Int32))), .unset, .unset, .unset, .unset] [])) rfl (hb hby at_50)
  obtain ⟨_, _, ⟨T2, L2, k2, n2⟩, -, X2, ⟨Lc2, hQ2, l2, y2, z2⟩, st2⟩ := Jvm.LawKit.callS X1 hx (y := (⟨"com/example/steward/steward/ejbql/FunctionTakesPinLaw", "check", "(Lcom/example/steward/steward/ejbql/Operand$Function;III)Z"⟩ : MethodName)) hown (mvT hZ (hw _ (List.mem_of_getElem? (i := 4) rfl))) (mvT hZ (hw _ (List.mem_of_getElem? (i := 5) rfl))) (mvT hZ (hw _ (List.mem_of_getElem? (i := 6) rfl))) (mvT hZ (hw _ (List.mem_of_getElem? (i := 7) rfl))) (by decide) (backOf (W := 0) (rm1 l Z a0 hw [] w_LOCATE (2 : Int32) (3 : Int32) p2 (2 : Int32) (3 : Int32) (if p2 < (2 : Int32) then (0 : Int32) else (if (3 : Int32) < p2 then (0 : Int32) else (1 : Int32))) h0 n0 Z0 F_LOCATE_min F_LOCATE_max E_LOCATE rfl (1 : Int32) (own_chk_2_3 p2)) hZ (hw _ (List.mem_of_getElem? (i := 7) rfl)) (hw _ (List.mem_of_getElem? (i := 6) rfl)) (by decide) (by decide)) (g := (mkF m 147 #[.val (.int p1), .val (.int p2), .val (.int p3), .val (.int ((p1 &&& (2147483647 : Int32)) % (7 : Int32))), .val (.ref w_LOCATE), .val (.int (2 : Int32)), .val (.int (3 : Int32)), .val (.int ((p3 &&& (7 : Int32)) - (2 : Int32)))] [(.int p2), (.int (3 : Int32)), (.int (2 : Int32)), (.ref w_LOCATE)])) rfl (by rw [hml]; rfl) (argsL := [(.ref w_LOCATE), (.int (2 : Int32)), (.int (3 : Int32)), (.int p2)]) (rest := []) (lenOf pdm_1 rfl) rfl (by show 2 * 0 + _ ≤ _; exact Nat.le_of_eq rfl) (hb hby at_147) (fun _ _ => ⟨rfl, e1, (by decide : 0 + 0 ≤ _), (by decide : 0 + 0 ≤ _)⟩)
  dsimp only [Pt.U, Pt.locs, Pt.cells, Pt.slots] at X2 l2 y2 z2 st2 hQ2
  subst l2 y2 z2
  obtain ⟨rfl, N2q, e2⟩ := hQ2
  have N2 := Fr.app N0 N2q
  obtain ⟨_, _, ⟨T3, L3, k3, n3⟩, -, X3, ⟨Lc3, hQ3, l3, y3, z3⟩, st3⟩ := Jvm.LawKit.callS X2 hx (y := (⟨"com/example/steward/steward/ejbql/FunctionTakesPinLaw", "check", "(Lcom/example/steward/steward/ejbql/Operand$Function;III)Z"⟩ : MethodName)) hown (mvT hZ (hw _ (List.mem_of_getElem? (i := 4) rfl))) (mvT hZ (hw _ (List.mem_of_getElem? (i := 5) rfl))) (mvT hZ (hw _ (List.mem_of_getElem? (i := 6) rfl))) (mvT hZ (hw _ (List.mem_of_getElem? (i := 7) rfl))) (by decide) (backOf (W := 0) (rm1 l Z a0 hw [] w_LOCATE (2 : Int32) (3 : Int32) ((p3 &&& (7 : Int32)) - (2 : Int32)) (2 : Int32) (3 : Int32) (if ((p3 &&& (7 : Int32)) - (2 : Int32)) < (2 : Int32) then (0 : Int32) else (if (3 : Int32) < ((p3 &&& (7 : Int32)) - (2 : Int32)) then (0 : Int32) else (1 : Int32))) h0 n0 Z0 F_LOCATE_min F_LOCATE_max E_LOCATE rfl (1 : Int32) (own_chk_2_3 ((p3 &&& (7 : Int32)) - (2 : Int32)))) hZ (hw _ (List.mem_of_getElem? (i := 7) rfl)) (hw _ (List.mem_of_getElem? (i := 6) rfl)) (by decide) (by decide)) (g := (mkF m 161 #[.val (.int p1), .val (.int p2), .val (.int p3), .val (.int ((p1 &&& (2147483647 : Int32)) % (7 : Int32))), .val (.ref w_LOCATE), .val (.int (2 : Int32)), .val (.int (3 : Int32)), .val (.int ((p3 &&& (7 : Int32)) - (2 : Int32)))] [(.int ((p3 &&& (7 : Int32)) - (2 : Int32))), (.int (3 : Int32)), (.int (2 : Int32)), (.ref w_LOCATE)])) rfl (by rw [hml]; rfl) (argsL := [(.ref w_LOCATE), (.int (2 : Int32)), (.int (3 : Int32)), (.int ((p3 &&& (7 : Int32)) - (2 : Int32)))]) (rest := []) (lenOf pdm_1 rfl) rfl (by show 2 * 0 + _ ≤ _; exact Nat.le_of_eq rfl) (hb hby at_161) (fun _ _ => ⟨rfl, e2, (by decide : 0 + 0 ≤ _), (by decide : 0 + 0 ≤ _)⟩)
  dsimp only [Pt.U, Pt.locs, Pt.cells, Pt.slots] at X3 l3 y3 z3 st3 hQ3
  subst l3 y3 z3
  obtain ⟨rfl, N3q, e3⟩ := hQ3
  have N3 := Fr.app N2 N3q
  obtain ⟨fs, hr, hrun, hended, hW, hsame⟩ := X3.leave (v := some (.int (1 : Int32))) (fun h => by rw [Bd.returns] at h; cases h)
  refine ⟨_, _, pre0 _ ?_, hrun, hended, _, _, rfl, ?_, ⟨_, rfl⟩, hW, hsame.mono (by decide) (by decide)⟩
  · show Steps p.tables e below (s₁.setTop (mkF m 0 #[.val (.int p1), .val (.int p2), .val (.int p3), .unset, .unset, .unset, .unset, .unset] [])) _
    refine XS.iloadN X0.here hx rfl (hb hby at_0) rfl ?_
    show Steps p.tables e below (s₁.setTop (mkF m 1 #[.val (.int p1), .val (.int p2), .val (.int p3), .unset, .unset, .unset, .unset, .unset] [(.int p1)])) _
    refine X0.ldcInt hx hown (mvT hZ (hw _ (List.mem_of_getElem? (i := 0) rfl))) (g := (mkF m 1 #[.val (.int p1), .val (.int p2), .val (.int p3), .unset, .unset, .unset, .unset, .unset] [(.int p1)])) rfl (hb hby at_1) _ ?_
    show Steps p.tables e below (s₁.setTop (mkF m 3 #[.val (.int p1), .val (.int p2), .val (.int p3), .unset, .unset, .unset, .unset, .unset] [(.int (2147483647 : Int32)), (.int p1)])) _
    refine XS.iand X0.here hx rfl (hb hby at_3) rfl ?_
    show Steps p.tables e below (s₁.setTop (mkF m 4 #[.val (.int p1), .val (.int p2), .val (.int p3), .unset, .unset, .unset, .unset, .unset] [(.int (p1 &&& (2147483647 : Int32)))])) _
    refine XS.bipush X0.here hx rfl (hb hby at_4) ?_
    show Steps p.tables e below (s₁.setTop (mkF m 6 #[.val (.int p1), .val (.int p2), .val (.int p3), .unset, .unset, .unset, .unset, .unset] [(.int (7 : Int32)), (.int (p1 &&& (2147483647 : Int32)))])) _
    refine iremM X0 hx rfl (hb hby at_6) rfl (by decide) ?_
    show Steps p.tables e below (s₁.setTop (mkF m 7 #[.val (.int p1), .val (.int p2), .val (.int p3), .unset, .unset, .unset, .unset, .unset] [(.int ((p1 &&& (2147483647 : Int32)) % (7 : Int32)))])) _
    refine XS.istoreN X0.here hx rfl (hb hby at_7) rfl (l' := #[.val (.int p1), .val (.int p2), .val (.int p3), .val (.int ((p1 &&& (2147483647 : Int32)) % (7 : Int32))), .unset, .unset, .unset, .unset]) rfl ?_
    show Steps p.tables e below (s₁.setTop (mkF m 8 #[.val (.int p1), .val (.int p2), .val (.int p3), .val (.int ((p1 &&& (2147483647 : Int32)) % (7 : Int32))), .unset, .unset, .unset, .unset] [])) _
    refine XS.iloadN X0.here hx rfl (hb hby at_8) rfl ?_
    show Steps p.tables e below (s₁.setTop (mkF m 9 #[.val (.int p1), .val (.int p2), .val (.int p3), .val (.int ((p1 &&& (2147483647 : Int32)) % (7 : Int32))), .unset, .unset, .unset, .unset] [(.int ((p1 &&& (2147483647 : Int32)) % (7 : Int32)))])) _
    refine XS.ifYes X0.here hx rfl (pc0 := 9) (pc' := 26) rfl (hb hby at_9) rfl ((if0 _ _).trans (feq hc9).2) (by decide) (by decide) ?_
    show Steps p.tables e below (s₁.setTop (mkF m 26 #[.val (.int p1), .val (.int p2), .val (.int p3), .val (.int ((p1 &&& (2147483647 : Int32)) % (7 : Int32))), .unset, .unset, .unset, .unset] [])) _
    refine XS.iloadN X0.here hx rfl (hb hby at_26) rfl ?_
    show Steps p.tables e below (s₁.setTop (mkF m 27 #[.val (.int p1), .val (.int p2), .val (.int p3), .val (.int ((p1 &&& (2147483647 : Int32)) % (7 : Int32))), .unset, .unset, .unset, .unset] [(.int ((p1 &&& (2147483647 : Int32)) % (7 : Int32)))])) _
    refine XS.iconst X0.here hx rfl (hb hby at_27) ?_
    show Steps p.tables e below (s₁.setTop (mkF m 28 #[.val (.int p1), .val (.int p2), .val (.int p3), .val (.int ((p1 &&& (2147483647 : Int32)) % (7 : Int32))), .unset, .unset, .unset, .unset] [(.int (1 : Int32)), (.int ((p1 &&& (2147483647 : Int32)) % (7 : Int32)))])) _
    refine XS.icmpYes X0.here hx rfl (pc0 := 28) (pc' := 45) rfl (hb hby at_28) rfl (feq hc28).2 (by decide) (by decide) ?_
    show Steps p.tables e below (s₁.setTop (mkF m 45 #[.val (.int p1), .val (.int p2), .val (.int p3), .val (.int ((p1 &&& (2147483647 : Int32)) % (7 : Int32))), .unset, .unset, .unset, .unset] [])) _
    refine XS.iloadN X0.here hx rfl (hb hby at_45) rfl ?_
    show Steps p.tables e below (s₁.setTop (mkF m 46 #[.val (.int p1), .val (.int p2), .val (.int p3), .val (.int ((p1 &&& (2147483647 : Int32)) % (7 : Int32))), .unset, .unset, .unset, .unset] [(.int ((p1 &&& (2147483647 : Int32)) % (7 : Int32)))])) _
    refine XS.iconst X0.here hx rfl (hb hby at_46) ?_
    show Steps p.tables e below (s₁.setTop (mkF m 47 #[.val (.int p1), .val (.int p2), .val (.int p3), .val (.int ((p1 &&& (2147483647 : Int32)) % (7 : Int32))), .unset, .unset, .unset, .unset] [(.int (2 : Int32)), (.int ((p1 &&& (2147483647 : Int32)) % (7 : Int32)))])) _
    refine XS.icmpNo X0.here hx rfl (hb hby at_47) rfl (teq hc47).2 ?_
    show Steps p.tables e below (s₁.setTop (mkF m 50 #[.val (.int p1), .val (.int p2), .val (.int p3), .val (.int ((p1 &&& (2147483647 : Int32)) % (7 : Int32))), .unset, .unset, .unset, .unset] [])) _
    refine st1 _ ?_
    show Steps p.tables e below (T1.setTop (mkF m 53 #[.val (.int p1), .val (.int p2), .val (.int p3), .val (.int ((p1 &&& (2147483647 : Int32)) % (7 : Int32))), .unset, .unset, .unset, .unset] [(.ref w_LOCATE)])) _
    refine XS.astore X1.here hx rfl (hb hby at_53) rfl rfl (l' := #[.val (.int p1), .val (.int p2), .val (.int p3), .val (.int ((p1 &&& (2147483647 : Int32)) % (7 : Int32))), .val (.ref w_LOCATE), .unset, .unset, .unset]) rfl ?_
    show Steps p.tables e below (T1.setTop (mkF m 55 #[.val (.int p1), .val (.int p2), .val (.int p3), .val (.int ((p1 &&& (2147483647 : Int32)) % (7 : Int32))), .val (.ref w_LOCATE), .unset, .unset, .unset] [])) _
    refine XS.iconst X1.here hx rfl (hb hby at_55) ?_
    show Steps p.tables e below (T1.setTop (mkF m 56 #[.val (.int p1), .val (.int p2), .val (.int p3), .val (.int ((p1 &&& (2147483647 : Int32)) % (7 : Int32))), .val (.ref w_LOCATE), .unset, .unset, .unset] [(.int (2 : Int32))])) _
    refine XS.istore X1.here hx rfl (hb hby at_56) rfl (l' := #[.val (.int p1), .val (.int p2), .val (.int p3), .val (.int ((p1 &&& (2147483647 : Int32)) % (7 : Int32))), .val (.ref w_LOCATE), .val (.int (2 : Int32)), .unset, .unset]) rfl ?_
    show Steps p.tables e below (T1.setTop (mkF m 58 #[.val (.int p1), .val (.int p2), .val (.int p3), .val (.int ((p1 &&& (2147483647 : Int32)) % (7 : Int32))), .val (.ref w_LOCATE), .val (.int (2 : Int32)), .unset, .unset] [])) _
    refine XS.iconst X1.here hx rfl (hb hby at_58) ?_
    show Steps p.tables e below (T1.setTop (mkF m 59 #[.val (.int p1), .val (.int p2), .val (.int p3), .val (.int ((p1 &&& (2147483647 : Int32)) % (7 : Int32))), .val (.ref w_LOCATE), .val (.int (2 : Int32)), .unset, .unset] [(.int (3 : Int32))])) _
    refine XS.istore X1.here hx rfl (hb hby at_59) rfl (l' := #[.val (.int p1), .val (.int p2), .val (.int p3), .val (.int ((p1 &&& (2147483647 : Int32)) % (7 : Int32))), .val (.ref w_LOCATE), .val (.int (2 : Int32)), .val (.int (3 : Int32)), .unset]) rfl ?_
    show Steps p.tables e below (T1.setTop (mkF m 61 #[.val (.int p1), .val (.int p2), .val (.int p3), .val (.int ((p1 &&& (2147483647 : Int32)) % (7 : Int32))), .val (.ref w_LOCATE), .val (.int (2 : Int32)), .val (.int (3 : Int32)), .unset] [])) _
    refine XS.goto X1.here hx rfl (pc0 := 61) (pc' := 132) rfl (hb hby at_61) (by decide) (by decide) ?_
    show Steps p.tables e below (T1.setTop (mkF m 132 #[.val (.int p1), .val (.int p2), .val (.int p3), .val (.int ((p1 &&& (2147483647 : Int32)) % (7 : Int32))), .val (.ref w_LOCATE), .val (.int (2 : Int32)), .val (.int (3 : Int32)), .unset] [])) _
    refine XS.iloadN X1.here hx rfl (hb hby at_132) rfl ?_
    show Steps p.tables e below (T1.setTop (mkF m 133 #[.val (.int p1), .val (.int p2), .val (.int p3), .val (.int ((p1 &&& (2147483647 : Int32)) % (7 : Int32))), .val (.ref w_LOCATE), .val (.int (2 : Int32)), .val (.int (3 : Int32)), .unset] [(.int p3)])) _
    refine XS.bipush X1.here hx rfl (hb hby at_133) ?_
    show Steps p.tables e below (T1.setTop (mkF m 135 #[.val (.int p1), .val (.int p2), .val (.int p3), .val (.int ((p1 &&& (2147483647 : Int32)) % (7 : Int32))), .val (.ref w_LOCATE), .val (.int (2 : Int32)), .val (.int (3 : Int32)), .unset] [(.int (7 : Int32)), (.int p3)])) _
    refine XS.iand X1.here hx rfl (hb hby at_135) rfl ?_
    show Steps p.tables e below (T1.setTop (mkF m 136 #[.val (.int p1), .val (.int p2), .val (.int p3), .val (.int ((p1 &&& (2147483647 : Int32)) % (7 : Int32))), .val (.ref w_LOCATE), .val (.int (2 : Int32)), .val (.int (3 : Int32)), .unset] [(.int (p3 &&& (7 : Int32)))])) _
    refine XS.iconst X1.here hx rfl (hb hby at_136) ?_
    show Steps p.tables e below (T1.setTop (mkF m 137 #[.val (.int p1), .val (.int p2), .val (.int p3), .val (.int ((p1 &&& (2147483647 : Int32)) % (7 : Int32))), .val (.ref w_LOCATE), .val (.int (2 : Int32)), .val (.int (3 : Int32)), .unset] [(.int (2 : Int32)), (.int (p3 &&& (7 : Int32)))])) _
    refine XS.isub X1.here hx rfl (hb hby at_137) rfl ?_
    show Steps p.tables e below (T1.setTop (mkF m 138 #[.val (.int p1), .val (.int p2), .val (.int p3), .val (.int ((p1 &&& (2147483647 : Int32)) % (7 : Int32))), .val (.ref w_LOCATE), .val (.int (2 : Int32)), .val (.int (3 : Int32)), .unset] [(.int ((p3 &&& (7 : Int32)) - (2 : Int32)))])) _
    refine XS.istore X1.here hx rfl (hb hby at_138) rfl (l' := #[.val (.int p1), .val (.int p2), .val (.int p3), .val (.int ((p1 &&& (2147483647 : Int32)) % (7 : Int32))), .val (.ref w_LOCATE), .val (.int (2 : Int32)), .val (.int (3 : Int32)), .val (.int ((p3 &&& (7 : Int32)) - (2 : Int32)))]) rfl ?_
    show Steps p.tables e below (T1.setTop (mkF m 140 #[.val (.int p1), .val (.int p2), .val (.int p3), .val (.int ((p1 &&& (2147483647 : Int32)) % (7 : Int32))), .val (.ref w_LOCATE), .val (.int (2 : Int32)), .val (.int (3 : Int32)), .val (.int ((p3 &&& (7 : Int32)) - (2 : Int32)))] [])) _
    refine XS.aload X1.here hx rfl (hb hby at_140) rfl rfl ?_
    show Steps p.tables e below (T1.setTop (mkF m 142 #[.val (.int p1), .val (.int p2), .val (.int p3), .val (.int ((p1 &&& (2147483647 : Int32)) % (7 : Int32))), .val (.ref w_LOCATE), .val (.int (2 : Int32)), .val (.int (3 : Int32)), .val (.int ((p3 &&& (7 : Int32)) - (2 : Int32)))] [(.ref w_LOCATE)])) _
    refine XS.iload X1.here hx rfl (hb hby at_142) rfl ?_
    show Steps p.tables e below (T1.setTop (mkF m 144 #[.val (.int p1), .val (.int p2), .val (.int p3), .val (.int ((p1 &&& (2147483647 : Int32)) % (7 : Int32))), .val (.ref w_LOCATE), .val (.int (2 : Int32)), .val (.int (3 : Int32)), .val (.int ((p3 &&& (7 : Int32)) - (2 : Int32)))] [(.int (2 : Int32)), (.ref w_LOCATE)])) _
    refine XS.iload X1.here hx rfl (hb hby at_144) rfl ?_
    show Steps p.tables e below (T1.setTop (mkF m 146 #[.val (.int p1), .val (.int p2), .val (.int p3), .val (.int ((p1 &&& (2147483647 : Int32)) % (7 : Int32))), .val (.ref w_LOCATE), .val (.int (2 : Int32)), .val (.int (3 : Int32)), .val (.int ((p3 &&& (7 : Int32)) - (2 : Int32)))] [(.int (3 : Int32)), (.int (2 : Int32)), (.ref w_LOCATE)])) _
    refine XS.iloadN X1.here hx rfl (hb hby at_146) rfl ?_
    show Steps p.tables e below (T1.setTop (mkF m 147 #[.val (.int p1), .val (.int p2), .val (.int p3), .val (.int ((p1 &&& (2147483647 : Int32)) % (7 : Int32))), .val (.ref w_LOCATE), .val (.int (2 : Int32)), .val (.int (3 : Int32)), .val (.int ((p3 &&& (7 : Int32)) - (2 : Int32)))] [(.int p2), (.int (3 : Int32)), (.int (2 : Int32)), (.ref w_LOCATE)])) _
    refine st2 _ ?_
    show Steps p.tables e below (T2.setTop (mkF m 150 #[.val (.int p1), .val (.int p2), .val (.int p3), .val (.int ((p1 &&& (2147483647 : Int32)) % (7 : Int32))), .val (.ref w_LOCATE), .val (.int (2 : Int32)), .val (.int (3 : Int32)), .val (.int ((p3 &&& (7 : Int32)) - (2 : Int32)))] [(.int (1 : Int32))])) _
    refine XS.ifNo X2.here hx rfl (hb hby at_150) rfl ((if0 _ _).trans (feq (by decide : ¬ ((1 : Int32) = (0 : Int32)))).1) ?_
    show Steps p.tables e below (T2.setTop (mkF m 153 #[.val (.int p1), .val (.int p2), .val (.int p3), .val (.int ((p1 &&& (2147483647 : Int32)) % (7 : Int32))), .val (.ref w_LOCATE), .val (.int (2 : Int32)), .val (.int (3 : Int32)), .val (.int ((p3 &&& (7 : Int32)) - (2 : Int32)))] [])) _
    refine XS.aload X2.here hx rfl (hb hby at_153) rfl rfl ?_
    show Steps p.tables e below (T2.setTop (mkF m 155 #[.val (.int p1), .val (.int p2), .val (.int p3), .val (.int ((p1 &&& (2147483647 : Int32)) % (7 : Int32))), .val (.ref w_LOCATE), .val (.int (2 : Int32)), .val (.int (3 : Int32)), .val (.int ((p3 &&& (7 : Int32)) - (2 : Int32)))] [(.ref w_LOCATE)])) _
    refine XS.iload X2.here hx rfl (hb hby at_155) rfl ?_
    show Steps p.tables e below (T2.setTop (mkF m 157 #[.val (.int p1), .val (.int p2), .val (.int p3), .val (.int ((p1 &&& (2147483647 : Int32)) % (7 : Int32))), .val (.ref w_LOCATE), .val (.int (2 : Int32)), .val (.int (3 : Int32)), .val (.int ((p3 &&& (7 : Int32)) - (2 : Int32)))] [(.int (2 : Int32)), (.ref w_LOCATE)])) _
    refine XS.iload X2.here hx rfl (hb hby at_157) rfl ?_
    show Steps p.tables e below (T2.setTop (mkF m 159 #[.val (.int p1), .val (.int p2), .val (.int p3), .val (.int ((p1 &&& (2147483647 : Int32)) % (7 : Int32))), .val (.ref w_LOCATE), .val (.int (2 : Int32)), .val (.int (3 : Int32)), .val (.int ((p3 &&& (7 : Int32)) - (2 : Int32)))] [(.int (3 : Int32)), (.int (2 : Int32)), (.ref w_LOCATE)])) _
    refine XS.iload X2.here hx rfl (hb hby at_159) rfl ?_
    show Steps p.tables e below (T2.setTop (mkF m 161 #[.val (.int p1), .val (.int p2), .val (.int p3), .val (.int ((p1 &&& (2147483647 : Int32)) % (7 : Int32))), .val (.ref w_LOCATE), .val (.int (2 : Int32)), .val (.int (3 : Int32)), .val (.int ((p3 &&& (7 : Int32)) - (2 : Int32)))] [(.int ((p3 &&& (7 : Int32)) - (2 : Int32))), (.int (3 : Int32)), (.int (2 : Int32)), (.ref w_LOCATE)])) _
    refine st3 _ ?_
    show Steps p.tables e below (T3.setTop (mkF m 164 #[.val (.int p1), .val (.int p2), .val (.int p3), .val (.int ((p1 &&& (2147483647 : Int32)) % (7 : Int32))), .val (.ref w_LOCATE), .val (.int (2 : Int32)), .val (.int (3 : Int32)), .val (.int ((p3 &&& (7 : Int32)) - (2 : Int32)))] [(.int (1 : Int32))])) _
    refine XS.ifNo X3.here hx rfl (hb hby at_164) rfl ((if0 _ _).trans (feq (by decide : ¬ ((1 : Int32) = (0 : Int32)))).1) ?_
    show Steps p.tables e below (T3.setTop (mkF m 167 #[.val (.int p1), .val (.int p2), .val (.int p3), .val (.int ((p1 &&& (2147483647 : Int32)) % (7 : Int32))), .val (.ref w_LOCATE), .val (.int (2 : Int32)), .val (.int (3 : Int32)), .val (.int ((p3 &&& (7 : Int32)) - (2 : Int32)))] [])) _
    refine XS.iconst X3.here hx rfl (hb hby at_167) ?_
    show Steps p.tables e below (T3.setTop (mkF m 168 #[.val (.int p1), .val (.int p2), .val (.int p3), .val (.int ((p1 &&& (2147483647 : Int32)) % (7 : Int32))), .val (.ref w_LOCATE), .val (.int (2 : Int32)), .val (.int (3 : Int32)), .val (.int ((p3 &&& (7 : Int32)) - (2 : Int32)))] [(.int (1 : Int32))])) _
    refine XS.goto X3.here hx rfl (pc0 := 168) (pc' := 172) rfl (hb hby at_168) (by decide) (by decide) ?_
    show Steps p.tables e below (T3.setTop (mkF m 172 #[.val (.int p1), .val (.int p2), .val (.int p3), .val (.int ((p1 &&& (2147483647 : Int32)) % (7 : Int32))), .val (.ref w_LOCATE), .val (.int (2 : Int32)), .val (.int (3 : Int32)), .val (.int ((p3 &&& (7 : Int32)) - (2 : Int32)))] [(.int (1 : Int32))])) _
    exact retN X3 hx (t := .boolean) Bd.returns (by simp) (hb hby at_172) hr
  · show QP (.int (1 : Int32)) h0 n0 _ T3.heap _
    rw [e3]
    exact ⟨rfl, N3, rfl⟩
set_option maxRecDepth 65536 in
set_option maxHeartbeats 40000000 in
theorem rm0_tf (l : Launch) (Z : State) (a0 : Array Value) (hw : ∀ d ∈ tables_1, d.before a0 Z = true) (ws : List Jvm.Cond) (p1 : Int32) (p2 : Int32) (p3 : Int32) (w_CONCAT : Addr) (w_SUBSTRING : Addr) (w_LOCATE : Addr) (w_LENGTH : Addr) (w_ABS : Addr) (w_SQRT : Addr) (w_MOD : Addr) (h0 : Heap) (n0 : Nat) (Z0 : n0 ≤ h0.size) (S_CONCAT : Sta Z h0 "com/example/steward/steward/ejbql/Operand$Function" "CONCAT" "Lcom/example/steward/steward/ejbql/Operand$Function;" (.ref w_CONCAT)) (S_SUBSTRING : Sta Z h0 "com/example/steward/steward/ejbql/Operand$Function" "SUBSTRING" "Lcom/example/steward/steward/ejbql/Operand$Function;" (.ref w_SUBSTRING)) (S_LOCATE : Sta Z h0 "com/example/steward/steward/ejbql/Operand$Function" "LOCATE" "Lcom/example/steward/steward/ejbql/Operand$Function;" (.ref w_LOCATE)) (S_LENGTH : Sta Z h0 "com/example/steward/steward/ejbql/Operand$Function" "LENGTH" "Lcom/example/steward/steward/ejbql/Operand$Function;" (.ref w_LENGTH)) (S_ABS : Sta Z h0 "com/example/steward/steward/ejbql/Operand$Function" "ABS" "Lcom/example/steward/steward/ejbql/Operand$Function;" (.ref w_ABS)) (S_SQRT : Sta Z h0 "com/example/steward/steward/ejbql/Operand$Function" "SQRT" "Lcom/example/steward/steward/ejbql/Operand$Function;" (.ref w_SQRT)) (S_MOD : Sta Z h0 "com/example/steward/steward/ejbql/Operand$Function" "MOD" "Lcom/example/steward/steward/ejbql/Operand$Function;" (.ref w_MOD)) (E_CONCAT : Exa Z h0 w_CONCAT "com/example/steward/steward/ejbql/Operand$Function") (E_SUBSTRING : Exa Z h0 w_SUBSTRING "com/example/steward/steward/ejbql/Operand$Function") (E_LOCATE : Exa Z h0 w_LOCATE "com/example/steward/steward/ejbql/Operand$Function") (E_LENGTH : Exa Z h0 w_LENGTH "com/example/steward/steward/ejbql/Operand$Function") (E_ABS : Exa Z h0 w_ABS "com/example/steward/steward/ejbql/Operand$Function") (E_SQRT : Exa Z h0 w_SQRT "com/example/steward/steward/ejbql/Operand$Function") (E_MOD : Exa Z h0 w_MOD "com/example/steward/steward/ejbql/Operand$Function") (F_CONCAT_min : Fld Z h0 w_CONCAT "com/example/steward/steward/ejbql/Operand$Function" "minArguments" "I" (.int (2 : Int32))) (F_CONCAT_max : Fld Z h0 w_CONCAT "com/example/steward/steward/ejbql/Operand$Function" "maxArguments" "I" (.int (2 : Int32))) (F_SUBSTRING_min : Fld Z h0 w_SUBSTRING "com/example/steward/steward/ejbql/Operand$Function" "minArguments" "I" (.int (3 : Int32))) (F_SUBSTRING_max : Fld Z h0 w_SUBSTRING "com/example/steward/steward/ejbql/Operand$Function" "maxArguments" "I" (.int (3 : Int32))) (F_LOCATE_min : Fld Z h0 w_LOCATE "com/example/steward/steward/ejbql/Operand$Function" "minArguments" "I" (.int (2 : Int32))) (F_LOCATE_max : Fld Z h0 w_LOCATE "com/example/steward/steward/ejbql/Operand$Function" "maxArguments" "I" (.int (3 : Int32))) (F_LENGTH_min : Fld Z h0 w_LENGTH "com/example/steward/steward/ejbql/Operand$Function" "minArguments" "I" (.int (1 : Int32))) (F_LENGTH_max : Fld Z h0 w_LENGTH "com/example/steward/steward/ejbql/Operand$Function" "maxArguments" "I" (.int (1 : Int32))) (F_ABS_min : Fld Z h0 w_ABS "com/example/steward/steward/ejbql/Operand$Function" "minArguments" "I" (.int (1 : Int32))) (F_ABS_max : Fld Z h0 w_ABS "com/example/steward/steward/ejbql/Operand$Function" "maxArguments" "I" (.int (1 : Int32))) (F_SQRT_min : Fld Z h0 w_SQRT "com/example/steward/steward/ejbql/Operand$Function" "minArguments" "I" (.int (1 : Int32))) (F_SQRT_max : Fld Z h0 w_SQRT "com/example/steward/steward/ejbql/Operand$Function" "maxArguments" "I" (.int (1 : Int32))) (F_MOD_min : Fld Z h0 w_MOD "com/example/steward/steward/ejbql/Operand$Function" "minArguments" "I" (.int (2 : Int32))) (F_MOD_max : Fld Z h0 w_MOD "com/example/steward/steward/ejbql/Operand$Function" "maxArguments" "I" (.int (2 : Int32))) (r : Int32) (hr0 : r = (1 : Int32)) (hc9 : ¬ (((p1 &&& (2147483647 : Int32)) % (7 : Int32)) = (0 : Int32))) (hc28 : ((p1 &&& (2147483647 : Int32)) % (7 : Int32)) = (1 : Int32)) :
    MetFree l x (head1 (Jvm.Cond.code x code maxLocals ret :: ws) room_1) (fun a U => a = #[(.int p1), (.int p2), (.int p3)] ∧ Z.Warmed39 U.vm ∧ U.heap = h0) (fun _ _ _ _ _ => True) (fun _ U o U' => ∃ v L, o = .returned v ∧ QP (.int r) h0 n0 v U'.heap L ∧ FrameEnd U o U' L room_1.cells room_1.slots) := by
  subst hr0
  refine MetFree.of_bodySF (plainFor_of_name pnm_1) hisR ?_
  intro p e s m args below meth c s₁ Bd hml0 hP hK
  obtain ⟨rfl, hZ, hh⟩ := hP
  have hx := Bd.exec
  have hby := Bd.bytes
  have hml : c.maxLocals = 8 := hml0
  have hown : s.vm.findClass "com/example/steward/steward/ejbql/FunctionTakesPinLaw" = some m.cls := findClass_of_methodNamed Bd.named
  have hnm := (name_of_methodNamed Bd.named Bd.method).1
  have X0 : Stand p l e room_1 s m #[(.int p1), (.int p2), (.int p3)] below meth c s₁ [] 0 0 := Stand.of_body Bd
  have e0 : s₁.heap = h0 := by rw [← hh, Bd.state]; rfl
  have N0 := Fr.nil n0
  have pre0 : ∀ t, Steps p.tables e below (s₁.setTop (mkF m 0 #[.val (.int p1), .val (.int p2), .val (.int p3), .unset, .unset, .unset, .unset, .unset] [])) t → Steps p.tables e below (s₁.setTop (entryFrame m #[(.int p1), (.int p2), (.int p3)] maxLocals)) t := fun t k => castTop (ef_rm0 m p1 p2 p3) k
  obtain ⟨T1, X1, e1, st1⟩ := getS2 X0 hx hZ hown (host := "") (Or.inl (hw _ (List.mem_of_getElem? (i := 17) rfl))) Via.refl e0 S_SUBSTRING (g := (mkF m 31 #[.val (.int p1), .val (.int p2), .val (.int p3), .val (.int ((p1 &&& (2147483647 : Int32)) % (7 : Int32))), .unset, .unset, .unset, .unset] [])) rfl (hb hby at_31)
  obtain ⟨_, _, ⟨T2, L2, k2, n2⟩, -, X2, ⟨Lc2, hQ2, l2, y2, z2⟩, st2⟩ := Jvm.LawKit.callS X1 hx (y := (⟨"com/example/steward/steward/ejbql/FunctionTakesPinLaw", "check", "(Lcom/example/steward/steward/ejbql/Operand$Function;III)Z"⟩ : MethodName)) hown (mvT hZ (hw _ (List.mem_of_getElem? (i := 4) rfl))) (mvT hZ (hw _ (List.mem_of_getElem? (i := 5) rfl))) (mvT hZ (hw _ (List.mem_of_getElem? (i := 6) rfl))) (mvT hZ (hw _ (List.mem_of_getElem? (i := 7) rfl))) (by decide) (backOf (W := 0) (rm1 l Z a0 hw [] w_SUBSTRING (3 : Int32) (3 : Int32) p2 (3 : Int32) (3 : Int32) (if p2 < (3 : Int32) then (0 : Int32) else (if (3 : Int32) < p2 then (0 : Int32) else (1 : Int32))) h0 n0 Z0 F_SUBSTRING_min F_SUBSTRING_max E_SUBSTRING rfl (1 : Int32) (own_chk_3_3 p2)) hZ (hw _ (List.mem_of_getElem? (i := 7) rfl)) (hw _ (List.mem_of_getElem? (i := 6) rfl)) (by decide) (by decide)) (g := (mkF m 147 #[.val (.int p1), .val (.int p2), .val (.int p3), .val (.int ((p1 &&& (2147483647 : Int32)) % (7 : Int32))), .val (.ref w_SUBSTRING), .val (.int (3 : Int32)), .val (.int (3 : Int32)), .val (.int ((p3 &&& (7 : Int32)) - (2 : Int32)))] [(.int p2), (.int (3 : Int32)), (.int (3 : Int32)), (.ref w_SUBSTRING)])) rfl (by rw [hml]; rfl) (argsL := [(.ref w_SUBSTRING), (.int (3 : Int32)), (.int (3 : Int32)), (.int p2)]) (rest := []) (lenOf pdm_1 rfl) rfl (by show 2 * 0 + _ ≤ _; exact Nat.le_of_eq rfl) (hb hby at_147) (fun _ _ => ⟨rfl, e1, (by decide : 0 + 0 ≤ _), (by decide : 0 + 0 ≤ _)⟩)
  dsimp only [Pt.U, Pt.locs, Pt.cells, Pt.slots] at X2 l2 y2 z2 st2 hQ2
  subst l2 y2 z2
  obtain ⟨rfl, N2q, e2⟩ := hQ2
  have N2 := Fr.app N0 N2q
  obtain ⟨_, _, ⟨T3, L3, k3, n3⟩, -, X3, ⟨Lc3, hQ3, l3, y3, z3⟩, st3⟩ := Jvm.LawKit.callS X2 hx (y := (⟨"com/example/steward/steward/ejbql/FunctionTakesPinLaw", "check", "(Lcom/example/steward/steward/ejbql/Operand$Function;III)Z"⟩ : MethodName)) hown (mvT hZ (hw _ (List.mem_of_getElem? (i := 4) rfl))) (mvT hZ (hw _ (List.mem_of_getElem? (i := 5) rfl))) (mvT hZ (hw _ (List.mem_of_getElem? (i := 6) rfl))) (mvT hZ (hw _ (List.mem_of_getElem? (i := 7) rfl))) (by decide) (backOf (W := 0) (rm1 l Z a0 hw [] w_SUBSTRING (3 : Int32) (3 : Int32) ((p3 &&& (7 : Int32)) - (2 : Int32)) (3 : Int32) (3 : Int32) (if ((p3 &&& (7 : Int32)) - (2 : Int32)) < (3 : Int32) then (0 : Int32) else (if (3 : Int32) < ((p3 &&& (7 : Int32)) - (2 : Int32)) then (0 : Int32) else (1 : Int32))) h0 n0 Z0 F_SUBSTRING_min F_SUBSTRING_max E_SUBSTRING rfl (1 : Int32) (own_chk_3_3 ((p3 &&& (7 : Int32)) - (2 : Int32)))) hZ (hw _ (List.mem_of_getElem? (i := 7) rfl)) (hw _ (List.mem_of_getElem? (i := 6) rfl)) (by decide) (by decide)) (g := (mkF m 161 #[.val (.int p1), .val (.int p2), .val (.int p3), .val (.int ((p1 &&& (2147483647 : Int32)) % (7 : Int32))), .val (.ref w_SUBSTRING), .val (.int (3 : Int32)), .val (.int (3 : Int32)), .val (.int ((p3 &&& (7 : Int32)) - (2 : Int32)))] [(.int ((p3 &&& (7 : Int32)) - (2 : Int32))), (.int (3 : Int32)), (.int (3 : Int32)), (.ref w_SUBSTRING)])) rfl (by rw [hml]; rfl) (argsL := [(.ref w_SUBSTRING), (.int (3 : Int32)), (.int (3 : Int32)), (.int ((p3 &&& (7 : Int32)) - (2 : Int32)))]) (rest := []) (lenOf pdm_1 rfl) rfl (by show 2 * 0 + _ ≤ _; exact Nat.le_of_eq rfl) (hb hby at_161) (fun _ _ => ⟨rfl, e2, (by decide : 0 + 0 ≤ _), (by decide : 0 + 0 ≤ _)⟩)
  dsimp only [Pt.U, Pt.locs, Pt.cells, Pt.slots] at X3 l3 y3 z3 st3 hQ3
  subst l3 y3 z3
  obtain ⟨rfl, N3q, e3⟩ := hQ3
  have N3 := Fr.app N2 N3q
  obtain ⟨fs, hr, hrun, hended, hW, hsame⟩ := X3.leave (v := some (.int (1 : Int32))) (fun h => by rw [Bd.returns] at h; cases h)
  refine ⟨_, _, pre0 _ ?_, hrun, hended, _, _, rfl, ?_, ⟨_, rfl⟩, hW, hsame.mono (by decide) (by decide)⟩
  · show Steps p.tables e below (s₁.setTop (mkF m 0 #[.val (.int p1), .val (.int p2), .val (.int p3), .unset, .unset, .unset, .unset, .unset] [])) _
    refine XS.iloadN X0.here hx rfl (hb hby at_0) rfl ?_
    show Steps p.tables e below (s₁.setTop (mkF m 1 #[.val (.int p1), .val (.int p2), .val (.int p3), .unset, .unset, .unset, .unset, .unset] [(.int p1)])) _
    refine X0.ldcInt hx hown (mvT hZ (hw _ (List.mem_of_getElem? (i := 0) rfl))) (g := (mkF m 1 #[.val (.int p1), .val (.int p2), .val (.int p3), .unset, .unset, .unset, .unset, .unset] [(.int p1)])) rfl (hb hby at_1) _ ?_
    show Steps p.tables e below (s₁.setTop (mkF m 3 #[.val (.int p1), .val (.int p2), .val (.int p3), .unset, .unset, .unset, .unset, .unset] [(.int (2147483647 : Int32)), (.int p1)])) _
    refine XS.iand X0.here hx rfl (hb hby at_3) rfl ?_
    show Steps p.tables e below (s₁.setTop (mkF m 4 #[.val (.int p1), .val (.int p2), .val (.int p3), .unset, .unset, .unset, .unset, .unset] [(.int (p1 &&& (2147483647 : Int32)))])) _
    refine XS.bipush X0.here hx rfl (hb hby at_4) ?_
    show Steps p.tables e below (s₁.setTop (mkF m 6 #[.val (.int p1), .val (.int p2), .val (.int p3), .unset, .unset, .unset, .unset, .unset] [(.int (7 : Int32)), (.int (p1 &&& (2147483647 : Int32)))])) _
    refine iremM X0 hx rfl (hb hby at_6) rfl (by decide) ?_
    show Steps p.tables e below (s₁.setTop (mkF m 7 #[.val (.int p1), .val (.int p2), .val (.int p3), .unset, .unset, .unset, .unset, .unset] [(.int ((p1 &&& (2147483647 : Int32)) % (7 : Int32)))])) _
    refine XS.istoreN X0.here hx rfl (hb hby at_7) rfl (l' := #[.val (.int p1), .val (.int p2), .val (.int p3), .val (.int ((p1 &&& (2147483647 : Int32)) % (7 : Int32))), .unset, .unset, .unset, .unset]) rfl ?_
    show Steps p.tables e below (s₁.setTop (mkF m 8 #[.val (.int p1), .val (.int p2), .val (.int p3), .val (.int ((p1 &&& (2147483647 : Int32)) % (7 : Int32))), .unset, .unset, .unset, .unset] [])) _
    refine XS.iloadN X0.here hx rfl (hb hby at_8) rfl ?_
    show Steps p.tables e below (s₁.setTop (mkF m 9 #[.val (.int p1), .val (.int p2), .val (.int p3), .val (.int ((p1 &&& (2147483647 : Int32)) % (7 : Int32))), .unset, .unset, .unset, .unset] [(.int ((p1 &&& (2147483647 : Int32)) % (7 : Int32)))])) _
    refine XS.ifYes X0.here hx rfl (pc0 := 9) (pc' := 26) rfl (hb hby at_9) rfl ((if0 _ _).trans (feq hc9).2) (by decide) (by decide) ?_
    show Steps p.tables e below (s₁.setTop (mkF m 26 #[.val (.int p1), .val (.int p2), .val (.int p3), .val (.int ((p1 &&& (2147483647 : Int32)) % (7 : Int32))), .unset, .unset, .unset, .unset] [])) _
    refine XS.iloadN X0.here hx rfl (hb hby at_26) rfl ?_
    show Steps p.tables e below (s₁.setTop (mkF m 27 #[.val (.int p1), .val (.int p2), .val (.int p3), .val (.int ((p1 &&& (2147483647 : Int32)) % (7 : Int32))), .unset, .unset, .unset, .unset] [(.int ((p1 &&& (2147483647 : Int32)) % (7 : Int32)))])) _
    refine XS.iconst X0.here hx rfl (hb hby at_27) ?_
    show Steps p.tables e below (s₁.setTop (mkF m 28 #[.val (.int p1), .val (.int p2), .val (.int p3), .val (.int ((p1 &&& (2147483647 : Int32)) % (7 : Int32))), .unset, .unset, .unset, .unset] [(.int (1 : Int32)), (.int ((p1 &&& (2147483647 : Int32)) % (7 : Int32)))])) _
    refine XS.icmpNo X0.here hx rfl (hb hby at_28) rfl (teq hc28).2 ?_
    show Steps p.tables e below (s₁.setTop (mkF m 31 #[.val (.int p1), .val (.int p2), .val (.int p3), .val (.int ((p1 &&& (2147483647 : Int32)) % (7 : Int32))), .unset, .unset, .unset, .unset] [])) _
    refine st1 _ ?_
    show Steps p.tables e below (T1.setTop (mkF m 34 #[.val (.int p1), .val (.int p2), .val (.int p3), .val (.int ((p1 &&& (2147483647 : Int32)) % (7 : Int32))), .unset, .unset, .unset, .unset] [(.ref w_SUBSTRING)])) _
    refine XS.astore X1.here hx rfl (hb hby at_34) rfl rfl (l' := #[.val (.int p1), .val (.int p2), .val (.int p3), .val (.int ((p1 &&& (2147483647 : Int32)) % (7 : Int32))), .val (.ref w_SUBSTRING), .unset, .unset, .unset]) rfl ?_
    show Steps p.tables e below (T1.setTop (mkF m 36 #[.val (.int p1), .val (.int p2), .val (.int p3), .val (.int ((p1 &&& (2147483647 : Int32)) % (7 : Int32))), .val (.ref w_SUBSTRING), .unset, .unset, .unset] [])) _
    refine XS.iconst X1.here hx rfl (hb hby at_36) ?_
    show Steps p.tables e below (T1.setTop (mkF m 37 #[.val (.int p1), .val (.int p2), .val (.int p3), .val (.int ((p1 &&& (2147483647 : Int32)) % (7 : Int32))), .val (.ref w_SUBSTRING), .unset, .unset, .unset] [(.int (3 : Int32))])) _
    refine XS.istore X1.here hx rfl (hb hby at_37) rfl (l' := #[.val (.int p1), .val (.int p2), .val (.int p3), .val (.int ((p1 &&& (2147483647 : Int32)) % (7 : Int32))), .val (.ref w_SUBSTRING), .val (.int (3 : Int32)), .unset, .unset]) rfl ?_
    show Steps p.tables e below (T1.setTop (mkF m 39 #[.val (.int p1), .val (.int p2), .val (.int p3), .val (.int ((p1 &&& (2147483647 : Int32)) % (7 : Int32))), .val (.ref w_SUBSTRING), .val (.int (3 : Int32)), .unset, .unset] [])) _
    refine XS.iconst X1.here hx rfl (hb hby at_39) ?_
    show Steps p.tables e below (T1.setTop (mkF m 40 #[.val (.int p1), .val (.int p2), .val (.int p3), .val (.int ((p1 &&& (2147483647 : Int32)) % (7 : Int32))), .val (.ref w_SUBSTRING), .val (.int (3 : Int32)), .unset, .unset] [(.int (3 : Int32))])) _
    refine XS.istore X1.here hx rfl (hb hby at_40) rfl (l' := #[.val (.int p1), .val (.int p2), .val (.int p3), .val (.int ((p1 &&& (2147483647 : Int32)) % (7 : Int32))), .val (.ref w_SUBSTRING), .val (.int (3 : Int32)), .val (.int (3 : Int32)), .unset]) rfl ?_
    show Steps p.tables e below (T1.setTop (mkF m 42 #[.val (.int p1), .val (.int p2), .val (.int p3), .val (.int ((p1 &&& (2147483647 : Int32)) % (7 : Int32))), .val (.ref w_SUBSTRING), .val (.int (3 : Int32)), .val (.int (3 : Int32)), .unset] [])) _
    refine XS.goto X1.here hx rfl (pc0 := 42) (pc' := 132) rfl (hb hby at_42) (by decide) (by decide) ?_
    show Steps p.tables e below (T1.setTop (mkF m 132 #[.val (.int p1), .val (.int p2), .val (.int p3), .val (.int ((p1 &&& (2147483647 : Int32)) % (7 : Int32))), .val (.ref w_SUBSTRING), .val (.int (3 : Int32)), .val (.int (3 : Int32)), .unset] [])) _
    refine XS.iloadN X1.here hx rfl (hb hby at_132) rfl ?_
    show Steps p.tables e below (T1.setTop (mkF m 133 #[.val (.int p1), .val (.int p2), .val (.int p3), .val (.int ((p1 &&& (2147483647 : Int32)) % (7 : Int32))), .val (.ref w_SUBSTRING), .val (.int (3 : Int32)), .val (.int (3 : Int32)), .unset] [(.int p3)])) _
    refine XS.bipush X1.here hx rfl (hb hby at_133) ?_
    show Steps p.tables e below (T1.setTop (mkF m 135 #[.val (.int p1), .val (.int p2), .val (.int p3), .val (.int ((p1 &&& (2147483647 : Int32)) % (7 : Int32))), .val (.ref w_SUBSTRING), .val (.int (3 : Int32)), .val (.int (3 : Int32)), .unset] [(.int (7 : Int32)), (.int p3)])) _
    refine XS.iand X1.here hx rfl (hb hby at_135) rfl ?_
    show Steps p.tables e below (T1.setTop (mkF m 136 #[.val (.int p1), .val (.int p2), .val (.int p3), .val (.int ((p1 &&& (2147483647 : Int32)) % (7 : Int32))), .val (.ref w_SUBSTRING), .val (.int (3 : Int32)), .val (.int (3 : Int32)), .unset] [(.int (p3 &&& (7 : Int32)))])) _
    refine XS.iconst X1.here hx rfl (hb hby at_136) ?_
    show Steps p.tables e below (T1.setTop (mkF m 137 #[.val (.int p1), .val (.int p2), .val (.int p3), .val (.int ((p1 &&& (2147483647 : Int32)) % (7 : Int32))), .val (.ref w_SUBSTRING), .val (.int (3 : Int32)), .val (.int (3 : Int32)), .unset] [(.int (2 : Int32)), (.int (p3 &&& (7 : Int32)))])) _
    refine XS.isub X1.here hx rfl (hb hby at_137) rfl ?_
    show Steps p.tables e below (T1.setTop (mkF m 138 #[.val (.int p1), .val (.int p2), .val (.int p3), .val (.int ((p1 &&& (2147483647 : Int32)) % (7 : Int32))), .val (.ref w_SUBSTRING), .val (.int (3 : Int32)), .val (.int (3 : Int32)), .unset] [(.int ((p3 &&& (7 : Int32)) - (2 : Int32)))])) _
    refine XS.istore X1.here hx rfl (hb hby at_138) rfl (l' := #[.val (.int p1), .val (.int p2), .val (.int p3), .val (.int ((p1 &&& (2147483647 : Int32)) % (7 : Int32))), .val (.ref w_SUBSTRING), .val (.int (3 : Int32)), .val (.int (3 : Int32)), .val (.int ((p3 &&& (7 : Int32)) - (2 : Int32)))]) rfl ?_
    show Steps p.tables e below (T1.setTop (mkF m 140 #[.val (.int p1), .val (.int p2), .val (.int p3), .val (.int ((p1 &&& (2147483647 : Int32)) % (7 : Int32))), .val (.ref w_SUBSTRING), .val (.int (3 : Int32)), .val (.int (3 : Int32)), .val (.int ((p3 &&& (7 : Int32)) - (2 : Int32)))] [])) _
    refine XS.aload X1.here hx rfl (hb hby at_140) rfl rfl ?_
    show Steps p.tables e below (T1.setTop (mkF m 142 #[.val (.int p1), .val (.int p2), .val (.int p3), .val (.int ((p1 &&& (2147483647 : Int32)) % (7 : Int32))), .val (.ref w_SUBSTRING), .val (.int (3 : Int32)), .val (.int (3 : Int32)), .val (.int ((p3 &&& (7 : Int32)) - (2 : Int32)))] [(.ref w_SUBSTRING)])) _
    refine XS.iload X1.here hx rfl (hb hby at_142) rfl ?_
    show Steps p.tables e below (T1.setTop (mkF m 144 #[.val (.int p1), .val (.int p2), .val (.int p3), .val (.int ((p1 &&& (2147483647 : Int32)) % (7 : Int32))), .val (.ref w_SUBSTRING), .val (.int (3 : Int32)), .val (.int (3 : Int32)), .val (.int ((p3 &&& (7 : Int32)) - (2 : Int32)))] [(.int (3 : Int32)), (.ref w_SUBSTRING)])) _
    refine XS.iload X1.here hx rfl (hb hby at_144) rfl ?_
    show Steps p.tables e below (T1.setTop (mkF m 146 #[.val (.int p1), .val (.int p2), .val (.int p3), .val (.int ((p1 &&& (2147483647 : Int32)) % (7 : Int32))), .val (.ref w_SUBSTRING), .val (.int (3 : Int32)), .val (.int (3 : Int32)), .val (.int ((p3 &&& (7 : Int32)) - (2 : Int32)))] [(.int (3 : Int32)), (.int (3 : Int32)), (.ref w_SUBSTRING)])) _
    refine XS.iloadN X1.here hx rfl (hb hby at_146) rfl ?_
    show Steps p.tables e below (T1.setTop (mkF m 147 #[.val (.int p1), .val (.int p2), .val (.int p3), .val (.int ((p1 &&& (2147483647 : Int32)) % (7 : Int32))), .val (.ref w_SUBSTRING), .val (.int (3 : Int32)), .val (.int (3 : Int32)), .val (.int ((p3 &&& (7 : Int32)) - (2 : Int32)))] [(.int p2), (.int (3 : Int32)), (.int (3 : Int32)), (.ref w_SUBSTRING)])) _
    refine st2 _ ?_
    show Steps p.tables e below (T2.setTop (mkF m 150 #[.val (.int p1), .val (.int p2), .val (.int p3), .val (.int ((p1 &&& (2147483647 : Int32)) % (7 : Int32))), .val (.ref w_SUBSTRING), .val (.int (3 : Int32)), .val (.int (3 : Int32)), .val (.int ((p3 &&& (7 : Int32)) - (2 : Int32)))] [(.int (1 : Int32))])) _
    refine XS.ifNo X2.here hx rfl (hb hby at_150) rfl ((if0 _ _).trans (feq (by decide : ¬ ((1 : Int32) = (0 : Int32)))).1) ?_
    show Steps p.tables e below (T2.setTop (mkF m 153 #[.val (.int p1), .val (.int p2), .val (.int p3), .val (.int ((p1 &&& (2147483647 : Int32)) % (7 : Int32))), .val (.ref w_SUBSTRING), .val (.int (3 : Int32)), .val (.int (3 : Int32)), .val (.int ((p3 &&& (7 : Int32)) - (2 : Int32)))] [])) _
    refine XS.aload X2.here hx rfl (hb hby at_153) rfl rfl ?_
    show Steps p.tables e below (T2.setTop (mkF m 155 #[.val (.int p1), .val (.int p2), .val (.int p3), .val (.int ((p1 &&& (2147483647 : Int32)) % (7 : Int32))), .val (.ref w_SUBSTRING), .val (.int (3 : Int32)), .val (.int (3 : Int32)), .val (.int ((p3 &&& (7 : Int32)) - (2 : Int32)))] [(.ref w_SUBSTRING)])) _
    refine XS.iload X2.here hx rfl (hb hby at_155) rfl ?_
    show Steps p.tables e below (T2.setTop (mkF m 157 #[.val (.int p1), .val (.int p2), .val (.int p3), .val (.int ((p1 &&& (2147483647 : Int32)) % (7 : Int32))), .val (.ref w_SUBSTRING), .val (.int (3 : Int32)), .val (.int (3 : Int32)), .val (.int ((p3 &&& (7 : Int32)) - (2 : Int32)))] [(.int (3 : Int32)), (.ref w_SUBSTRING)])) _
    refine XS.iload X2.here hx rfl (hb hby at_157) rfl ?_
    show Steps p.tables e below (T2.setTop (mkF m 159 #[.val (.int p1), .val (.int p2), .val (.int p3), .val (.int ((p1 &&& (2147483647 : Int32)) % (7 : Int32))), .val (.ref w_SUBSTRING), .val (.int (3 : Int32)), .val (.int (3 : Int32)), .val (.int ((p3 &&& (7 : Int32)) - (2 : Int32)))] [(.int (3 : Int32)), (.int (3 : Int32)), (.ref w_SUBSTRING)])) _
    refine XS.iload X2.here hx rfl (hb hby at_159) rfl ?_
    show Steps p.tables e below (T2.setTop (mkF m 161 #[.val (.int p1), .val (.int p2), .val (.int p3), .val (.int ((p1 &&& (2147483647 : Int32)) % (7 : Int32))), .val (.ref w_SUBSTRING), .val (.int (3 : Int32)), .val (.int (3 : Int32)), .val (.int ((p3 &&& (7 : Int32)) - (2 : Int32)))] [(.int ((p3 &&& (7 : Int32)) - (2 : Int32))), (.int (3 : Int32)), (.int (3 : Int32)), (.ref w_SUBSTRING)])) _
    refine st3 _ ?_
    show Steps p.tables e below (T3.setTop (mkF m 164 #[.val (.int p1), .val (.int p2), .val (.int p3), .val (.int ((p1 &&& (2147483647 : Int32)) % (7 : Int32))), .val (.ref w_SUBSTRING), .val (.int (3 : Int32)), .val (.int (3 : Int32)), .val (.int ((p3 &&& (7 : Int32)) - (2 : Int32)))] [(.int (1 : Int32))])) _
    refine XS.ifNo X3.here hx rfl (hb hby at_164) rfl ((if0 _ _).trans (feq (by decide : ¬ ((1 : Int32) = (0 : Int32)))).1) ?_
    show Steps p.tables e below (T3.setTop (mkF m 167 #[.val (.int p1), .val (.int p2), .val (.int p3), .val (.int ((p1 &&& (2147483647 : Int32)) % (7 : Int32))), .val (.ref w_SUBSTRING), .val (.int (3 : Int32)), .val (.int (3 : Int32)), .val (.int ((p3 &&& (7 : Int32)) - (2 : Int32)))] [])) _
    refine XS.iconst X3.here hx rfl (hb hby at_167) ?_
    show Steps p.tables e below (T3.setTop (mkF m 168 #[.val (.int p1), .val (.int p2), .val (.int p3), .val (.int ((p1 &&& (2147483647 : Int32)) % (7 : Int32))), .val (.ref w_SUBSTRING), .val (.int (3 : Int32)), .val (.int (3 : Int32)), .val (.int ((p3 &&& (7 : Int32)) - (2 : Int32)))] [(.int (1 : Int32))])) _
    refine XS.goto X3.here hx rfl (pc0 := 168) (pc' := 172) rfl (hb hby at_168) (by decide) (by decide) ?_
    show Steps p.tables e below (T3.setTop (mkF m 172 #[.val (.int p1), .val (.int p2), .val (.int p3), .val (.int ((p1 &&& (2147483647 : Int32)) % (7 : Int32))), .val (.ref w_SUBSTRING), .val (.int (3 : Int32)), .val (.int (3 : Int32)), .val (.int ((p3 &&& (7 : Int32)) - (2 : Int32)))] [(.int (1 : Int32))])) _
    exact retN X3 hx (t := .boolean) Bd.returns (by simp) (hb hby at_172) hr
  · show QP (.int (1 : Int32)) h0 n0 _ T3.heap _
    rw [e3]
    exact ⟨rfl, N3, rfl⟩
set_option maxRecDepth 65536 in
set_option maxHeartbeats 40000000 in
theorem rm0_f (l : Launch) (Z : State) (a0 : Array Value) (hw : ∀ d ∈ tables_1, d.before a0 Z = true) (ws : List Jvm.Cond) (p1 : Int32) (p2 : Int32) (p3 : Int32) (w_CONCAT : Addr) (w_SUBSTRING : Addr) (w_LOCATE : Addr) (w_LENGTH : Addr) (w_ABS : Addr) (w_SQRT : Addr) (w_MOD : Addr) (h0 : Heap) (n0 : Nat) (Z0 : n0 ≤ h0.size) (S_CONCAT : Sta Z h0 "com/example/steward/steward/ejbql/Operand$Function" "CONCAT" "Lcom/example/steward/steward/ejbql/Operand$Function;" (.ref w_CONCAT)) (S_SUBSTRING : Sta Z h0 "com/example/steward/steward/ejbql/Operand$Function" "SUBSTRING" "Lcom/example/steward/steward/ejbql/Operand$Function;" (.ref w_SUBSTRING)) (S_LOCATE : Sta Z h0 "com/example/steward/steward/ejbql/Operand$Function" "LOCATE" "Lcom/example/steward/steward/ejbql/Operand$Function;" (.ref w_LOCATE)) (S_LENGTH : Sta Z h0 "com/example/steward/steward/ejbql/Operand$Function" "LENGTH" "Lcom/example/steward/steward/ejbql/Operand$Function;" (.ref w_LENGTH)) (S_ABS : Sta Z h0 "com/example/steward/steward/ejbql/Operand$Function" "ABS" "Lcom/example/steward/steward/ejbql/Operand$Function;" (.ref w_ABS)) (S_SQRT : Sta Z h0 "com/example/steward/steward/ejbql/Operand$Function" "SQRT" "Lcom/example/steward/steward/ejbql/Operand$Function;" (.ref w_SQRT)) (S_MOD : Sta Z h0 "com/example/steward/steward/ejbql/Operand$Function" "MOD" "Lcom/example/steward/steward/ejbql/Operand$Function;" (.ref w_MOD)) (E_CONCAT : Exa Z h0 w_CONCAT "com/example/steward/steward/ejbql/Operand$Function") (E_SUBSTRING : Exa Z h0 w_SUBSTRING "com/example/steward/steward/ejbql/Operand$Function") (E_LOCATE : Exa Z h0 w_LOCATE "com/example/steward/steward/ejbql/Operand$Function") (E_LENGTH : Exa Z h0 w_LENGTH "com/example/steward/steward/ejbql/Operand$Function") (E_ABS : Exa Z h0 w_ABS "com/example/steward/steward/ejbql/Operand$Function") (E_SQRT : Exa Z h0 w_SQRT "com/example/steward/steward/ejbql/Operand$Function") (E_MOD : Exa Z h0 w_MOD "com/example/steward/steward/ejbql/Operand$Function") (F_CONCAT_min : Fld Z h0 w_CONCAT "com/example/steward/steward/ejbql/Operand$Function" "minArguments" "I" (.int (2 : Int32))) (F_CONCAT_max : Fld Z h0 w_CONCAT "com/example/steward/steward/ejbql/Operand$Function" "maxArguments" "I" (.int (2 : Int32))) (F_SUBSTRING_min : Fld Z h0 w_SUBSTRING "com/example/steward/steward/ejbql/Operand$Function" "minArguments" "I" (.int (3 : Int32))) (F_SUBSTRING_max : Fld Z h0 w_SUBSTRING "com/example/steward/steward/ejbql/Operand$Function" "maxArguments" "I" (.int (3 : Int32))) (F_LOCATE_min : Fld Z h0 w_LOCATE "com/example/steward/steward/ejbql/Operand$Function" "minArguments" "I" (.int (2 : Int32))) (F_LOCATE_max : Fld Z h0 w_LOCATE "com/example/steward/steward/ejbql/Operand$Function" "maxArguments" "I" (.int (3 : Int32))) (F_LENGTH_min : Fld Z h0 w_LENGTH "com/example/steward/steward/ejbql/Operand$Function" "minArguments" "I" (.int (1 : Int32))) (F_LENGTH_max : Fld Z h0 w_LENGTH "com/example/steward/steward/ejbql/Operand$Function" "maxArguments" "I" (.int (1 : Int32))) (F_ABS_min : Fld Z h0 w_ABS "com/example/steward/steward/ejbql/Operand$Function" "minArguments" "I" (.int (1 : Int32))) (F_ABS_max : Fld Z h0 w_ABS "com/example/steward/steward/ejbql/Operand$Function" "maxArguments" "I" (.int (1 : Int32))) (F_SQRT_min : Fld Z h0 w_SQRT "com/example/steward/steward/ejbql/Operand$Function" "minArguments" "I" (.int (1 : Int32))) (F_SQRT_max : Fld Z h0 w_SQRT "com/example/steward/steward/ejbql/Operand$Function" "maxArguments" "I" (.int (1 : Int32))) (F_MOD_min : Fld Z h0 w_MOD "com/example/steward/steward/ejbql/Operand$Function" "minArguments" "I" (.int (2 : Int32))) (F_MOD_max : Fld Z h0 w_MOD "com/example/steward/steward/ejbql/Operand$Function" "maxArguments" "I" (.int (2 : Int32))) (r : Int32) (hr0 : r = (1 : Int32)) (hc9 : ((p1 &&& (2147483647 : Int32)) % (7 : Int32)) = (0 : Int32)) :
    MetFree l x (head1 (Jvm.Cond.code x code maxLocals ret :: ws) room_1) (fun a U => a = #[(.int p1), (.int p2), (.int p3)] ∧ Z.Warmed39 U.vm ∧ U.heap = h0) (fun _ _ _ _ _ => True) (fun _ U o U' => ∃ v L, o = .returned v ∧ QP (.int r) h0 n0 v U'.heap L ∧ FrameEnd U o U' L room_1.cells room_1.slots) := by
  subst hr0
  refine MetFree.of_bodySF (plainFor_of_name pnm_1) hisR ?_
  intro p e s m args below meth c s₁ Bd hml0 hP hK
  obtain ⟨rfl, hZ, hh⟩ := hP
  have hx := Bd.exec
  have hby := Bd.bytes
  have hml : c.maxLocals = 8 := hml0
  have hown : s.vm.findClass "com/example/steward/steward/ejbql/FunctionTakesPinLaw" = some m.cls := findClass_of_methodNamed Bd.named
  have hnm := (name_of_methodNamed Bd.named Bd.method).1
  have X0 : Stand p l e room_1 s m #[(.int p1), (.int p2), (.int p3)] below meth c s₁ [] 0 0 := Stand.of_body Bd
  have e0 : s₁.heap = h0 := by rw [← hh, Bd.state]; rfl
  have N0 := Fr.nil n0
  have pre0 : ∀ t, Steps p.tables e below (s₁.setTop (mkF m 0 #[.val (.int p1), .val (.int p2), .val (.int p3), .unset, .unset, .unset, .unset, .unset] [])) t → Steps p.tables e below (s₁.setTop (entryFrame m #[(.int p1), (.int p2), (.int p3)] maxLocals)) t := fun t k => castTop (ef_rm0 m p1 p2 p3) k
  obtain ⟨T1, X1, e1, st1⟩ := getS2 X0 hx hZ hown (host := "") (Or.inl (hw _ (List.mem_of_getElem? (i := 1) rfl))) Via.refl e0 S_CONCAT (g := (mkF m 12 #[.val (.int p1), .val (.int p2), .val (.int p3), .val (.int ((p1 &&& (2147483647 : Int32)) % (7 : Int32))), .unset, .unset, .unset, .unset] [])) rfl (hb hby at_12)
  obtain ⟨_, _, ⟨T2, L2, k2, n2⟩, -, X2, ⟨Lc2, hQ2, l2, y2, z2⟩, st2⟩ := Jvm.LawKit.callS X1 hx (y := (⟨"com/example/steward/steward/ejbql/FunctionTakesPinLaw", "check", "(Lcom/example/steward/steward/ejbql/Operand$Function;III)Z"⟩ : MethodName)) hown (mvT hZ (hw _ (List.mem_of_getElem? (i := 4) rfl))) (mvT hZ (hw _ (List.mem_of_getElem? (i := 5) rfl))) (mvT hZ (hw _ (List.mem_of_getElem? (i := 6) rfl))) (mvT hZ (hw _ (List.mem_of_getElem? (i := 7) rfl))) (by decide) (backOf (W := 0) (rm1 l Z a0 hw [] w_CONCAT (2 : Int32) (2 : Int32) p2 (2 : Int32) (2 : Int32) (if p2 < (2 : Int32) then (0 : Int32) else (if (2 : Int32) < p2 then (0 : Int32) else (1 : Int32))) h0 n0 Z0 F_CONCAT_min F_CONCAT_max E_CONCAT rfl (1 : Int32) (own_chk_2_2 p2)) hZ (hw _ (List.mem_of_getElem? (i := 7) rfl)) (hw _ (List.mem_of_getElem? (i := 6) rfl)) (by decide) (by decide)) (g := (mkF m 147 #[.val (.int p1), .val (.int p2), .val (.int p3), .val (.int ((p1 &&& (2147483647 : Int32)) % (7 : Int32))), .val (.ref w_CONCAT), .val (.int (2 : Int32)), .val (.int (2 : Int32)), .val (.int ((p3 &&& (7 : Int32)) - (2 : Int32)))] [(.int p2), (.int (2 : Int32)), (.int (2 : Int32)), (.ref w_CONCAT)])) rfl (by rw [hml]; rfl) (argsL := [(.ref w_CONCAT), (.int (2 : Int32)), (.int (2 : Int32)), (.int p2)]) (rest := []) (lenOf pdm_1 rfl) rfl (by show 2 * 0 + _ ≤ _; exact Nat.le_of_eq rfl) (hb hby at_147) (fun _ _ => ⟨rfl, e1, (by decide : 0 + 0 ≤ _), (by decide : 0 + 0 ≤ _)⟩)
  dsimp only [Pt.U, Pt.locs, Pt.cells, Pt.slots] at X2 l2 y2 z2 st2 hQ2
  subst l2 y2 z2
  obtain ⟨rfl, N2q, e2⟩ := hQ2
  have N2 := Fr.app N0 N2q
  obtain ⟨_, _, ⟨T3, L3, k3, n3⟩, -, X3, ⟨Lc3, hQ3, l3, y3, z3⟩, st3⟩ := Jvm.LawKit.callS X2 hx (y := (⟨"com/example/steward/steward/ejbql/FunctionTakesPinLaw", "check", "(Lcom/example/steward/steward/ejbql/Operand$Function;III)Z"⟩ : MethodName)) hown (mvT hZ (hw _ (List.mem_of_getElem? (i := 4) rfl))) (mvT hZ (hw _ (List.mem_of_getElem? (i := 5) rfl))) (mvT hZ (hw _ (List.mem_of_getElem? (i := 6) rfl))) (mvT hZ (hw _ (List.mem_of_getElem? (i := 7) rfl))) (by decide) (backOf (W := 0) (rm1 l Z a0 hw [] w_CONCAT (2 : Int32) (2 : Int32) ((p3 &&& (7 : Int32)) - (2 : Int32)) (2 : Int32) (2 : Int32) (if ((p3 &&& (7 : Int32)) - (2 : Int32)) < (2 : Int32) then (0 : Int32) else (if (2 : Int32) < ((p3 &&& (7 : Int32)) - (2 : Int32)) then (0 : Int32) else (1 : Int32))) h0 n0 Z0 F_CONCAT_min F_CONCAT_max E_CONCAT rfl (1 : Int32) (own_chk_2_2 ((p3 &&& (7 : Int32)) - (2 : Int32)))) hZ (hw _ (List.mem_of_getElem? (i := 7) rfl)) (hw _ (List.mem_of_getElem? (i := 6) rfl)) (by decide) (by decide)) (g := (mkF m 161 #[.val (.int p1), .val (.int p2), .val (.int p3), .val (.int ((p1 &&& (2147483647 : Int32)) % (7 : Int32))), .val (.ref w_CONCAT), .val (.int (2 : Int32)), .val (.int (2 : Int32)), .val (.int ((p3 &&& (7 : Int32)) - (2 : Int32)))] [(.int ((p3 &&& (7 : Int32)) - (2 : Int32))), (.int (2 : Int32)), (.int (2 : Int32)), (.ref w_CONCAT)])) rfl (by rw [hml]; rfl) (argsL := [(.ref w_CONCAT), (.int (2 : Int32)), (.int (2 : Int32)), (.int ((p3 &&& (7 : Int32)) - (2 : Int32)))]) (rest := []) (lenOf pdm_1 rfl) rfl (by show 2 * 0 + _ ≤ _; exact Nat.le_of_eq rfl) (hb hby at_161) (fun _ _ => ⟨rfl, e2, (by decide : 0 + 0 ≤ _), (by decide : 0 + 0 ≤ _)⟩)
  dsimp only [Pt.U, Pt.locs, Pt.cells, Pt.slots] at X3 l3 y3 z3 st3 hQ3
  subst l3 y3 z3
  obtain ⟨rfl, N3q, e3⟩ := hQ3
  have N3 := Fr.app N2 N3q
  obtain ⟨fs, hr, hrun, hended, hW, hsame⟩ := X3.leave (v := some (.int (1 : Int32))) (fun h => by rw [Bd.returns] at h; cases h)
  refine ⟨_, _, pre0 _ ?_, hrun, hended, _, _, rfl, ?_, ⟨_, rfl⟩, hW, hsame.mono (by decide) (by decide)⟩
  · show Steps p.tables e below (s₁.setTop (mkF m 0 #[.val (.int p1), .val (.int p2), .val (.int p3), .unset, .unset, .unset, .unset, .unset] [])) _
    refine XS.iloadN X0.here hx rfl (hb hby at_0) rfl ?_
    show Steps p.tables e below (s₁.setTop (mkF m 1 #[.val (.int p1), .val (.int p2), .val (.int p3), .unset, .unset, .unset, .unset, .unset] [(.int p1)])) _
    refine X0.ldcInt hx hown (mvT hZ (hw _ (List.mem_of_getElem? (i := 0) rfl))) (g := (mkF m 1 #[.val (.int p1), .val (.int p2), .val (.int p3), .unset, .unset, .unset, .unset, .unset] [(.int p1)])) rfl (hb hby at_1) _ ?_
    show Steps p.tables e below (s₁.setTop (mkF m 3 #[.val (.int p1), .val (.int p2), .val (.int p3), .unset, .unset, .unset, .unset, .unset] [(.int (2147483647 : Int32)), (.int p1)])) _
    refine XS.iand X0.here hx rfl (hb hby at_3) rfl ?_
    show Steps p.tables e below (s₁.setTop (mkF m 4 #[.val (.int p1), .val (.int p2), .val (.int p3), .unset, .unset, .unset, .unset, .unset] [(.int (p1 &&& (2147483647 : Int32)))])) _
    refine XS.bipush X0.here hx rfl (hb hby at_4) ?_
    show Steps p.tables e below (s₁.setTop (mkF m 6 #[.val (.int p1), .val (.int p2), .val (.int p3), .unset, .unset, .unset, .unset, .unset] [(.int (7 : Int32)), (.int (p1 &&& (2147483647 : Int32)))])) _
    refine iremM X0 hx rfl (hb hby at_6) rfl (by decide) ?_
    show Steps p.tables e below (s₁.setTop (mkF m 7 #[.val (.int p1), .val (.int p2), .val (.int p3), .unset, .unset, .unset, .unset, .unset] [(.int ((p1 &&& (2147483647 : Int32)) % (7 : Int32)))])) _
    refine XS.istoreN X0.here hx rfl (hb hby at_7) rfl (l' := #[.val (.int p1), .val (.int p2), .val (.int p3), .val (.int ((p1 &&& (2147483647 : Int32)) % (7 : Int32))), .unset, .unset, .unset, .unset]) rfl ?_
    show Steps p.tables e below (s₁.setTop (mkF m 8 #[.val (.int p1), .val (.int p2), .val (.int p3), .val (.int ((p1 &&& (2147483647 : Int32)) % (7 : Int32))), .unset, .unset, .unset, .unset] [])) _
    refine XS.iloadN X0.here hx rfl (hb hby at_8) rfl ?_
    show Steps p.tables e below (s₁.setTop (mkF m 9 #[.val (.int p1), .val (.int p2), .val (.int p3), .val (.int ((p1 &&& (2147483647 : Int32)) % (7 : Int32))), .unset, .unset, .unset, .unset] [(.int ((p1 &&& (2147483647 : Int32)) % (7 : Int32)))])) _
    refine XS.ifNo X0.here hx rfl (hb hby at_9) rfl ((if0 _ _).trans (teq hc9).2) ?_
    show Steps p.tables e below (s₁.setTop (mkF m 12 #[.val (.int p1), .val (.int p2), .val (.int p3), .val (.int ((p1 &&& (2147483647 : Int32)) % (7 : Int32))), .unset, .unset, .unset, .unset] [])) _
    refine st1 _ ?_
    show Steps p.tables e below (T1.setTop (mkF m 15 #[.val (.int p1), .val (.int p2), .val (.int p3), .val (.int ((p1 &&& (2147483647 : Int32)) % (7 : Int32))), .unset, .unset, .unset, .unset] [(.ref w_CONCAT)])) _
    refine XS.astore X1.here hx rfl (hb hby at_15) rfl rfl (l' := #[.val (.int p1), .val (.int p2), .val (.int p3), .val (.int ((p1 &&& (2147483647 : Int32)) % (7 : Int32))), .val (.ref w_CONCAT), .unset, .unset, .unset]) rfl ?_
    show Steps p.tables e below (T1.setTop (mkF m 17 #[.val (.int p1), .val (.int p2), .val (.int p3), .val (.int ((p1 &&& (2147483647 : Int32)) % (7 : Int32))), .val (.ref w_CONCAT), .unset, .unset, .unset] [])) _
    refine XS.iconst X1.here hx rfl (hb hby at_17) ?_
    show Steps p.tables e below (T1.setTop (mkF m 18 #[.val (.int p1), .val (.int p2), .val (.int p3), .val (.int ((p1 &&& (2147483647 : Int32)) % (7 : Int32))), .val (.ref w_CONCAT), .unset, .unset, .unset] [(.int (2 : Int32))])) _
    refine XS.istore X1.here hx rfl (hb hby at_18) rfl (l' := #[.val (.int p1), .val (.int p2), .val (.int p3), .val (.int ((p1 &&& (2147483647 : Int32)) % (7 : Int32))), .val (.ref w_CONCAT), .val (.int (2 : Int32)), .unset, .unset]) rfl ?_
    show Steps p.tables e below (T1.setTop (mkF m 20 #[.val (.int p1), .val (.int p2), .val (.int p3), .val (.int ((p1 &&& (2147483647 : Int32)) % (7 : Int32))), .val (.ref w_CONCAT), .val (.int (2 : Int32)), .unset, .unset] [])) _
    refine XS.iconst X1.here hx rfl (hb hby at_20) ?_
    show Steps p.tables e below (T1.setTop (mkF m 21 #[.val (.int p1), .val (.int p2), .val (.int p3), .val (.int ((p1 &&& (2147483647 : Int32)) % (7 : Int32))), .val (.ref w_CONCAT), .val (.int (2 : Int32)), .unset, .unset] [(.int (2 : Int32))])) _
    refine XS.istore X1.here hx rfl (hb hby at_21) rfl (l' := #[.val (.int p1), .val (.int p2), .val (.int p3), .val (.int ((p1 &&& (2147483647 : Int32)) % (7 : Int32))), .val (.ref w_CONCAT), .val (.int (2 : Int32)), .val (.int (2 : Int32)), .unset]) rfl ?_
    show Steps p.tables e below (T1.setTop (mkF m 23 #[.val (.int p1), .val (.int p2), .val (.int p3), .val (.int ((p1 &&& (2147483647 : Int32)) % (7 : Int32))), .val (.ref w_CONCAT), .val (.int (2 : Int32)), .val (.int (2 : Int32)), .unset] [])) _
    refine XS.goto X1.here hx rfl (pc0 := 23) (pc' := 132) rfl (hb hby at_23) (by decide) (by decide) ?_
    show Steps p.tables e below (T1.setTop (mkF m 132 #[.val (.int p1), .val (.int p2), .val (.int p3), .val (.int ((p1 &&& (2147483647 : Int32)) % (7 : Int32))), .val (.ref w_CONCAT), .val (.int (2 : Int32)), .val (.int (2 : Int32)), .unset] [])) _
    refine XS.iloadN X1.here hx rfl (hb hby at_132) rfl ?_
    show Steps p.tables e below (T1.setTop (mkF m 133 #[.val (.int p1), .val (.int p2), .val (.int p3), .val (.int ((p1 &&& (2147483647 : Int32)) % (7 : Int32))), .val (.ref w_CONCAT), .val (.int (2 : Int32)), .val (.int (2 : Int32)), .unset] [(.int p3)])) _
    refine XS.bipush X1.here hx rfl (hb hby at_133) ?_
    show Steps p.tables e below (T1.setTop (mkF m 135 #[.val (.int p1), .val (.int p2), .val (.int p3), .val (.int ((p1 &&& (2147483647 : Int32)) % (7 : Int32))), .val (.ref w_CONCAT), .val (.int (2 : Int32)), .val (.int (2 : Int32)), .unset] [(.int (7 : Int32)), (.int p3)])) _
    refine XS.iand X1.here hx rfl (hb hby at_135) rfl ?_
    show Steps p.tables e below (T1.setTop (mkF m 136 #[.val (.int p1), .val (.int p2), .val (.int p3), .val (.int ((p1 &&& (2147483647 : Int32)) % (7 : Int32))), .val (.ref w_CONCAT), .val (.int (2 : Int32)), .val (.int (2 : Int32)), .unset] [(.int (p3 &&& (7 : Int32)))])) _
    refine XS.iconst X1.here hx rfl (hb hby at_136) ?_
    show Steps p.tables e below (T1.setTop (mkF m 137 #[.val (.int p1), .val (.int p2), .val (.int p3), .val (.int ((p1 &&& (2147483647 : Int32)) % (7 : Int32))), .val (.ref w_CONCAT), .val (.int (2 : Int32)), .val (.int (2 : Int32)), .unset] [(.int (2 : Int32)), (.int (p3 &&& (7 : Int32)))])) _
    refine XS.isub X1.here hx rfl (hb hby at_137) rfl ?_
    show Steps p.tables e below (T1.setTop (mkF m 138 #[.val (.int p1), .val (.int p2), .val (.int p3), .val (.int ((p1 &&& (2147483647 : Int32)) % (7 : Int32))), .val (.ref w_CONCAT), .val (.int (2 : Int32)), .val (.int (2 : Int32)), .unset] [(.int ((p3 &&& (7 : Int32)) - (2 : Int32)))])) _
    refine XS.istore X1.here hx rfl (hb hby at_138) rfl (l' := #[.val (.int p1), .val (.int p2), .val (.int p3), .val (.int ((p1 &&& (2147483647 : Int32)) % (7 : Int32))), .val (.ref w_CONCAT), .val (.int (2 : Int32)), .val (.int (2 : Int32)), .val (.int ((p3 &&& (7 : Int32)) - (2 : Int32)))]) rfl ?_
    show Steps p.tables e below (T1.setTop (mkF m 140 #[.val (.int p1), .val (.int p2), .val (.int p3), .val (.int ((p1 &&& (2147483647 : Int32)) % (7 : Int32))), .val (.ref w_CONCAT), .val (.int (2 : Int32)), .val (.int (2 : Int32)), .val (.int ((p3 &&& (7 : Int32)) - (2 : Int32)))] [])) _
    refine XS.aload X1.here hx rfl (hb hby at_140) rfl rfl ?_
    show Steps p.tables e below (T1.setTop (mkF m 142 #[.val (.int p1), .val (.int p2), .val (.int p3), .val (.int ((p1 &&& (2147483647 : Int32)) % (7 : Int32))), .val (.ref w_CONCAT), .val (.int (2 : Int32)), .val (.int (2 : Int32)), .val (.int ((p3 &&& (7 : Int32)) - (2 : Int32)))] [(.ref w_CONCAT)])) _
    refine XS.iload X1.here hx rfl (hb hby at_142) rfl ?_
    show Steps p.tables e below (T1.setTop (mkF m 144 #[.val (.int p1), .val (.int p2), .val (.int p3), .val (.int ((p1 &&& (2147483647 : Int32)) % (7 : Int32))), .val (.ref w_CONCAT), .val (.int (2 : Int32)), .val (.int (2 : Int32)), .val (.int ((p3 &&& (7 : Int32)) - (2 : Int32)))] [(.int (2 : Int32)), (.ref w_CONCAT)])) _
    refine XS.iload X1.here hx rfl (hb hby at_144) rfl ?_
    show Steps p.tables e below (T1.setTop (mkF m 146 #[.val (.int p1), .val (.int p2), .val (.int p3), .val (.int ((p1 &&& (2147483647 : Int32)) % (7 : Int32))), .val (.ref w_CONCAT), .val (.int (2 : Int32)), .val (.int (2 : Int32)), .val (.int ((p3 &&& (7 : Int32)) - (2 : Int32)))] [(.int (2 : Int32)), (.int (2 : Int32)), (.ref w_CONCAT)])) _
    refine XS.iloadN X1.here hx rfl (hb hby at_146) rfl ?_
    show Steps p.tables e below (T1.setTop (mkF m 147 #[.val (.int p1), .val (.int p2), .val (.int p3), .val (.int ((p1 &&& (2147483647 : Int32)) % (7 : Int32))), .val (.ref w_CONCAT), .val (.int (2 : Int32)), .val (.int (2 : Int32)), .val (.int ((p3 &&& (7 : Int32)) - (2 : Int32)))] [(.int p2), (.int (2 : Int32)), (.int (2 : Int32)), (.ref w_CONCAT)])) _
    refine st2 _ ?_
    show Steps p.tables e below (T2.setTop (mkF m 150 #[.val (.int p1), .val (.int p2), .val (.int p3), .val (.int ((p1 &&& (2147483647 : Int32)) % (7 : Int32))), .val (.ref w_CONCAT), .val (.int (2 : Int32)), .val (.int (2 : Int32)), .val (.int ((p3 &&& (7 : Int32)) - (2 : Int32)))] [(.int (1 : Int32))])) _
    refine XS.ifNo X2.here hx rfl (hb hby at_150) rfl ((if0 _ _).trans (feq (by decide : ¬ ((1 : Int32) = (0 : Int32)))).1) ?_
    show Steps p.tables e below (T2.setTop (mkF m 153 #[.val (.int p1), .val (.int p2), .val (.int p3), .val (.int ((p1 &&& (2147483647 : Int32)) % (7 : Int32))), .val (.ref w_CONCAT), .val (.int (2 : Int32)), .val (.int (2 : Int32)), .val (.int ((p3 &&& (7 : Int32)) - (2 : Int32)))] [])) _
    refine XS.aload X2.here hx rfl (hb hby at_153) rfl rfl ?_
    show Steps p.tables e below (T2.setTop (mkF m 155 #[.val (.int p1), .val (.int p2), .val (.int p3), .val (.int ((p1 &&& (2147483647 : Int32)) % (7 : Int32))), .val (.ref w_CONCAT), .val (.int (2 : Int32)), .val (.int (2 : Int32)), .val (.int ((p3 &&& (7 : Int32)) - (2 : Int32)))] [(.ref w_CONCAT)])) _
    refine XS.iload X2.here hx rfl (hb hby at_155) rfl ?_
    show Steps p.tables e below (T2.setTop (mkF m 157 #[.val (.int p1), .val (.int p2), .val (.int p3), .val (.int ((p1 &&& (2147483647 : Int32)) % (7 : Int32))), .val (.ref w_CONCAT), .val (.int (2 : Int32)), .val (.int (2 : Int32)), .val (.int ((p3 &&& (7 : Int32)) - (2 : Int32)))] [(.int (2 : Int32)), (.ref w_CONCAT)])) _
    refine XS.iload X2.here hx rfl (hb hby at_157) rfl ?_
    show Steps p.tables e below (T2.setTop (mkF m 159 #[.val (.int p1), .val (.int p2), .val (.int p3), .val (.int ((p1 &&& (2147483647 : Int32)) % (7 : Int32))), .val (.ref w_CONCAT), .val (.int (2 : Int32)), .val (.int (2 : Int32)), .val (.int ((p3 &&& (7 : Int32)) - (2 : Int32)))] [(.int (2 : Int32)), (.int (2 : Int32)), (.ref w_CONCAT)])) _
    refine XS.iload X2.here hx rfl (hb hby at_159) rfl ?_
    show Steps p.tables e below (T2.setTop (mkF m 161 #[.val (.int p1), .val (.int p2), .val (.int p3), .val (.int ((p1 &&& (2147483647 : Int32)) % (7 : Int32))), .val (.ref w_CONCAT), .val (.int (2 : Int32)), .val (.int (2 : Int32)), .val (.int ((p3 &&& (7 : Int32)) - (2 : Int32)))] [(.int ((p3 &&& (7 : Int32)) - (2 : Int32))), (.int (2 : Int32)), (.int (2 : Int32)), (.ref w_CONCAT)])) _
    refine st3 _ ?_
    show Steps p.tables e below (T3.setTop (mkF m 164 #[.val (.int p1), .val (.int p2), .val (.int p3), .val (.int ((p1 &&& (2147483647 : Int32)) % (7 : Int32))), .val (.ref w_CONCAT), .val (.int (2 : Int32)), .val (.int (2 : Int32)), .val (.int ((p3 &&& (7 : Int32)) - (2 : Int32)))] [(.int (1 : Int32))])) _
    refine XS.ifNo X3.here hx rfl (hb hby at_164) rfl ((if0 _ _).trans (feq (by decide : ¬ ((1 : Int32) = (0 : Int32)))).1) ?_
    show Steps p.tables e below (T3.setTop (mkF m 167 #[.val (.int p1), .val (.int p2), .val (.int p3), .val (.int ((p1 &&& (2147483647 : Int32)) % (7 : Int32))), .val (.ref w_CONCAT), .val (.int (2 : Int32)), .val (.int (2 : Int32)), .val (.int ((p3 &&& (7 : Int32)) - (2 : Int32)))] [])) _
    refine XS.iconst X3.here hx rfl (hb hby at_167) ?_
    show Steps p.tables e below (T3.setTop (mkF m 168 #[.val (.int p1), .val (.int p2), .val (.int p3), .val (.int ((p1 &&& (2147483647 : Int32)) % (7 : Int32))), .val (.ref w_CONCAT), .val (.int (2 : Int32)), .val (.int (2 : Int32)), .val (.int ((p3 &&& (7 : Int32)) - (2 : Int32)))] [(.int (1 : Int32))])) _
    refine XS.goto X3.here hx rfl (pc0 := 168) (pc' := 172) rfl (hb hby at_168) (by decide) (by decide) ?_
    show Steps p.tables e below (T3.setTop (mkF m 172 #[.val (.int p1), .val (.int p2), .val (.int p3), .val (.int ((p1 &&& (2147483647 : Int32)) % (7 : Int32))), .val (.ref w_CONCAT), .val (.int (2 : Int32)), .val (.int (2 : Int32)), .val (.int ((p3 &&& (7 : Int32)) - (2 : Int32)))] [(.int (1 : Int32))])) _
    exact retN X3 hx (t := .boolean) Bd.returns (by simp) (hb hby at_172) hr
  · show QP (.int (1 : Int32)) h0 n0 _ T3.heap _
    rw [e3]
    exact ⟨rfl, N3, rfl⟩
set_option maxRecDepth 65536 in
set_option maxHeartbeats 40000000 in
theorem rm0 (l : Launch) (Z : State) (a0 : Array Value) (hw : ∀ d ∈ tables_1, d.before a0 Z = true) (ws : List Jvm.Cond) (p1 : Int32) (p2 : Int32) (p3 : Int32) (w_CONCAT : Addr) (w_SUBSTRING : Addr) (w_LOCATE : Addr) (w_LENGTH : Addr) (w_ABS : Addr) (w_SQRT : Addr) (w_MOD : Addr) (h0 : Heap) (n0 : Nat) (Z0 : n0 ≤ h0.size) (S_CONCAT : Sta Z h0 "com/example/steward/steward/ejbql/Operand$Function" "CONCAT" "Lcom/example/steward/steward/ejbql/Operand$Function;" (.ref w_CONCAT)) (S_SUBSTRING : Sta Z h0 "com/example/steward/steward/ejbql/Operand$Function" "SUBSTRING" "Lcom/example/steward/steward/ejbql/Operand$Function;" (.ref w_SUBSTRING)) (S_LOCATE : Sta Z h0 "com/example/steward/steward/ejbql/Operand$Function" "LOCATE" "Lcom/example/steward/steward/ejbql/Operand$Function;" (.ref w_LOCATE)) (S_LENGTH : Sta Z h0 "com/example/steward/steward/ejbql/Operand$Function" "LENGTH" "Lcom/example/steward/steward/ejbql/Operand$Function;" (.ref w_LENGTH)) (S_ABS : Sta Z h0 "com/example/steward/steward/ejbql/Operand$Function" "ABS" "Lcom/example/steward/steward/ejbql/Operand$Function;" (.ref w_ABS)) (S_SQRT : Sta Z h0 "com/example/steward/steward/ejbql/Operand$Function" "SQRT" "Lcom/example/steward/steward/ejbql/Operand$Function;" (.ref w_SQRT)) (S_MOD : Sta Z h0 "com/example/steward/steward/ejbql/Operand$Function" "MOD" "Lcom/example/steward/steward/ejbql/Operand$Function;" (.ref w_MOD)) (E_CONCAT : Exa Z h0 w_CONCAT "com/example/steward/steward/ejbql/Operand$Function") (E_SUBSTRING : Exa Z h0 w_SUBSTRING "com/example/steward/steward/ejbql/Operand$Function") (E_LOCATE : Exa Z h0 w_LOCATE "com/example/steward/steward/ejbql/Operand$Function") (E_LENGTH : Exa Z h0 w_LENGTH "com/example/steward/steward/ejbql/Operand$Function") (E_ABS : Exa Z h0 w_ABS "com/example/steward/steward/ejbql/Operand$Function") (E_SQRT : Exa Z h0 w_SQRT "com/example/steward/steward/ejbql/Operand$Function") (E_MOD : Exa Z h0 w_MOD "com/example/steward/steward/ejbql/Operand$Function") (F_CONCAT_min : Fld Z h0 w_CONCAT "com/example/steward/steward/ejbql/Operand$Function" "minArguments" "I" (.int (2 : Int32))) (F_CONCAT_max : Fld Z h0 w_CONCAT "com/example/steward/steward/ejbql/Operand$Function" "maxArguments" "I" (.int (2 : Int32))) (F_SUBSTRING_min : Fld Z h0 w_SUBSTRING "com/example/steward/steward/ejbql/Operand$Function" "minArguments" "I" (.int (3 : Int32))) (F_SUBSTRING_max : Fld Z h0 w_SUBSTRING "com/example/steward/steward/ejbql/Operand$Function" "maxArguments" "I" (.int (3 : Int32))) (F_LOCATE_min : Fld Z h0 w_LOCATE "com/example/steward/steward/ejbql/Operand$Function" "minArguments" "I" (.int (2 : Int32))) (F_LOCATE_max : Fld Z h0 w_LOCATE "com/example/steward/steward/ejbql/Operand$Function" "maxArguments" "I" (.int (3 : Int32))) (F_LENGTH_min : Fld Z h0 w_LENGTH "com/example/steward/steward/ejbql/Operand$Function" "minArguments" "I" (.int (1 : Int32))) (F_LENGTH_max : Fld Z h0 w_LENGTH "com/example/steward/steward/ejbql/Operand$Function" "maxArguments" "I" (.int (1 : Int32))) (F_ABS_min : Fld Z h0 w_ABS "com/example/steward/steward/ejbql/Operand$Function" "minArguments" "I" (.int (1 : Int32))) (F_ABS_max : Fld Z h0 w_ABS "com/example/steward/steward/ejbql/Operand$Function" "maxArguments" "I" (.int (1 : Int32))) (F_SQRT_min : Fld Z h0 w_SQRT "com/example/steward/steward/ejbql/Operand$Function" "minArguments" "I" (.int (1 : Int32))) (F_SQRT_max : Fld Z h0 w_SQRT "com/example/steward/steward/ejbql/Operand$Function" "maxArguments" "I" (.int (1 : Int32))) (F_MOD_min : Fld Z h0 w_MOD "com/example/steward/steward/ejbql/Operand$Function" "minArguments" "I" (.int (2 : Int32))) (F_MOD_max : Fld Z h0 w_MOD "com/example/steward/steward/ejbql/Operand$Function" "maxArguments" "I" (.int (2 : Int32))) (r : Int32) (hr0 : r = (if ((p1 &&& (2147483647 : Int32)) % (7 : Int32)) = (0 : Int32) then (1 : Int32) else (if ((p1 &&& (2147483647 : Int32)) % (7 : Int32)) = (1 : Int32) then (1 : Int32) else (if ((p1 &&& (2147483647 : Int32)) % (7 : Int32)) = (2 : Int32) then (1 : Int32) else (if ((p1 &&& (2147483647 : Int32)) % (7 : Int32)) = (3 : Int32) then (1 : Int32) else (if ((p1 &&& (2147483647 : Int32)) % (7 : Int32)) = (4 : Int32) then (1 : Int32) else (if ((p1 &&& (2147483647 : Int32)) % (7 : Int32)) = (5 : Int32) then (1 : Int32) else (1 : Int32)))))))) :
    MetFree l x (head1 (Jvm.Cond.code x code maxLocals ret :: ws) room_1) (fun a U => a = #[(.int p1), (.int p2), (.int p3)] ∧ Z.Warmed39 U.vm ∧ U.heap = h0) (fun _ _ _ _ _ => True) (fun _ U o U' => ∃ v L, o = .returned v ∧ QP (.int r) h0 n0 v U'.heap L ∧ FrameEnd U o U' L room_1.cells room_1.slots) := by
  by_cases hc9 : ((p1 &&& (2147483647 : Int32)) % (7 : Int32)) = (0 : Int32)
  · exact rm0_f l Z a0 hw ws p1 p2 p3 w_CONCAT w_SUBSTRING w_LOCATE w_LENGTH w_ABS w_SQRT w_MOD h0 n0 Z0 S_CONCAT S_SUBSTRING S_LOCATE S_LENGTH S_ABS S_SQRT S_MOD E_CONCAT E_SUBSTRING E_LOCATE E_LENGTH E_ABS E_SQRT E_MOD F_CONCAT_min F_CONCAT_max F_SUBSTRING_min F_SUBSTRING_max F_LOCATE_min F_LOCATE_max F_LENGTH_min F_LENGTH_max F_ABS_min F_ABS_max F_SQRT_min F_SQRT_max F_MOD_min F_MOD_max r (hr0.trans (if_pos hc9)) hc9
  · by_cases hc28 : ((p1 &&& (2147483647 : Int32)) % (7 : Int32)) = (1 : Int32)
    · exact rm0_tf l Z a0 hw ws p1 p2 p3 w_CONCAT w_SUBSTRING w_LOCATE w_LENGTH w_ABS w_SQRT w_MOD h0 n0 Z0 S_CONCAT S_SUBSTRING S_LOCATE S_LENGTH S_ABS S_SQRT S_MOD E_CONCAT E_SUBSTRING E_LOCATE E_LENGTH E_ABS E_SQRT E_MOD F_CONCAT_min F_CONCAT_max F_SUBSTRING_min F_SUBSTRING_max F_LOCATE_min F_LOCATE_max F_LENGTH_min F_LENGTH_max F_ABS_min F_ABS_max F_SQRT_min F_SQRT_max F_MOD_min F_MOD_max r ((hr0.trans (if_neg hc9)).trans (if_pos hc28)) hc9 hc28
    · by_cases hc47 : ((p1 &&& (2147483647 : Int32)) % (7 : Int32)) = (2 : Int32)
      · exact rm0_ttf l Z a0 hw ws p1 p2 p3 w_CONCAT w_SUBSTRING w_LOCATE w_LENGTH w_ABS w_SQRT w_MOD h0 n0 Z0 S_CONCAT S_SUBSTRING S_LOCATE S_LENGTH S_ABS S_SQRT S_MOD E_CONCAT E_SUBSTRING E_LOCATE E_LENGTH E_ABS E_SQRT E_MOD F_CONCAT_min F_CONCAT_max F_SUBSTRING_min F_SUBSTRING_max F_LOCATE_min F_LOCATE_max F_LENGTH_min F_LENGTH_max F_ABS_min F_ABS_max F_SQRT_min F_SQRT_max F_MOD_min F_MOD_max r (((hr0.trans (if_neg hc9)).trans (if_neg hc28)).trans (if_pos hc47)) hc9 hc28 hc47
      · by_cases hc66 : ((p1 &&& (2147483647 : Int32)) % (7 : Int32)) = (3 : Int32)
        · exact rm0_tttf l Z a0 hw ws p1 p2 p3 w_CONCAT w_SUBSTRING w_LOCATE w_LENGTH w_ABS w_SQRT w_MOD h0 n0 Z0 S_CONCAT S_SUBSTRING S_LOCATE S_LENGTH S_ABS S_SQRT S_MOD E_CONCAT E_SUBSTRING E_LOCATE E_LENGTH E_ABS E_SQRT E_MOD F_CONCAT_min F_CONCAT_max F_SUBSTRING_min F_SUBSTRING_max F_LOCATE_min F_LOCATE_max F_LENGTH_min F_LENGTH_max F_ABS_min F_ABS_max F_SQRT_min F_SQRT_max F_MOD_min F_MOD_max r ((((hr0.trans (if_neg hc9)).trans (if_neg hc28)).trans (if_neg hc47)).trans (if_pos hc66)) hc9 hc28 hc47 hc66
        · by_cases hc85 : ((p1 &&& (2147483647 : Int32)) % (7 : Int32)) = (4 : Int32)
          · exact rm0_ttttf l Z a0 hw ws p1 p2 p3 w_CONCAT w_SUBSTRING w_LOCATE w_LENGTH w_ABS w_SQRT w_MOD h0 n0 Z0 S_CONCAT S_SUBSTRING S_LOCATE S_LENGTH S_ABS S_SQRT S_MOD E_CONCAT E_SUBSTRING E_LOCATE E_LENGTH E_ABS E_SQRT E_MOD F_CONCAT_min F_CONCAT_max F_SUBSTRING_min F_SUBSTRING_max F_LOCATE_min F_LOCATE_max F_LENGTH_min F_LENGTH_max F_ABS_min F_ABS_max F_SQRT_min F_SQRT_max F_MOD_min F_MOD_max r (((((hr0.trans (if_neg hc9)).trans (if_neg hc28)).trans (if_neg hc47)).trans (if_neg hc66)).trans (if_pos hc85)) hc9 hc28 hc47 hc66 hc85
          · by_cases hc104 : ((p1 &&& (2147483647 : Int32)) % (7 : Int32)) = (5 : Int32)
            · exact rm0_tttttf l Z a0 hw ws p1 p2 p3 w_CONCAT w_SUBSTRING w_LOCATE w_LENGTH w_ABS w_SQRT w_MOD h0 n0 Z0 S_CONCAT S_SUBSTRING S_LOCATE S_LENGTH S_ABS S_SQRT S_MOD E_CONCAT E_SUBSTRING E_LOCATE E_LENGTH E_ABS E_SQRT E_MOD F_CONCAT_min F_CONCAT_max F_SUBSTRING_min F_SUBSTRING_max F_LOCATE_min F_LOCATE_max F_LENGTH_min F_LENGTH_max F_ABS_min F_ABS_max F_SQRT_min F_SQRT_max F_MOD_min F_MOD_max r ((((((hr0.trans (if_neg hc9)).trans (if_neg hc28)).trans (if_neg hc47)).trans (if_neg hc66)).trans (if_neg hc85)).trans (if_pos hc104)) hc9 hc28 hc47 hc66 hc85 hc104
            · exact rm0_tttttt l Z a0 hw ws p1 p2 p3 w_CONCAT w_SUBSTRING w_LOCATE w_LENGTH w_ABS w_SQRT w_MOD h0 n0 Z0 S_CONCAT S_SUBSTRING S_LOCATE S_LENGTH S_ABS S_SQRT S_MOD E_CONCAT E_SUBSTRING E_LOCATE E_LENGTH E_ABS E_SQRT E_MOD F_CONCAT_min F_CONCAT_max F_SUBSTRING_min F_SUBSTRING_max F_LOCATE_min F_LOCATE_max F_LENGTH_min F_LENGTH_max F_ABS_min F_ABS_max F_SQRT_min F_SQRT_max F_MOD_min F_MOD_max r ((((((hr0.trans (if_neg hc9)).trans (if_neg hc28)).trans (if_neg hc47)).trans (if_neg hc66)).trans (if_neg hc85)).trans (if_neg hc104)) hc9 hc28 hc47 hc66 hc85 hc104
set_option maxRecDepth 65536 in
set_option maxHeartbeats 40000000 in
theorem comes_1 {Post : Tables → Env → Array Value → State → Outcome → State → Prop} (hpost : ∀ tb e args s v u, (limb_1_1.after args s (.returned v) u = true ∧ limb_1_2.after args s (.returned v) u = true ∧ True) → FrameEnd s (.returned v) u (Jvm.fieldLocs frame_1_writes args s ++ Jvm.arrayLocs frame_1_arrays args s ++ Jvm.staticLocs frame_1_statics s) 0 0 → Post tb e args s (.returned v) u) :
    ArmFor flags0 classFile x code maxLocals ret World_1 tables_1 room_1 Calls_1 rest_1 Pre_1 Post := by
  intro l hfl _ _ p e ha hc hk s m args below hf hA hF happ hP
  obtain ⟨hcalls, hrest, hpre⟩ := hP
  obtain ⟨-, -, -, hnamed, -, -, -, hat⟩ := (Spec.applies_iff hf).mp happ
  obtain ⟨hg, hn⟩ := and_e (Cond.before_iff.mp (show (Jvm.Cond.and given_1 narrow_1).before args s = true from hpre))
  obtain ⟨hg0, hgr0⟩ := and_e hg
  obtain ⟨hg1, hgr1⟩ := and_e hgr0
  obtain ⟨hg2, hgr2⟩ := and_e hgr1
  have hg3 := hgr2
  obtain ⟨w0, w1, w2, rfl⟩ : ∃ w0 w1 w2 : Value, args = #[w0, w1, w2] := by
    have hs : args.size = 3 := by simpa [Cond.value, given_1] using hg0
    obtain ⟨L⟩ := args
    match L, hs with
    | [w0, w1, w2], _ => exact ⟨w0, w1, w2, rfl⟩
  have hw := fun d (hd : d ∈ tables_1) => atoms_spec (ws := Jvm.Cond.code x code maxLocals ret :: tables_1) hat d (List.mem_cons_of_mem _ hd)
  have hfit : Fit s := fun {y c} hc i hi => by
    obtain ⟨ha, rfl⟩ := Array.getElem?_eq_some_iff.mp hc
    have q := List.all_eq_true.mp ((Array.all_eq_true_iff_forall_mem.mp hF) _ (Array.getElem_mem ha)) i (List.mem_range.mpr hi)
    simpa [Array.getElem?_eq_getElem hi] using q
  obtain ⟨i0, ei0⟩ := is_v hg1
  obtain rfl : w0 = (.int i0) := Option.some.inj ei0
  obtain ⟨i1, ei1⟩ := is_v hg2
  obtain rfl : w1 = (.int i1) := Option.some.inj ei1
  obtain ⟨i2, ei2⟩ := is_v hg3
  obtain rfl : w2 = (.int i2) := Option.some.inj ei2
  obtain ⟨hn0, hnr0⟩ := and_e hn
  obtain ⟨hn1, hnr1⟩ := and_e hnr0
  obtain ⟨hn2, hnr2⟩ := and_e hnr1
  obtain ⟨hn3, hnr3⟩ := and_e hnr2
  obtain ⟨hn4, hnr4⟩ := and_e hnr3
  obtain ⟨hn5, hnr5⟩ := and_e hnr4
  obtain ⟨hn6, hnr6⟩ := and_e hnr5
  obtain ⟨hn7, hnr7⟩ := and_e hnr6
  obtain ⟨hn8, hnr8⟩ := and_e hnr7
  obtain ⟨hn9, hnr9⟩ := and_e hnr8
  obtain ⟨hn10, hnr10⟩ := and_e hnr9
  obtain ⟨hn11, hnr11⟩ := and_e hnr10
  obtain ⟨hn12, hnr12⟩ := and_e hnr11
  obtain ⟨hn13, hnr13⟩ := and_e hnr12
  obtain ⟨hn14, hnr14⟩ := and_e hnr13
  obtain ⟨hn15, hnr15⟩ := and_e hnr14
  obtain ⟨hn16, hnr16⟩ := and_e hnr15
  obtain ⟨hn17, hnr17⟩ := and_e hnr16
  obtain ⟨hn18, hnr18⟩ := and_e hnr17
  obtain ⟨hn19, hnr19⟩ := and_e hnr18
  have hn20 := hnr19
  obtain ⟨w_CONCAT, ev_CONCAT⟩ := exa_v hn0
  have S_CONCAT := Sta.start ev_CONCAT (Or.inr ⟨(hw _ (List.mem_of_getElem? (i := 2) rfl)), (hw _ (List.mem_of_getElem? (i := 3) rfl))⟩)
  have E_CONCAT := Exa.start ev_CONCAT hn0
  obtain ⟨w_SUBSTRING, ev_SUBSTRING⟩ := exa_v hn3
  have S_SUBSTRING := Sta.start ev_SUBSTRING (Or.inr ⟨(hw _ (List.mem_of_getElem? (i := 2) rfl)), (hw _ (List.mem_of_getElem? (i := 18) rfl))⟩)
  have E_SUBSTRING := Exa.start ev_SUBSTRING hn3
  obtain ⟨w_LENGTH, ev_LENGTH⟩ := exa_v hn6
  have S_LENGTH := Sta.start ev_LENGTH (Or.inr ⟨(hw _ (List.mem_of_getElem? (i := 2) rfl)), (hw _ (List.mem_of_getElem? (i := 20) rfl))⟩)
  have E_LENGTH := Exa.start ev_LENGTH hn6
  obtain ⟨w_SQRT, ev_SQRT⟩ := exa_v hn9
  have S_SQRT := Sta.start ev_SQRT (Or.inr ⟨(hw _ (List.mem_of_getElem? (i := 2) rfl)), (hw _ (List.mem_of_getElem? (i := 22) rfl))⟩)
  have E_SQRT := Exa.start ev_SQRT hn9
  obtain ⟨w_LOCATE, ev_LOCATE⟩ := exa_v hn12
  have S_LOCATE := Sta.start ev_LOCATE (Or.inr ⟨(hw _ (List.mem_of_getElem? (i := 2) rfl)), (hw _ (List.mem_of_getElem? (i := 24) rfl))⟩)
  have E_LOCATE := Exa.start ev_LOCATE hn12
  obtain ⟨w_ABS, ev_ABS⟩ := exa_v hn15
  have S_ABS := Sta.start ev_ABS (Or.inr ⟨(hw _ (List.mem_of_getElem? (i := 2) rfl)), (hw _ (List.mem_of_getElem? (i := 26) rfl))⟩)
  have E_ABS := Exa.start ev_ABS hn15
  obtain ⟨w_MOD, ev_MOD⟩ := exa_v hn18
  have S_MOD := Sta.start ev_MOD (Or.inr ⟨(hw _ (List.mem_of_getElem? (i := 2) rfl)), (hw _ (List.mem_of_getElem? (i := 28) rfl))⟩)
  have E_MOD := Exa.start ev_MOD hn18
  have F_CONCAT_minArguments := own_fldI ev_CONCAT hn1
  have F_CONCAT_maxArguments := own_fldI ev_CONCAT hn2
  have F_SUBSTRING_minArguments := own_fldI ev_SUBSTRING hn4
  have F_SUBSTRING_maxArguments := own_fldI ev_SUBSTRING hn5
  have F_LENGTH_minArguments := own_fldI ev_LENGTH hn7
  have F_LENGTH_maxArguments := own_fldI ev_LENGTH hn8
  have F_SQRT_minArguments := own_fldI ev_SQRT hn10
  have F_SQRT_maxArguments := own_fldI ev_SQRT hn11
  have F_LOCATE_minArguments := own_fldI ev_LOCATE hn13
  have F_LOCATE_maxArguments := own_fldI ev_LOCATE hn14
  have F_ABS_minArguments := own_fldI ev_ABS hn16
  have F_ABS_maxArguments := own_fldI ev_ABS hn17
  have F_MOD_minArguments := own_fldI ev_MOD hn19
  have F_MOD_maxArguments := own_fldI ev_MOD hn20
  obtain ⟨n, o, h1, h2, h3, _, L, rfl, ⟨rfl, N, -⟩, hq⟩ := rm0 l s _ hw tables_1 i0 i1 i2 w_CONCAT w_SUBSTRING w_LOCATE w_LENGTH w_ABS w_SQRT w_MOD s.heap s.heap.size (Nat.le_refl _) S_CONCAT S_SUBSTRING S_LOCATE S_LENGTH S_ABS S_SQRT S_MOD E_CONCAT E_SUBSTRING E_LOCATE E_LENGTH E_ABS E_SQRT E_MOD F_CONCAT_minArguments F_CONCAT_maxArguments F_SUBSTRING_minArguments F_SUBSTRING_maxArguments F_LOCATE_minArguments F_LOCATE_maxArguments F_LENGTH_minArguments F_LENGTH_maxArguments F_ABS_minArguments F_ABS_maxArguments F_SQRT_minArguments F_SQRT_maxArguments F_MOD_minArguments F_MOD_maxArguments (1 : Int32) (by simp) p e ha hc hk s m _ below hf ((Spec.applies_iff_loose hf).mp happ).1 ⟨rfl, State.Warmed39.refl s, rfl⟩ trivial
  exact ⟨n, _, h1, h2, h3, hpost _ _ _ _ _ _ ⟨Cond.after_iff.mpr rfl, Cond.after_iff.mpr (eq_i res_at (Term.int_eval (1)) rfl), trivial⟩ ⟨hq.1, hq.2.1, (hq.2.2.sift fun y hy => Or.inr (N y hy)).mono (by decide) (by decide)⟩⟩
theorem main_1_1 : Claimed_1_1 := comes_1 fun _ _ _ _ _ _ h hF => ⟨h.1, hF⟩
theorem main_1_2 : Claimed_1_2 := comes_1 fun _ _ _ _ _ _ h hF => ⟨h.2.1, hF⟩
end Jvm.Pilot.@@N@@
namespace Jvm.Pilot.@@N@@
open Jvm Jvm.ClassFile Sem Op Lib Jvm.Free Jvm.Stand Jvm.Pilot.@@N@@.Jvm.D
/-! MADE BY PROGRAM (witnessworld.py) out of the Statement's table words and the real class files: 12 classes; the members and pool entries that the words name. The judged class is class 1, her method 1. -/
namespace start1
open Jvm.ClassFile
def u (s : String) : CpInfo := .utf8 (stringToUtf16 s)
/-- a pool by its gaps: so many unusable entries, then the entry; so many at the end -/
def gap : Nat → List CpInfo → List CpInfo
  | 0, r => r
  | n + 1, r => .unusable :: gap n r
def poolList (es : List (Nat × CpInfo)) (last : Nat) : List CpInfo := es.foldr (fun e r => gap e.1 (e.2 :: r)) (gap last [])
def pool (es : List (Nat × CpInfo)) (last : Nat) : Array CpInfo := ⟨poolList es last⟩
def fileOf (pool : Array CpInfo) (this : Nat) (attrs : Array Attribute := #[]) (ms : Array MethodInfo := #[]) (fl : Nat := 33) (sup : Nat := 0) (ifs : Array Nat := #[]) (fds : Array FieldInfo := #[]) : ClassFile where
  minorVersion := 0
  majorVersion := 65
  constantPool := pool
  accessFlags := fl
  thisClass := this
  superClass := sup
  interfaces := ifs
  fields := fds
  methods := ms
  attributes := attrs
def plain (name : String) (sup : Option ClassId) : Class where
  name := name
  kind := .ordinary
  loader := none
  accessFlags := 33
  super := sup
  interfaces := #[]
  cf := none
  fields := #[]
  methods := #[]
  instanceTypes := #[]
  staticTypes := #[]
  resolved := #[]
  callSites := []
  init := .initialized
  statics := none
  mirror := none

def pool0 : Array CpInfo := pool [(5, u "<init>"), (0, u "()V"), (1, .class_ 10), (1, u "java/lang/Object")] 113

def k0m0 : Method := { name := "<init>", desc := "()V", sig := { parameters := [], returnType := none }, accessFlags := 1, code := none }
/-- java/lang/Object -/
def k0 : Class := { plain "java/lang/Object" none with
  accessFlags := 33
  interfaces := #[]
  cf := some (fileOf pool0 8 #[] #[{ accessFlags := 1, nameIndex := 5, descriptorIndex := 6, attributes := #[] }] 33 0 #[] #[])
  fields := #[]
  methods := #[k0m0]
  instanceTypes := #[]
  staticTypes := #[]
  resolved := Array.replicate 124 none
  statics := none }

def pool1 : Array CpInfo := pool [(2, .class_ 4), (1, u "java/lang/Object"), (0, u "<init>"), (0, u "()V"), (0, .integer 2147483647), (0, .fieldref 9 10), (0, .class_ 11), (0, .nameAndType 12 13), (0, u "com/example/steward/steward/ejbql/Operand$Function"), (0, u "CONCAT"), (0, u "Lcom/example/steward/steward/ejbql/Operand$Function;"), (0, .fieldref 9 15), (0, .nameAndType 16 13), (0, u "SUBSTRING"), (0, .fieldref 9 18), (0, .nameAndType 19 13), (0, u "LOCATE"), (0, .fieldref 9 21), (0, .nameAndType 22 13), (0, u "LENGTH"), (0, .fieldref 9 24), (0, .nameAndType 25 13), (0, u "ABS"), (0, .fieldref 9 27), (0, .nameAndType 28 13), (0, u "SQRT"), (0, .fieldref 9 30), (0, .nameAndType 31 13), (0, u "MOD"), (0, .methodref 33 34), (0, .class_ 35), (0, .nameAndType 36 37), (0, u "com/example/steward/steward/ejbql/FunctionTakesPinLaw"), (0, u "check"), (0, u "(Lcom/example/steward/steward/ejbql/Operand$Function;III)Z"), (0, .methodref 9 39), (0, .nameAndType 40 41), (0, u "takes"), (0, u "(I)Z"), (2, u "law"), (0, u "(III)Z")] 7

def k1m0 : Method := { name := "<init>", desc := "()V", sig := { parameters := [], returnType := none }, accessFlags := 1, code := none }
def k1c1 : Code := { maxStack := 4, maxLocals := 8, code := code, exceptionTable := #[], attributes := #[] }
def k1m1 : Method := { name := "law", desc := "(III)Z", sig := { parameters := [.int, .int, .int], returnType := some .boolean }, accessFlags := 9, code := some k1c1 }
def k1c2 : Code := { maxStack := 2, maxLocals := 5, code := method_3_code, exceptionTable := #[], attributes := #[] }
def k1m2 : Method := { name := "check", desc := "(Lcom/example/steward/steward/ejbql/Operand$Function;III)Z", sig := { parameters := [(.object "com/example/steward/steward/ejbql/Operand$Function"), .int, .int, .int], returnType := some .boolean }, accessFlags := 10, code := some k1c2 }
/-- com/example/steward/steward/ejbql/FunctionTakesPinLaw -/
def k1 : Class := { plain "com/example/steward/steward/ejbql/FunctionTakesPinLaw" (some 0) with
  accessFlags := 49
  interfaces := #[]
  cf := some (fileOf pool1 33 #[] #[{ accessFlags := 1, nameIndex := 5, descriptorIndex := 6, attributes := #[] }, { accessFlags := 9, nameIndex := 44, descriptorIndex := 45, attributes := #[] }, { accessFlags := 10, nameIndex := 36, descriptorIndex := 37, attributes := #[] }] 49 2 #[] #[])
  fields := #[]
  methods := #[k1m0, k1m1, k1m2]
  instanceTypes := #[]
  staticTypes := #[]
  resolved := Array.replicate 53 none
  statics := none }

def pool2 : Array CpInfo := pool [(1, .class_ 2), (0, u "java/lang/constant/Constable"), (0, .class_ 4), (0, u "java/lang/Object")] 6

/-- java/lang/constant/Constable -/
def k2 : Class := { plain "java/lang/constant/Constable" (some 0) with
  accessFlags := 1537
  interfaces := #[]
  cf := some (fileOf pool2 1 #[] #[] 1537 3 #[] #[])
  fields := #[]
  methods := #[]
  instanceTypes := #[]
  staticTypes := #[]
  resolved := Array.replicate 11 none
  statics := none }

def pool3 : Array CpInfo := pool [(1, .class_ 2), (0, u "java/lang/Comparable"), (0, .class_ 4), (0, u "java/lang/Object")] 7

/-- java/lang/Comparable -/
def k3 : Class := { plain "java/lang/Comparable" (some 0) with
  accessFlags := 1537
  interfaces := #[]
  cf := some (fileOf pool3 1 #[] #[] 1537 3 #[] #[])
  fields := #[]
  methods := #[]
  instanceTypes := #[]
  staticTypes := #[]
  resolved := Array.replicate 12 none
  statics := none }

def pool4 : Array CpInfo := pool [(1, .class_ 2), (0, u "java/io/Serializable"), (0, .class_ 4), (0, u "java/lang/Object")] 2

/-- java/io/Serializable -/
def k4 : Class := { plain "java/io/Serializable" (some 0) with
  accessFlags := 1537
  interfaces := #[]
  cf := some (fileOf pool4 1 #[] #[] 1537 3 #[] #[])
  fields := #[]
  methods := #[]
  instanceTypes := #[]
  staticTypes := #[]
  resolved := Array.replicate 7 none
  statics := none }

def pool5 : Array CpInfo := pool [(2, .class_ 4), (1, u "java/lang/Enum"), (0, u "name"), (0, u "Ljava/lang/String;"), (2, u "ordinal"), (0, u "I"), (1, .class_ 14), (1, u "java/lang/Object"), (4, u "hash"), (86, .class_ 108), (1, u "java/lang/Enum$EnumDesc"), (2, .class_ 112), (0, u "java/lang/constant/Constable"), (0, .class_ 114), (0, u "java/lang/Comparable"), (0, .class_ 116), (0, u "java/io/Serializable")] 87

/-- java/lang/Enum -/
def k5 : Class := { plain "java/lang/Enum" (some 0) with
  accessFlags := 1057
  interfaces := #[2, 3, 4]
  cf := some (fileOf pool5 2 #[.nestMembers #[106]] #[] 1057 12 #[111, 113, 115] #[{ accessFlags := 18, nameIndex := 5, descriptorIndex := 6, attributes := #[] }, { accessFlags := 18, nameIndex := 9, descriptorIndex := 10, attributes := #[] }, { accessFlags := 2, nameIndex := 19, descriptorIndex := 10, attributes := #[] }])
  fields := #[{ name := "name", type := (.object "java/lang/String"), accessFlags := 18, slot := 0, constantValue := 0 }, { name := "ordinal", type := .int, accessFlags := 18, slot := 1, constantValue := 0 }, { name := "hash", type := .int, accessFlags := 2, slot := 2, constantValue := 0 }]
  methods := #[]
  instanceTypes := #[(.object "java/lang/String"), .int, .int]
  staticTypes := #[]
  resolved := Array.replicate 204 none
  statics := none }

def pool6 : Array CpInfo := pool [(1, .class_ 2), (0, u "com/example/steward/steward/ejbql/Operand$Function"), (2, u "CONCAT"), (0, u "Lcom/example/steward/steward/ejbql/Operand$Function;"), (2, u "SUBSTRING"), (2, u "LOCATE"), (2, u "LENGTH"), (2, u "ABS"), (2, u "SQRT"), (2, u "MOD"), (2, u "$VALUES"), (0, u "[Lcom/example/steward/steward/ejbql/Operand$Function;"), (6, .class_ 37), (1, u "java/lang/Enum"), (6, .fieldref 1 45), (0, .nameAndType 46 47), (0, u "minArguments"), (0, u "I"), (0, .fieldref 1 49), (0, .nameAndType 50 47), (0, u "maxArguments"), (57, u "takes"), (0, u "(I)Z"), (9, .class_ 120), (0, u "com/example/steward/steward/ejbql/Operand")] 18

def k6c0 : Code := { maxStack := 2, maxLocals := 2, code := prog_55_method_4_code, exceptionTable := #[], attributes := #[] }
def k6m0 : Method := { name := "takes", desc := "(I)Z", sig := { parameters := [.int], returnType := some .boolean }, accessFlags := 0, code := some k6c0 }
/-- com/example/steward/steward/ejbql/Operand$Function -/
def k6 : Class := { plain "com/example/steward/steward/ejbql/Operand$Function" (some 5) with
  accessFlags := 16433
  interfaces := #[]
  cf := some (fileOf pool6 1 #[.nestHost 119] #[{ accessFlags := 0, nameIndex := 108, descriptorIndex := 109, attributes := #[] }] 16433 35 #[] #[{ accessFlags := 16409, nameIndex := 5, descriptorIndex := 6, attributes := #[] }, { accessFlags := 16409, nameIndex := 9, descriptorIndex := 6, attributes := #[] }, { accessFlags := 16409, nameIndex := 12, descriptorIndex := 6, attributes := #[] }, { accessFlags := 16409, nameIndex := 15, descriptorIndex := 6, attributes := #[] }, { accessFlags := 16409, nameIndex := 18, descriptorIndex := 6, attributes := #[] }, { accessFlags := 16409, nameIndex := 21, descriptorIndex := 6, attributes := #[] }, { accessFlags := 16409, nameIndex := 24, descriptorIndex := 6, attributes := #[] }, { accessFlags := 18, nameIndex := 46, descriptorIndex := 47, attributes := #[] }, { accessFlags := 18, nameIndex := 50, descriptorIndex := 47, attributes := #[] }, { accessFlags := 4122, nameIndex := 27, descriptorIndex := 28, attributes := #[] }])
  fields := #[{ name := "CONCAT", type := (.object "com/example/steward/steward/ejbql/Operand$Function"), accessFlags := 16409, slot := 0, constantValue := 0 }, { name := "SUBSTRING", type := (.object "com/example/steward/steward/ejbql/Operand$Function"), accessFlags := 16409, slot := 1, constantValue := 0 }, { name := "LOCATE", type := (.object "com/example/steward/steward/ejbql/Operand$Function"), accessFlags := 16409, slot := 2, constantValue := 0 }, { name := "LENGTH", type := (.object "com/example/steward/steward/ejbql/Operand$Function"), accessFlags := 16409, slot := 3, constantValue := 0 }, { name := "ABS", type := (.object "com/example/steward/steward/ejbql/Operand$Function"), accessFlags := 16409, slot := 4, constantValue := 0 }, { name := "SQRT", type := (.object "com/example/steward/steward/ejbql/Operand$Function"), accessFlags := 16409, slot := 5, constantValue := 0 }, { name := "MOD", type := (.object "com/example/steward/steward/ejbql/Operand$Function"), accessFlags := 16409, slot := 6, constantValue := 0 }, { name := "minArguments", type := .int, accessFlags := 18, slot := 3, constantValue := 0 }, { name := "maxArguments", type := .int, accessFlags := 18, slot := 4, constantValue := 0 }, { name := "$VALUES", type := (.array (.object "com/example/steward/steward/ejbql/Operand$Function")), accessFlags := 4122, slot := 7, constantValue := 0 }]
  methods := #[k6m0]
  instanceTypes := #[(.object "java/lang/String"), .int, .int, .int, .int]
  staticTypes := #[(.object "com/example/steward/steward/ejbql/Operand$Function"), (.object "com/example/steward/steward/ejbql/Operand$Function"), (.object "com/example/steward/steward/ejbql/Operand$Function"), (.object "com/example/steward/steward/ejbql/Operand$Function"), (.object "com/example/steward/steward/ejbql/Operand$Function"), (.object "com/example/steward/steward/ejbql/Operand$Function"), (.object "com/example/steward/steward/ejbql/Operand$Function"), (.array (.object "com/example/steward/steward/ejbql/Operand$Function"))]
  resolved := Array.replicate 139 none
  statics := some 0 }

def pool7 : Array CpInfo := pool [(1, u "java/lang/Cloneable"), (0, .class_ 1), (0, u "java/lang/Object"), (0, .class_ 3)] 3

/-- java/lang/Cloneable -/
def k7 : Class := { plain "java/lang/Cloneable" (some 0) with
  accessFlags := 1537
  interfaces := #[]
  cf := some (fileOf pool7 2 #[] #[] 1537 4 #[] #[])
  fields := #[]
  methods := #[]
  instanceTypes := #[]
  staticTypes := #[]
  resolved := Array.replicate 8 none
  statics := none }

/-- the primitive byte -/
def k8 : Class := { plain "byte" none with kind := .primitive 'B', accessFlags := 0x411 }
/-- [B -/
def k9 : Class := { plain "[B" (some 0) with kind := .array 8 .byte, interfaces := #[7, 4], accessFlags := 1041 }

/-- the primitive int -/
def k10 : Class := { plain "int" none with kind := .primitive 'I', accessFlags := 0x411 }
/-- [I -/
def k11 : Class := { plain "[I" (some 0) with kind := .array 10 .int, interfaces := #[7, 4], accessFlags := 1041 }

def heap : Heap := #[{ cls := 6, slots := #[.ref 1, .ref 2, .ref 3, .ref 4, .ref 5, .ref 6, .ref 7, .null], vm := .statics 6 },
  { cls := 6, slots := #[.null, .int 0, .int 0, .int 2, .int 2], vm := .none },
  { cls := 6, slots := #[.null, .int 1, .int 0, .int 3, .int 3], vm := .none },
  { cls := 6, slots := #[.null, .int 2, .int 0, .int 2, .int 3], vm := .none },
  { cls := 6, slots := #[.null, .int 3, .int 0, .int 1, .int 1], vm := .none },
  { cls := 6, slots := #[.null, .int 4, .int 0, .int 1, .int 1], vm := .none },
  { cls := 6, slots := #[.null, .int 5, .int 0, .int 1, .int 1], vm := .none },
  { cls := 6, slots := #[.null, .int 6, .int 0, .int 2, .int 2], vm := .none }]
def classes : Array Class := #[k0, k1, k2, k3, k4, k5, k6, k7, k8, k9, k10, k11]
def interned : List (Array UInt16 × Addr) := []
def slotsUsed : Nat := 43
def theMethod : MethodId := ⟨1, 1⟩
def args0 : Array Value := #[.int 7, .int 2, .int 3]
def aboutOver (below : List Frame) : State where
  vm := { classes := classes, interned := interned.toArray }
  heap := heap
  slotsUsed := slotsUsed
  threads := #[{ frames := .invoking theMethod args0 :: below }]
def below0 : List Frame := [.native { method := ⟨0, 0⟩, args := #[] }]
def about1 : State := aboutOver below0
def p0 : Program := .bare "" "" ""
def e0 : Env := launch0.env 0 0 0
theorem w_frames : about1.frames = Frame.invoking theMethod args0 :: below0 := rfl
set_option maxRecDepth 65536 in
theorem w_args : argsFit about1.vm theMethod args0 = true := by decide +kernel
set_option maxRecDepth 65536 in
theorem w_heap : heapFits about1 = true := by decide +kernel
set_option maxRecDepth 65536 in
theorem w_runnable : about1.curStatus? = some .runnable := by decide +kernel
set_option maxRecDepth 65536 in
theorem w_alone : about1.alone = true := by decide +kernel
set_option maxRecDepth 65536 in
theorem w_named : about1.methodNamed? x = some theMethod := by decide +kernel
set_option maxRecDepth 65536 in
theorem w_hears : about1.hears theMethod below0 = true := by decide +kernel
set_option maxRecDepth 65536 in
theorem w_ripe : about1.ripe theMethod args0 below0 = true := by decide +kernel
theorem w_running : about1.status = .running := rfl
set_option maxRecDepth 65536 in
theorem w_room : about1.hasRoom e0.platform room_1 = true :=
  launch0.hasRoom_least _ room_1 (by decide +kernel) (by decide +kernel) (by decide +kernel) (by decide +kernel) (by decide +kernel) (by decide +kernel)
theorem allAtoms_all (ts : List Jvm.Cond) (a : Array Jvm.Value) (st : Jvm.State) : (allAtoms ts).before a st = ts.all (fun c => c.before a st) := by
  induction ts with
  | nil => rfl
  | cons c t ih =>
    show (Jvm.Cond.and c (allAtoms t)).before a st = _
    rw [Jvm.Cond.before_and, ih, List.all_cons]
def words1 : List Jvm.Cond := Jvm.Cond.code x code maxLocals ret :: tables_1
/-- a 'code' word, met by the world's own term for the bytes: nothing is compared byte by byte -/
theorem code_word {y : MethodName} {bytes : ByteArray} {mx : Nat} {rt : Option FieldType} {a : Array Value} {s : State} {m : MethodId} {meth : Method} {c : Code} (h1 : s.methodNamed? y = some m) (h2 : s.vm.method? m = some meth) (h3 : meth.code = some c) (h4 : c.code = bytes)
    (h5 : (c.maxLocals == mx && c.exceptionTable.isEmpty && decide (c.maxStack ≤ mostOperands) && decide (meth.sig.returnType = rt) && !meth.locks && decide (parseMethodDescriptor y.desc = some meth.sig)) = true) : (Jvm.Cond.code y bytes mx rt).before a s = true := by
  simp only [Bool.and_eq_true, beq_iff_eq, Bool.not_eq_true', decide_eq_true_eq] at h5
  obtain ⟨⟨⟨⟨⟨g1, g2⟩, g3⟩, g4⟩, g5⟩, g6⟩ := h5
  simp [Cond.before, Cond.holds, Cond.value, h1, h2, h3, h4, g1, g2, g3, g4, g5, g6]
def isCode : Jvm.Cond → Bool
  | .code _ _ _ _ => true
  | _ => false
theorem all_split {L : List Jvm.Cond} {P : Jvm.Cond → Bool} (h1 : L.all (fun c => isCode c || P c) = true) (h2 : ∀ c ∈ L.filter isCode, P c = true) : L.all P = true := by
  refine List.all_eq_true.mpr fun c hc => ?_
  have h := List.all_eq_true.mp h1 c hc
  rcases Bool.eq_false_or_eq_true (isCode c) with hi | hi
  · exact h2 c (List.mem_filter.mpr ⟨hc, hi⟩)
  · simpa [hi] using h
set_option maxRecDepth 65536 in
theorem w_c0 : (Jvm.Cond.code x code maxLocals ret).before args0 about1 = true := code_word (m := ⟨1, 1⟩) (meth := k1m1) (c := k1c1) (by decide +kernel) rfl rfl rfl (by decide +kernel)
set_option maxRecDepth 65536 in
theorem w_c1 : (Jvm.Cond.code ({ cls := "com/example/steward/steward/ejbql/FunctionTakesPinLaw", name := "check", desc := "(Lcom/example/steward/steward/ejbql/Operand$Function;III)Z" } : Jvm.MethodName) method_3_code (5 : Nat) (Option.some Jvm.ClassFile.FieldType.boolean)).before args0 about1 = true := code_word (m := ⟨1, 2⟩) (meth := k1m2) (c := k1c2) (by decide +kernel) rfl rfl rfl (by decide +kernel)
set_option maxRecDepth 65536 in
theorem w_c2 : (Jvm.Cond.code ({ cls := "com/example/steward/steward/ejbql/Operand$Function", name := "takes", desc := "(I)Z" } : Jvm.MethodName) prog_55_method_4_code (2 : Nat) (Option.some Jvm.ClassFile.FieldType.boolean)).before args0 about1 = true := code_word (m := ⟨6, 0⟩) (meth := k6m0) (c := k6c0) (by decide +kernel) rfl rfl rfl (by decide +kernel)
def codes1 : List Jvm.Cond := [Jvm.Cond.code x code maxLocals ret, Jvm.Cond.code ({ cls := "com/example/steward/steward/ejbql/FunctionTakesPinLaw", name := "check", desc := "(Lcom/example/steward/steward/ejbql/Operand$Function;III)Z" } : Jvm.MethodName) method_3_code (5 : Nat) (Option.some Jvm.ClassFile.FieldType.boolean), Jvm.Cond.code ({ cls := "com/example/steward/steward/ejbql/Operand$Function", name := "takes", desc := "(I)Z" } : Jvm.MethodName) prog_55_method_4_code (2 : Nat) (Option.some Jvm.ClassFile.FieldType.boolean)]
set_option maxRecDepth 65536 in
theorem codes_eq : words1.filter isCode = codes1 := rfl
theorem w_codes : ∀ c ∈ words1.filter isCode, c.before args0 about1 = true := by
  rw [codes_eq]
  intro c hc
  simp only [codes1, List.mem_cons, List.not_mem_nil, or_false] at hc
  rcases hc with rfl | rfl | rfl
  · exact w_c0
  · exact w_c1
  · exact w_c2
set_option maxRecDepth 65536 in
theorem w_t1 : (words1.take 24).all (fun c => isCode c || c.before args0 about1) = true := by decide +kernel
set_option maxRecDepth 65536 in
theorem w_t2 : (words1.drop 24).all (fun c => isCode c || c.before args0 about1) = true := by decide +kernel
theorem w_tables : (allAtoms (Jvm.Cond.code x code maxLocals ret :: tables_1)).before args0 about1 = true := by
  rw [allAtoms_all]
  show words1.all (fun c => c.before args0 about1) = true
  refine all_split ?_ w_codes
  rw [← List.take_append_drop 24 words1, List.all_append, w_t1, w_t2]
  rfl
set_option maxRecDepth 65536 in
theorem w_case : (Jvm.Cond.and given_1 narrow_1).before args0 about1 = true := by decide +kernel
theorem w_applies : (headSpec (Jvm.Cond.code x code maxLocals ret :: tables_1) room_1).applies x e0.platform about1 = true :=
  (Spec.applies_iff w_frames).mpr ⟨w_running, w_runnable, w_alone, w_named, w_hears, w_ripe, w_room, w_tables⟩
theorem atStart : AtStart classFile x code maxLocals ret World_1 tables_1 room_1 Calls_1 rest_1 Pre_1 launch0 p0 e0 about1 theMethod args0 below0 :=
  ⟨lists_1, trivial, launch0.admits_env _ _ _, launch0.least_env, fairChoices_fair.cas, fairChoices_fair.clock, w_frames, w_args, w_heap, w_applies, trivial, trivial, w_case⟩
end start1
theorem witness_1 : WitnessClaimed_1 := ⟨start1.p0, start1.e0, start1.about1, start1.theMethod, start1.args0, start1.below0, start1.atStart⟩
end Jvm.Pilot.@@N@@
