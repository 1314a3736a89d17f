import JvmDerived
import JvmDerived.Pilot.@@N@@Statement
import JvmDerived.Pilot.@@N@@Code
set_option linter.unusedVariables false
set_option linter.unusedSimpArgs false
namespace Jvm.RoadKit
open Sem ClassFile Op Lib Jvm.Stand Jvm.Free Jvm.LawKit
section New
variable {p : Program} {l : Launch} {e : Env} {R : Room} {s : State} {m : MethodId} {args : Array Value} {below : List Frame} {meth : Method} {c : Code} {T : State} {locs : List Loc} {cells slots : Nat}
theorem retI (X : Stand p l e R s m args below meth c T locs cells slots) (hx : p.tables.exec = Jvm.exec) {pc : Nat} {Ls : Array Slot} {z : Int32} {rest : List Value} (hret : meth.sig.returnType = some .int) (hd : decode c.code pc = .ok (.ireturn, 1)) {fs : List Frame}
    (hl : ∀ (f : JFrame) (acts : List Action), f.method = m → f.locked = none → f.entered = [] → (doReturn e (T.setTop f) acts (some (.int z))).1 = T.setFrames fs) : Steps p.tables e below (T.setTop (mkF m pc Ls (.int z :: rest))) (T.setFrames fs) := by
  have hm' : T.vm.method? m = some meth := X.method'
  have hn : narrow .int (.int z) = .int z := rfl
  show Steps p.tables e below (T.setTop { method := m, pc := pc, locals := Ls, stack := _ :: rest, locked := none }) _
  jvm_step X.here [X.here.top, hx, hd, hm', hret, hn]
  first | (intro acts; rw [hl _ acts rfl rfl rfl]) | rw [hl _ _ rfl rfl rfl]
  exact Steps.refl _
end New
end Jvm.RoadKit
namespace Jvm.Pilot.@@N@@
open Jvm Jvm.ClassFile Sem Op Lib Jvm.Free Jvm.Stand Jvm.LawKit Jvm.RoadKit Bundle Jvm.Pilot.@@N@@.Jvm.D
/-- what a body leaves that writes nothing: its value, no place of the start's, the heap as it was -/
def QP (r : Value) (h0 : Heap) (n0 : Nat) (v : Option Value) (h : Heap) (L : List Loc) : Prop := v = some r ∧ Fr n0 L ∧ h = h0
/-- the same without the heap -/
def QL (r : Value) (n0 : Nat) (v : Option Value) (h : Heap) (L : List Loc) : Prop := v = some r ∧ Fr n0 L ∧ True
theorem own_ext_refl (h : Heap) : Ext h h := ⟨Nat.le_refl _, fun _ _ q => q⟩
theorem own_ext_trans {h h' h'' : Heap} (E : Ext h h') (E' : Ext h' h'') : Ext h h'' := ⟨Nat.le_trans E.1 E'.1, fun a c q => E'.2 a c (E.2 a c q)⟩
theorem own_extK {h h' h'' : Heap} {b : Addr} (E : Ext h h') (g : b = h.size) (K : Keep h' h'' [b]) : Ext h h'' := ⟨Nat.le_trans E.1 K.1, fun x c q => K.2.1 x c (E.2 x c q) fun z => by
  have e := List.mem_singleton.mp z
  have lt := (Array.getElem?_eq_some_iff.mp q).1
  rw [e, g] at lt
  exact Nat.lt_irrefl _ lt⟩
theorem own_extW {h h' h'' : Heap} {b : Addr} {sl : Nat} {v : Value} (E : Ext h h') (g : b = h.size) (W : Wr h' h'' b sl v) : Ext h h'' := own_extK E g (Keep.of_wr W)
theorem own_fldI {s : State} {args : Array Value} {t : Term} {a : Addr} {C n d : String} {k : Int32} (ev : t.eval args s none [] s = some (.ref a)) (h : (Jvm.Cond.eq (.field t C n d) (.int k)).value args s none s [] = some true) : Fld s s.heap a C n d (.int k) :=
  Fld.start ((fld_at ev).symm.trans (eqv_i (y := k) rfl h))
theorem own_fldJ {s : State} {args : Array Value} {t : Term} {a : Addr} {C n d : String} {k : Int64} (ev : t.eval args s none [] s = some (.ref a)) (h : (Jvm.Cond.eq (.field t C n d) (.long k)).value args s none s [] = some true) : Fld s s.heap a C n d (.long k) :=
  Fld.start ((fld_at ev).symm.trans (eqv_l (y := k) rfl h))
theorem own_ne {Z : State} {h : Heap} {a b : Addr} {C n d : String} {v w : Value} (F : Fld Z h a C n d v) (G : Fld Z h b C n d w) (q : v ≠ w) : a ≠ b := fun e => by
  subst e
  obtain ⟨c1, cf1, k1, i1, f1, h1, h2, -, -, -, -, h7⟩ := F
  obtain ⟨c2, cf2, k2, i2, f2, g1, g2, -, -, -, -, g7⟩ := G
  cases h1.symm.trans g1
  cases h2.symm.trans g2
  exact q (Option.some.inj (h7.symm.trans g7))
theorem own_rem (x : Int32) : (x &&& (2147483647 : Int32)) % (13 : Int32) = (0 : Int32) ∨ (x &&& (2147483647 : Int32)) % (13 : Int32) = (1 : Int32) ∨ (x &&& (2147483647 : Int32)) % (13 : Int32) = (2 : Int32) ∨ (x &&& (2147483647 : Int32)) % (13 : Int32) = (3 : Int32) ∨ (x &&& (2147483647 : Int32)) % (13 : Int32) = (4 : Int32) ∨ (x &&& (2147483647 : Int32)) % (13 : Int32) = (5 : Int32) ∨ (x &&& (2147483647 : Int32)) % (13 : Int32) = (6 : Int32) ∨ (x &&& (2147483647 : Int32)) % (13 : Int32) = (7 : Int32) ∨ (x &&& (2147483647 : Int32)) % (13 : Int32) = (8 : Int32) ∨ (x &&& (2147483647 : Int32)) % (13 : Int32) = (9 : Int32) ∨ (x &&& (2147483647 : Int32)) % (13 : Int32) = (10 : Int32) ∨ (x &&& (2147483647 : Int32)) % (13 : Int32) = (11 : Int32) ∨ (x &&& (2147483647 : Int32)) % (13 : Int32) = (12 : Int32) := by
  have h1 := (c_and x (2147483647 : Int32) (by decide)).1
  obtain ⟨h2, h3, -⟩ := (c_iremV (x &&& (2147483647 : Int32)) (13 : Int32)).1 h1 (by decide)
  have h5 : (13 : Int32).toInt = 13 := by decide
  rw [h5] at h3
  generalize (x &&& (2147483647 : Int32)) % (13 : Int32) = k at *
  have hk : k.toInt = 0 ∨ k.toInt = 1 ∨ k.toInt = 2 ∨ k.toInt = 3 ∨ k.toInt = 4 ∨ k.toInt = 5 ∨ k.toInt = 6 ∨ k.toInt = 7 ∨ k.toInt = 8 ∨ k.toInt = 9 ∨ k.toInt = 10 ∨ k.toInt = 11 ∨ k.toInt = 12 := by omega
  rcases hk with h | h | h | h | h | h | h | h | h | h | h | h | h
  · exact Or.inl (Int32.toInt_inj.mp (h.trans (by decide : (0 : Int) = (0 : Int32).toInt)))
  · exact Or.inr (Or.inl (Int32.toInt_inj.mp (h.trans (by decide : (1 : Int) = (1 : Int32).toInt))))
  · exact Or.inr (Or.inr (Or.inl (Int32.toInt_inj.mp (h.trans (by decide : (2 : Int) = (2 : Int32).toInt)))))
  · exact Or.inr (Or.inr (Or.inr (Or.inl (Int32.toInt_inj.mp (h.trans (by decide : (3 : Int) = (3 : Int32).toInt))))))
  · exact Or.inr (Or.inr (Or.inr (Or.inr (Or.inl (Int32.toInt_inj.mp (h.trans (by decide : (4 : Int) = (4 : Int32).toInt)))))))
  · exact Or.inr (Or.inr (Or.inr (Or.inr (Or.inr (Or.inl (Int32.toInt_inj.mp (h.trans (by decide : (5 : Int) = (5 : Int32).toInt))))))))
  · exact Or.inr (Or.inr (Or.inr (Or.inr (Or.inr (Or.inr (Or.inl (Int32.toInt_inj.mp (h.trans (by decide : (6 : Int) = (6 : Int32).toInt)))))))))
  · exact Or.inr (Or.inr (Or.inr (Or.inr (Or.inr (Or.inr (Or.inr (Or.inl (Int32.toInt_inj.mp (h.trans (by decide : (7 : Int) = (7 : Int32).toInt))))))))))
  · exact Or.inr (Or.inr (Or.inr (Or.inr (Or.inr (Or.inr (Or.inr (Or.inr (Or.inl (Int32.toInt_inj.mp (h.trans (by decide : (8 : Int) = (8 : Int32).toInt)))))))))))
  · exact Or.inr (Or.inr (Or.inr (Or.inr (Or.inr (Or.inr (Or.inr (Or.inr (Or.inr (Or.inl (Int32.toInt_inj.mp (h.trans (by decide : (9 : Int) = (9 : Int32).toInt))))))))))))
  · exact Or.inr (Or.inr (Or.inr (Or.inr (Or.inr (Or.inr (Or.inr (Or.inr (Or.inr (Or.inr (Or.inl (Int32.toInt_inj.mp (h.trans (by decide : (10 : Int) = (10 : Int32).toInt)))))))))))))
  · exact Or.inr (Or.inr (Or.inr (Or.inr (Or.inr (Or.inr (Or.inr (Or.inr (Or.inr (Or.inr (Or.inr (Or.inl (Int32.toInt_inj.mp (h.trans (by decide : (11 : Int) = (11 : Int32).toInt))))))))))))))
  · exact Or.inr (Or.inr (Or.inr (Or.inr (Or.inr (Or.inr (Or.inr (Or.inr (Or.inr (Or.inr (Or.inr (Or.inr ((Int32.toInt_inj.mp (h.trans (by decide : (12 : Int) = (12 : Int32).toInt)))))))))))))))
theorem own_fldN {s : State} {args : Array Value} {t : Term} {a : Addr} {C n d : String} (ev : t.eval args s none [] s = some (.ref a)) (h : (Jvm.Cond.eq (.field t C n d) .null).value args s none s [] = some true) : Fld s s.heap a C n d .null := by
  have e := null_v h
  rw [fld_at ev] at e
  exact Fld.start e
theorem own_fldR {s : State} {args : Array Value} {t u : Term} {a w : Addr} {C n d : String} (ev : t.eval args s none [] s = some (.ref a)) (eu : u.eval args s none [] s = some (.ref w)) (h : (Jvm.Cond.eq (.field t C n d) u).value args s none s [] = some true) : Fld s s.heap a C n d (.ref w) := by
  obtain ⟨x, y, e1, e2, -, -⟩ := cmp_v (Or.inl h)
  cases Option.some.inj (e2.symm.trans eu)
  have e3 := e1
  rw [fld_at ev] at e3
  cases x <;> simp [Cond.value, e1, eu] at h
  subst h
  exact Fld.start e3
theorem d1_0 : decode prog_2_method_9_code 0 = .ok (.aload_n 0, 1) := by decide +kernel
theorem d1_1 : decode prog_2_method_9_code 1 = .ok (.getfield 81, 3) := by decide +kernel
theorem d1_4 : decode prog_2_method_9_code 4 = .ok (.ifnull 7, 3) := by decide +kernel
theorem d1_11 : decode prog_2_method_9_code 11 = .ok (.iconst 0, 1) := by decide +kernel
theorem d1_12 : decode prog_2_method_9_code 12 = .ok (.ireturn, 1) := by decide +kernel
theorem pnm_0 : plainName "com/example/aq_to_pence/aqtopence/ChargeCode" = true := by first | (simp [plainName, overriddenIn]; done) | decide +kernel
theorem ef_rm1n (m : MethodId) (ak : Addr) : entryFrame m #[(.ref ak)] 1 = mkF m 0 #[.val (.ref ak)] [] := by first | (simp [entryFrame, mkF, argsToLocals, Value.category]; done) | rfl
set_option maxRecDepth 65536 in
set_option maxHeartbeats 40000000 in
theorem rm1n (l : Launch) (Z : State) (a0 : Array Value) (hw : ∀ d ∈ tables_1, d.before a0 Z = true) (ws : List Jvm.Cond) (ak : Addr) (h0 : Heap) (n0 : Nat) (Z0 : n0 ≤ h0.size) (F_k : Fld Z h0 ak "com/example/aq_to_pence/aqtopence/ChargeCode" "sector" "Lcom/example/aq_to_pence/aqtopence/Sector;" .null) (r : Int32) (hr0 : r = (0 : Int32)) :
    MetFree l (⟨"com/example/aq_to_pence/aqtopence/ChargeCode", "bySector", "()Z"⟩ : MethodName) (head1 (Jvm.Cond.code (⟨"com/example/aq_to_pence/aqtopence/ChargeCode", "bySector", "()Z"⟩ : MethodName) prog_2_method_9_code 1 (some .boolean) :: ws) ({ frames := 0, cells := 0, slots := 0, locals := 0 } : Room)) (fun a U => a = #[(.ref ak)] ∧ Z.Warmed39 U.vm ∧ U.heap = h0) (fun _ _ _ _ _ => True) (fun _ U o U' => ∃ v L, o = .returned v ∧ QP (.int r) h0 n0 v U'.heap L ∧ FrameEnd U o U' L ({ frames := 0, cells := 0, slots := 0, locals := 0 } : Room).cells ({ frames := 0, cells := 0, slots := 0, locals := 0 } : Room).slots) := by
  rw [hr0]
  refine MetFree.of_bodySF (plainFor_of_name pnm_0) hisR ?_
  intro p e s m args below meth c s₁ Bd hml0 hP hK
  obtain ⟨rfl, hZ, hh⟩ := hP
  have hx := Bd.exec
  have hby := Bd.bytes
  have hml : c.maxLocals = 1 := hml0
  have hown : s.vm.findClass "com/example/aq_to_pence/aqtopence/ChargeCode" = some m.cls := findClass_of_methodNamed Bd.named
  have hnm := (name_of_methodNamed Bd.named Bd.method).1
  have X0 : Stand p l e ({ frames := 0, cells := 0, slots := 0, locals := 0 } : Room) s m #[(.ref ak)] below meth c s₁ [] 0 0 := Stand.of_body Bd
  have e0 : s₁.heap = h0 := by rw [← hh, Bd.state]; rfl
  have N0 := Fr.nil n0
  have pre0 : ∀ t, Steps p.tables e below (s₁.setTop (mkF m 0 #[.val (.ref ak)] [])) t → Steps p.tables e below (s₁.setTop (entryFrame m #[(.ref ak)] 1)) t := fun t k => castTop (ef_rm1n m ak) k
  obtain ⟨T1, X1, e1, st1⟩ := getF X0 hx hZ hown (host := "") (Or.inl (hw _ (List.mem_of_getElem? (i := 36) rfl))) Via.refl e0 F_k (g := (mkF m 1 #[.val (.ref ak)] [(.ref ak)])) rfl rfl (hb hby d1_1)
  obtain ⟨fs, hr, hrun, hended, hW, hsame⟩ := X1.leave (v := some (.int (0 : Int32))) (fun h => by rw [Bd.returns] at h; cases h)
  refine ⟨_, _, pre0 _ ?_, hrun, hended, _, _, rfl, ?_, ⟨_, rfl⟩, hW, hsame.mono (by decide) (by decide)⟩
  · show Steps p.tables e below (s₁.setTop (mkF m 0 #[.val (.ref ak)] [])) _
    refine XS.aloadN X0.here hx rfl (hb hby d1_0) rfl rfl ?_
    show Steps p.tables e below (s₁.setTop (mkF m 1 #[.val (.ref ak)] [(.ref ak)])) _
    refine st1 _ ?_
    show Steps p.tables e below (T1.setTop (mkF m 4 #[.val (.ref ak)] [.null])) _
    refine XS.ifnullYes X1.here hx rfl (pc0 := 4) (pc' := 11) rfl (hb hby d1_4) rfl (by decide) (by decide) ?_
    show Steps p.tables e below (T1.setTop (mkF m 11 #[.val (.ref ak)] [])) _
    refine XS.iconst X1.here hx rfl (hb hby d1_11) ?_
    show Steps p.tables e below (T1.setTop (mkF m 12 #[.val (.ref ak)] [(.int (0 : Int32))])) _
    exact retN X1 hx (t := .boolean) Bd.returns (by simp) (hb hby d1_12) hr
  · show QP (.int (0 : Int32)) h0 n0 _ T1.heap _
    rw [e1]
    exact ⟨rfl, N0, rfl⟩
theorem d1_7 : decode prog_2_method_9_code 7 = .ok (.iconst 1, 1) := by decide +kernel
theorem d1_8 : decode prog_2_method_9_code 8 = .ok (.goto 4, 3) := by decide +kernel
theorem ef_rm1r (m : MethodId) (ak : Addr) : entryFrame m #[(.ref ak)] 1 = mkF m 0 #[.val (.ref ak)] [] := by first | (simp [entryFrame, mkF, argsToLocals, Value.category]; done) | rfl
set_option maxRecDepth 65536 in
set_option maxHeartbeats 40000000 in
theorem rm1r (l : Launch) (Z : State) (a0 : Array Value) (hw : ∀ d ∈ tables_1, d.before a0 Z = true) (ws : List Jvm.Cond) (ak : Addr) (w : Addr) (h0 : Heap) (n0 : Nat) (Z0 : n0 ≤ h0.size) (F_k : Fld Z h0 ak "com/example/aq_to_pence/aqtopence/ChargeCode" "sector" "Lcom/example/aq_to_pence/aqtopence/Sector;" (.ref w)) (r : Int32) (hr0 : r = (1 : Int32)) :
    MetFree l (⟨"com/example/aq_to_pence/aqtopence/ChargeCode", "bySector", "()Z"⟩ : MethodName) (head1 (Jvm.Cond.code (⟨"com/example/aq_to_pence/aqtopence/ChargeCode", "bySector", "()Z"⟩ : MethodName) prog_2_method_9_code 1 (some .boolean) :: ws) ({ frames := 0, cells := 0, slots := 0, locals := 0 } : Room)) (fun a U => a = #[(.ref ak)] ∧ Z.Warmed39 U.vm ∧ U.heap = h0) (fun _ _ _ _ _ => True) (fun _ U o U' => ∃ v L, o = .returned v ∧ QP (.int r) h0 n0 v U'.heap L ∧ FrameEnd U o U' L ({ frames := 0, cells := 0, slots := 0, locals := 0 } : Room).cells ({ frames := 0, cells := 0, slots := 0, locals := 0 } : Room).slots) := by
  rw [hr0]
  refine MetFree.of_bodySF (plainFor_of_name pnm_0) hisR ?_
  intro p e s m args below meth c s₁ Bd hml0 hP hK
  obtain ⟨rfl, hZ, hh⟩ := hP
  have hx := Bd.exec
  have hby := Bd.bytes
  have hml : c.maxLocals = 1 := hml0
  have hown : s.vm.findClass "com/example/aq_to_pence/aqtopence/ChargeCode" = some m.cls := findClass_of_methodNamed Bd.named
  have hnm := (name_of_methodNamed Bd.named Bd.method).1
  have X0 : Stand p l e ({ frames := 0, cells := 0, slots := 0, locals := 0 } : Room) s m #[(.ref ak)] below meth c s₁ [] 0 0 := Stand.of_body Bd
  have e0 : s₁.heap = h0 := by rw [← hh, Bd.state]; rfl
  have N0 := Fr.nil n0
  have pre0 : ∀ t, Steps p.tables e below (s₁.setTop (mkF m 0 #[.val (.ref ak)] [])) t → Steps p.tables e below (s₁.setTop (entryFrame m #[(.ref ak)] 1)) t := fun t k => castTop (ef_rm1r m ak) k
  obtain ⟨T1, X1, e1, st1⟩ := getF X0 hx hZ hown (host := "") (Or.inl (hw _ (List.mem_of_getElem? (i := 36) rfl))) Via.refl e0 F_k (g := (mkF m 1 #[.val (.ref ak)] [(.ref ak)])) rfl rfl (hb hby d1_1)
  obtain ⟨fs, hr, hrun, hended, hW, hsame⟩ := X1.leave (v := some (.int (1 : Int32))) (fun h => by rw [Bd.returns] at h; cases h)
  refine ⟨_, _, pre0 _ ?_, hrun, hended, _, _, rfl, ?_, ⟨_, rfl⟩, hW, hsame.mono (by decide) (by decide)⟩
  · show Steps p.tables e below (s₁.setTop (mkF m 0 #[.val (.ref ak)] [])) _
    refine XS.aloadN X0.here hx rfl (hb hby d1_0) rfl rfl ?_
    show Steps p.tables e below (s₁.setTop (mkF m 1 #[.val (.ref ak)] [(.ref ak)])) _
    refine st1 _ ?_
    show Steps p.tables e below (T1.setTop (mkF m 4 #[.val (.ref ak)] [(.ref w)])) _
    refine XS.ifnullNo X1.here hx rfl (hb hby d1_4) rfl ?_
    show Steps p.tables e below (T1.setTop (mkF m 7 #[.val (.ref ak)] [])) _
    refine XS.iconst X1.here hx rfl (hb hby d1_7) ?_
    show Steps p.tables e below (T1.setTop (mkF m 8 #[.val (.ref ak)] [(.int (1 : Int32))])) _
    refine XS.goto X1.here hx rfl (pc0 := 8) (pc' := 12) rfl (hb hby d1_8) (by decide) (by decide) ?_
    show Steps p.tables e below (T1.setTop (mkF m 12 #[.val (.ref ak)] [(.int (1 : Int32))])) _
    exact retN X1 hx (t := .boolean) Bd.returns (by simp) (hb hby d1_12) hr
  · show QP (.int (1 : Int32)) h0 n0 _ T1.heap _
    rw [e1]
    exact ⟨rfl, N0, rfl⟩
set_option maxRecDepth 65536 in
set_option maxHeartbeats 40000000 in
theorem rm1 (l : Launch) (Z : State) (a0 : Array Value) (hw : ∀ d ∈ tables_1, d.before a0 Z = true) (ws : List Jvm.Cond) (ak : Addr) (sv : Value) (h0 : Heap) (n0 : Nat) (Z0 : n0 ≤ h0.size) (F_k : Fld Z h0 ak "com/example/aq_to_pence/aqtopence/ChargeCode" "sector" "Lcom/example/aq_to_pence/aqtopence/Sector;" sv) (z : Int32) (hz : (sv = .null ∧ z = (0 : Int32)) ∨ (∃ w : Addr, sv = .ref w ∧ z = (1 : Int32))) :
    MetFree l (⟨"com/example/aq_to_pence/aqtopence/ChargeCode", "bySector", "()Z"⟩ : MethodName) (head1 (Jvm.Cond.code (⟨"com/example/aq_to_pence/aqtopence/ChargeCode", "bySector", "()Z"⟩ : MethodName) prog_2_method_9_code 1 (some .boolean) :: ws) ({ frames := 0, cells := 0, slots := 0, locals := 0 } : Room)) (fun a U => a = #[(.ref ak)] ∧ Z.Warmed39 U.vm ∧ U.heap = h0) (fun _ _ _ _ _ => True) (fun _ U o U' => ∃ v L, o = .returned v ∧ QP (.int z) h0 n0 v U'.heap L ∧ FrameEnd U o U' L ({ frames := 0, cells := 0, slots := 0, locals := 0 } : Room).cells ({ frames := 0, cells := 0, slots := 0, locals := 0 } : Room).slots) := by
  rcases hz with ⟨rfl, rfl⟩ | ⟨w, rfl, rfl⟩
  · exact rm1n l Z a0 hw ws ak h0 n0 Z0 F_k _ rfl
  · exact rm1r l Z a0 hw ws ak w h0 n0 Z0 F_k _ rfl
theorem pdm_0 : parseMethodDescriptor "()Z" = some ⟨[], some .boolean⟩ := by decide +kernel
theorem pnm_1 : plainName "com/example/aq_to_pence/aqtopence/ChargeCodeBySectorPinLaw" = true := by first | (simp [plainName, overriddenIn]; done) | decide +kernel
theorem ef_rm0 (m : MethodId) (p1 : Int32) : entryFrame m #[(.int p1)] maxLocals = mkF m 0 #[.val (.int p1), .unset, .unset, .unset, .unset] [] := by first | (simp [entryFrame, mkF, argsToLocals, Value.category, maxLocals]; done) | rfl
set_option maxRecDepth 65536 in
set_option maxHeartbeats 40000000 in
theorem rm0_t (l : Launch) (Z : State) (a0 : Array Value) (hw : ∀ d ∈ tables_1, d.before a0 Z = true) (ws : List Jvm.Cond) (p1 : Int32) (w_ZCA : Addr) (w_ZCO : Addr) (w_OPTIONAL_LDZ_TARIFF : Addr) (w_CCA : Addr) (w_CFI : Addr) (w_CSEP_LDZ_CAPACITY : Addr) (w_CSEP_LDZ_COMMODITY : Addr) (w_CSEP_ADMINISTRATION : Addr) (w_DAILY_METERED_CSEP_ADMINISTRATION : Addr) (w_ECN : Addr) (w_C04 : Addr) (w_LRD : Addr) (w_LRI : Addr) (f : Addr) (sv : Value) (z : Int32) (h0 : Heap) (n0 : Nat) (Z0 : n0 ≤ h0.size) (S_ZCA : Sta Z h0 "com/example/aq_to_pence/aqtopence/ChargeCode" "ZCA" "Lcom/example/aq_to_pence/aqtopence/ChargeCode;" (.ref w_ZCA)) (S_ZCO : Sta Z h0 "com/example/aq_to_pence/aqtopence/ChargeCode" "ZCO" "Lcom/example/aq_to_pence/aqtopence/ChargeCode;" (.ref w_ZCO)) (S_OPTIONAL_LDZ_TARIFF : Sta Z h0 "com/example/aq_to_pence/aqtopence/ChargeCode" "OPTIONAL_LDZ_TARIFF" "Lcom/example/aq_to_pence/aqtopence/ChargeCode;" (.ref w_OPTIONAL_LDZ_TARIFF)) (S_CCA : Sta Z h0 "com/example/aq_to_pence/aqtopence/ChargeCode" "CCA" "Lcom/example/aq_to_pence/aqtopence/ChargeCode;" (.ref w_CCA)) (S_CFI : Sta Z h0 "com/example/aq_to_pence/aqtopence/ChargeCode" "CFI" "Lcom/example/aq_to_pence/aqtopence/ChargeCode;" (.ref w_CFI)) (S_CSEP_LDZ_CAPACITY : Sta Z h0 "com/example/aq_to_pence/aqtopence/ChargeCode" "CSEP_LDZ_CAPACITY" "Lcom/example/aq_to_pence/aqtopence/ChargeCode;" (.ref w_CSEP_LDZ_CAPACITY)) (S_CSEP_LDZ_COMMODITY : Sta Z h0 "com/example/aq_to_pence/aqtopence/ChargeCode" "CSEP_LDZ_COMMODITY" "Lcom/example/aq_to_pence/aqtopence/ChargeCode;" (.ref w_CSEP_LDZ_COMMODITY)) (S_CSEP_ADMINISTRATION : Sta Z h0 "com/example/aq_to_pence/aqtopence/ChargeCode" "CSEP_ADMINISTRATION" "Lcom/example/aq_to_pence/aqtopence/ChargeCode;" (.ref w_CSEP_ADMINISTRATION)) (S_DAILY_METERED_CSEP_ADMINISTRATION : Sta Z h0 "com/example/aq_to_pence/aqtopence/ChargeCode" "DAILY_METERED_CSEP_ADMINISTRATION" "Lcom/example/aq_to_pence/aqtopence/ChargeCode;" (.ref w_DAILY_METERED_CSEP_ADMINISTRATION)) (S_ECN : Sta Z h0 "com/example/aq_to_pence/aqtopence/ChargeCode" "ECN" "Lcom/example/aq_to_pence/aqtopence/ChargeCode;" (.ref w_ECN)) (S_C04 : Sta Z h0 "com/example/aq_to_pence/aqtopence/ChargeCode" "C04" "Lcom/example/aq_to_pence/aqtopence/ChargeCode;" (.ref w_C04)) (S_LRD : Sta Z h0 "com/example/aq_to_pence/aqtopence/ChargeCode" "LRD" "Lcom/example/aq_to_pence/aqtopence/ChargeCode;" (.ref w_LRD)) (S_LRI : Sta Z h0 "com/example/aq_to_pence/aqtopence/ChargeCode" "LRI" "Lcom/example/aq_to_pence/aqtopence/ChargeCode;" (.ref w_LRI)) (E_ZCA : Exa Z h0 w_ZCA "com/example/aq_to_pence/aqtopence/ChargeCode") (E_ZCO : Exa Z h0 w_ZCO "com/example/aq_to_pence/aqtopence/ChargeCode") (E_OPTIONAL_LDZ_TARIFF : Exa Z h0 w_OPTIONAL_LDZ_TARIFF "com/example/aq_to_pence/aqtopence/ChargeCode") (E_CCA : Exa Z h0 w_CCA "com/example/aq_to_pence/aqtopence/ChargeCode") (E_CFI : Exa Z h0 w_CFI "com/example/aq_to_pence/aqtopence/ChargeCode") (E_CSEP_LDZ_CAPACITY : Exa Z h0 w_CSEP_LDZ_CAPACITY "com/example/aq_to_pence/aqtopence/ChargeCode") (E_CSEP_LDZ_COMMODITY : Exa Z h0 w_CSEP_LDZ_COMMODITY "com/example/aq_to_pence/aqtopence/ChargeCode") (E_CSEP_ADMINISTRATION : Exa Z h0 w_CSEP_ADMINISTRATION "com/example/aq_to_pence/aqtopence/ChargeCode") (E_DAILY_METERED_CSEP_ADMINISTRATION : Exa Z h0 w_DAILY_METERED_CSEP_ADMINISTRATION "com/example/aq_to_pence/aqtopence/ChargeCode") (E_ECN : Exa Z h0 w_ECN "com/example/aq_to_pence/aqtopence/ChargeCode") (E_C04 : Exa Z h0 w_C04 "com/example/aq_to_pence/aqtopence/ChargeCode") (E_LRD : Exa Z h0 w_LRD "com/example/aq_to_pence/aqtopence/ChargeCode") (E_LRI : Exa Z h0 w_LRI "com/example/aq_to_pence/aqtopence/ChargeCode") (E_f : Exa Z h0 f "com/example/aq_to_pence/aqtopence/ChargeCode") (F_f : Fld Z h0 f "com/example/aq_to_pence/aqtopence/ChargeCode" "sector" "Lcom/example/aq_to_pence/aqtopence/Sector;" sv) (hz : (sv = .null ∧ z = (0 : Int32)) ∨ (∃ w : Addr, sv = .ref w ∧ z = (1 : Int32))) (hj0 : ¬ ((p1 &&& (2147483647 : Int32)) % (13 : Int32)) < 0) (hj1 : ((p1 &&& (2147483647 : Int32)) % (13 : Int32)) < (13 : Int32)) (hf : ([(.ref w_ZCA), (.ref w_ZCO), (.ref w_OPTIONAL_LDZ_TARIFF), (.ref w_CCA), (.ref w_CFI), (.ref w_CSEP_LDZ_CAPACITY), (.ref w_CSEP_LDZ_COMMODITY), (.ref w_CSEP_ADMINISTRATION), (.ref w_DAILY_METERED_CSEP_ADMINISTRATION), (.ref w_ECN), (.ref w_C04), (.ref w_LRD), (.ref w_LRI)] : List Value).getD (((p1 &&& (2147483647 : Int32)) % (13 : Int32))).toNatClampNeg .null = .ref f) (hz1 : f = w_LRD → z = (1 : Int32)) (hz2 : f = w_LRI → z = (1 : Int32)) (hz3 : ¬ f = w_LRD → ¬ f = w_LRI → z = (0 : Int32)) (hc107 : f = w_LRD) :
    MetFree l x (head1 (Jvm.Cond.code x code maxLocals ret :: ws) room_1) (fun a U => a = #[(.int p1)] ∧ Z.Warmed39 U.vm ∧ U.heap = h0) (fun _ _ _ _ _ => True) (fun _ U o U' => ∃ v L, o = .returned v ∧ QL (.int (1 : Int32)) n0 v U'.heap L ∧ FrameEnd U o U' L room_1.cells room_1.slots) := by
  refine MetFree.of_bodySF (plainFor_of_name pnm_1) hisR ?_
  intro p e s m args below meth c s₁ Bd hml0 hP hK
  obtain ⟨rfl, hZ, hh⟩ := hP
  have hx := Bd.exec
  have hby := Bd.bytes
  have hml : c.maxLocals = 5 := hml0
  have hown : s.vm.findClass "com/example/aq_to_pence/aqtopence/ChargeCodeBySectorPinLaw" = some m.cls := findClass_of_methodNamed Bd.named
  have hnm := (name_of_methodNamed Bd.named Bd.method).1
  have X0 : Stand p l e room_1 s m #[(.int p1)] below meth c s₁ [] 0 0 := Stand.of_body Bd
  have e0 : s₁.heap = h0 := by rw [← hh, Bd.state]; rfl
  have N0 := Fr.nil n0
  have pre0 : ∀ t, Steps p.tables e below (s₁.setTop (mkF m 0 #[.val (.int p1), .unset, .unset, .unset, .unset] [])) t → Steps p.tables e below (s₁.setTop (entryFrame m #[(.int p1)] maxLocals)) t := fun t k => castTop (ef_rm0 m p1) k
  obtain ⟨T1, h1, k1, X1, e1, E1, A1, O1, st1⟩ := newR X0 hx hZ hown (hw _ (List.mem_of_getElem? (i := 0) rfl)) (hw _ (List.mem_of_getElem? (i := 1) rfl)) e0 (g := (mkF m 2 #[.val (.int p1), .unset, .unset, .unset, .unset] [(.int (13 : Int32))])) rfl (hb hby at_2) rfl (by decide) (cap := 13) (by decide) (by decide) (by decide) (by decide)
  obtain ⟨b1, g1⟩ : ∃ z, z = h0.size := ⟨_, rfl⟩
  rw [← g1] at A1 st1
  have gb1 : n0 ≤ b1 := Nat.le_trans Z0 (Nat.le_of_eq g1.symm)
  have V_b1 : Arv Z h1 b1 k1 (.object "com/example/aq_to_pence/aqtopence/ChargeCode") (13 : Int32) [.null, .null, .null, .null, .null, .null, .null, .null, .null, .null, .null, .null, .null] .null := (Arv.new A1 (by decide)).pad (pad_rep [] .null 13)
  obtain ⟨T2, X2, e2, st2⟩ := getS2 X1 hx hZ hown (host := "") (Or.inl (hw _ (List.mem_of_getElem? (i := 2) rfl))) Via.refl e1 (S_ZCA.ext E1) (g := (mkF m 7 #[.val (.int p1), .unset, .unset, .unset, .unset] [(.int (0 : Int32)), (.ref b1), (.ref b1)])) rfl (hb hby at_7)
  obtain ⟨cl_b1_10, Ar_b1_10, q_b1_10, S_b1_10, N_b1_10, H_b1_10, G_b1_10⟩ := V_b1
  have hin10 : ¬ ((0 : Int32) < 0 ∨ cl_b1_10.slots.size ≤ ((0 : Int32)).toNatClampNeg) := inb_of S_b1_10 ⟨by decide, by decide⟩
  obtain ⟨T3, h3, X3, e3, W3, st3⟩ := stR X2 hx hZ e2 Ar_b1_10 (j := (0 : Int32)) hin10 rfl (Sto.ofV Ar_b1_10 q_b1_10 O1 (Ins.self (E_ZCA.ext E1))) (g := (mkF m 10 #[.val (.int p1), .unset, .unset, .unset, .unset] [(.ref w_ZCA), (.int (0 : Int32)), (.ref b1), (.ref b1)])) rfl rfl (hb hby at_10)
  have V_b1_3 : Arv Z h3 b1 k1 (.object "com/example/aq_to_pence/aqtopence/ChargeCode") (13 : Int32) [(.ref w_ZCA), .null, .null, .null, .null, .null, .null, .null, .null, .null, .null, .null, .null] .null := Arv.set Ar_b1_10 q_b1_10 S_b1_10 N_b1_10 H_b1_10 G_b1_10 rfl W3 0 rfl (Nat.le_of_ble_eq_true rfl)
  have Ec3 := own_extW E1 g1 W3
  have N3 := Fr.snoc X3 N0 gb1
  obtain ⟨T4, X4, e4, st4⟩ := getS2 X3 hx hZ hown (host := "") (Or.inl (hw _ (List.mem_of_getElem? (i := 6) rfl))) Via.refl e3 (S_ZCO.ext Ec3) (g := (mkF m 13 #[.val (.int p1), .unset, .unset, .unset, .unset] [(.int (1 : Int32)), (.ref b1), (.ref b1)])) rfl (hb hby at_13)
  obtain ⟨cl_b1_16, Ar_b1_16, q_b1_16, S_b1_16, N_b1_16, H_b1_16, G_b1_16⟩ := V_b1_3
  have hin16 : ¬ ((1 : Int32) < 0 ∨ cl_b1_16.slots.size ≤ ((1 : Int32)).toNatClampNeg) := inb_of S_b1_16 ⟨by decide, by decide⟩
  obtain ⟨T5, h5, X5, e5, W5, st5⟩ := stR X4 hx hZ e4 Ar_b1_16 (j := (1 : Int32)) hin16 rfl (Sto.ofV Ar_b1_16 q_b1_16 O1 (Ins.self (E_ZCO.ext Ec3))) (g := (mkF m 16 #[.val (.int p1), .unset, .unset, .unset, .unset] [(.ref w_ZCO), (.int (1 : Int32)), (.ref b1), (.ref b1)])) rfl rfl (hb hby at_16)
  have V_b1_5 : Arv Z h5 b1 k1 (.object "com/example/aq_to_pence/aqtopence/ChargeCode") (13 : Int32) [(.ref w_ZCA), (.ref w_ZCO), .null, .null, .null, .null, .null, .null, .null, .null, .null, .null, .null] .null := Arv.set Ar_b1_16 q_b1_16 S_b1_16 N_b1_16 H_b1_16 G_b1_16 rfl W5 1 rfl (Nat.le_of_ble_eq_true rfl)
  have Ec5 := own_extW Ec3 g1 W5
  have N5 := Fr.snoc X5 N3 gb1
  obtain ⟨T6, X6, e6, st6⟩ := getS2 X5 hx hZ hown (host := "") (Or.inl (hw _ (List.mem_of_getElem? (i := 8) rfl))) Via.refl e5 (S_OPTIONAL_LDZ_TARIFF.ext Ec5) (g := (mkF m 19 #[.val (.int p1), .unset, .unset, .unset, .unset] [(.int (2 : Int32)), (.ref b1), (.ref b1)])) rfl (hb hby at_19)
  obtain ⟨cl_b1_22, Ar_b1_22, q_b1_22, S_b1_22, N_b1_22, H_b1_22, G_b1_22⟩ := V_b1_5
  have hin22 : ¬ ((2 : Int32) < 0 ∨ cl_b1_22.slots.size ≤ ((2 : Int32)).toNatClampNeg) := inb_of S_b1_22 ⟨by decide, by decide⟩
  obtain ⟨T7, h7, X7, e7, W7, st7⟩ := stR X6 hx hZ e6 Ar_b1_22 (j := (2 : Int32)) hin22 rfl (Sto.ofV Ar_b1_22 q_b1_22 O1 (Ins.self (E_OPTIONAL_LDZ_TARIFF.ext Ec5))) (g := (mkF m 22 #[.val (.int p1), .unset, .unset, .unset, .unset] [(.ref w_OPTIONAL_LDZ_TARIFF), (.int (2 : Int32)), (.ref b1), (.ref b1)])) rfl rfl (hb hby at_22)
  have V_b1_7 : Arv Z h7 b1 k1 (.object "com/example/aq_to_pence/aqtopence/ChargeCode") (13 : Int32) [(.ref w_ZCA), (.ref w_ZCO), (.ref w_OPTIONAL_LDZ_TARIFF), .null, .null, .null, .null, .null, .null, .null, .null, .null, .null] .null := Arv.set Ar_b1_22 q_b1_22 S_b1_22 N_b1_22 H_b1_22 G_b1_22 rfl W7 2 rfl (Nat.le_of_ble_eq_true rfl)
  have Ec7 := own_extW Ec5 g1 W7
  have N7 := Fr.snoc X7 N5 gb1
  obtain ⟨T8, X8, e8, st8⟩ := getS2 X7 hx hZ hown (host := "") (Or.inl (hw _ (List.mem_of_getElem? (i := 10) rfl))) Via.refl e7 (S_CCA.ext Ec7) (g := (mkF m 25 #[.val (.int p1), .unset, .unset, .unset, .unset] [(.int (3 : Int32)), (.ref b1), (.ref b1)])) rfl (hb hby at_25)
  obtain ⟨cl_b1_28, Ar_b1_28, q_b1_28, S_b1_28, N_b1_28, H_b1_28, G_b1_28⟩ := V_b1_7
  have hin28 : ¬ ((3 : Int32) < 0 ∨ cl_b1_28.slots.size ≤ ((3 : Int32)).toNatClampNeg) := inb_of S_b1_28 ⟨by decide, by decide⟩
  obtain ⟨T9, h9, X9, e9, W9, st9⟩ := stR X8 hx hZ e8 Ar_b1_28 (j := (3 : Int32)) hin28 rfl (Sto.ofV Ar_b1_28 q_b1_28 O1 (Ins.self (E_CCA.ext Ec7))) (g := (mkF m 28 #[.val (.int p1), .unset, .unset, .unset, .unset] [(.ref w_CCA), (.int (3 : Int32)), (.ref b1), (.ref b1)])) rfl rfl (hb hby at_28)
  have V_b1_9 : Arv Z h9 b1 k1 (.object "com/example/aq_to_pence/aqtopence/ChargeCode") (13 : Int32) [(.ref w_ZCA), (.ref w_ZCO), (.ref w_OPTIONAL_LDZ_TARIFF), (.ref w_CCA), .null, .null, .null, .null, .null, .null, .null, .null, .null] .null := Arv.set Ar_b1_28 q_b1_28 S_b1_28 N_b1_28 H_b1_28 G_b1_28 rfl W9 3 rfl (Nat.le_of_ble_eq_true rfl)
  have Ec9 := own_extW Ec7 g1 W9
  have N9 := Fr.snoc X9 N7 gb1
  obtain ⟨T10, X10, e10, st10⟩ := getS2 X9 hx hZ hown (host := "") (Or.inl (hw _ (List.mem_of_getElem? (i := 12) rfl))) Via.refl e9 (S_CFI.ext Ec9) (g := (mkF m 31 #[.val (.int p1), .unset, .unset, .unset, .unset] [(.int (4 : Int32)), (.ref b1), (.ref b1)])) rfl (hb hby at_31)
  obtain ⟨cl_b1_34, Ar_b1_34, q_b1_34, S_b1_34, N_b1_34, H_b1_34, G_b1_34⟩ := V_b1_9
  have hin34 : ¬ ((4 : Int32) < 0 ∨ cl_b1_34.slots.size ≤ ((4 : Int32)).toNatClampNeg) := inb_of S_b1_34 ⟨by decide, by decide⟩
  obtain ⟨T11, h11, X11, e11, W11, st11⟩ := stR X10 hx hZ e10 Ar_b1_34 (j := (4 : Int32)) hin34 rfl (Sto.ofV Ar_b1_34 q_b1_34 O1 (Ins.self (E_CFI.ext Ec9))) (g := (mkF m 34 #[.val (.int p1), .unset, .unset, .unset, .unset] [(.ref w_CFI), (.int (4 : Int32)), (.ref b1), (.ref b1)])) rfl rfl (hb hby at_34)
  have V_b1_11 : Arv Z h11 b1 k1 (.object "com/example/aq_to_pence/aqtopence/ChargeCode") (13 : Int32) [(.ref w_ZCA), (.ref w_ZCO), (.ref w_OPTIONAL_LDZ_TARIFF), (.ref w_CCA), (.ref w_CFI), .null, .null, .null, .null, .null, .null, .null, .null] .null := Arv.set Ar_b1_34 q_b1_34 S_b1_34 N_b1_34 H_b1_34 G_b1_34 rfl W11 4 rfl (Nat.le_of_ble_eq_true rfl)
  have Ec11 := own_extW Ec9 g1 W11
  have N11 := Fr.snoc X11 N9 gb1
  obtain ⟨T12, X12, e12, st12⟩ := getS2 X11 hx hZ hown (host := "") (Or.inl (hw _ (List.mem_of_getElem? (i := 14) rfl))) Via.refl e11 (S_CSEP_LDZ_CAPACITY.ext Ec11) (g := (mkF m 37 #[.val (.int p1), .unset, .unset, .unset, .unset] [(.int (5 : Int32)), (.ref b1), (.ref b1)])) rfl (hb hby at_37)
  obtain ⟨cl_b1_40, Ar_b1_40, q_b1_40, S_b1_40, N_b1_40, H_b1_40, G_b1_40⟩ := V_b1_11
  have hin40 : ¬ ((5 : Int32) < 0 ∨ cl_b1_40.slots.size ≤ ((5 : Int32)).toNatClampNeg) := inb_of S_b1_40 ⟨by decide, by decide⟩
  obtain ⟨T13, h13, X13, e13, W13, st13⟩ := stR X12 hx hZ e12 Ar_b1_40 (j := (5 : Int32)) hin40 rfl (Sto.ofV Ar_b1_40 q_b1_40 O1 (Ins.self (E_CSEP_LDZ_CAPACITY.ext Ec11))) (g := (mkF m 40 #[.val (.int p1), .unset, .unset, .unset, .unset] [(.ref w_CSEP_LDZ_CAPACITY), (.int (5 : Int32)), (.ref b1), (.ref b1)])) rfl rfl (hb hby at_40)
  have V_b1_13 : Arv Z h13 b1 k1 (.object "com/example/aq_to_pence/aqtopence/ChargeCode") (13 : Int32) [(.ref w_ZCA), (.ref w_ZCO), (.ref w_OPTIONAL_LDZ_TARIFF), (.ref w_CCA), (.ref w_CFI), (.ref w_CSEP_LDZ_CAPACITY), .null, .null, .null, .null, .null, .null, .null] .null := Arv.set Ar_b1_40 q_b1_40 S_b1_40 N_b1_40 H_b1_40 G_b1_40 rfl W13 5 rfl (Nat.le_of_ble_eq_true rfl)
  have Ec13 := own_extW Ec11 g1 W13
  have N13 := Fr.snoc X13 N11 gb1
  obtain ⟨T14, X14, e14, st14⟩ := getS2 X13 hx hZ hown (host := "") (Or.inl (hw _ (List.mem_of_getElem? (i := 16) rfl))) Via.refl e13 (S_CSEP_LDZ_COMMODITY.ext Ec13) (g := (mkF m 44 #[.val (.int p1), .unset, .unset, .unset, .unset] [(.int (6 : Int32)), (.ref b1), (.ref b1)])) rfl (hb hby at_44)
  obtain ⟨cl_b1_47, Ar_b1_47, q_b1_47, S_b1_47, N_b1_47, H_b1_47, G_b1_47⟩ := V_b1_13
  have hin47 : ¬ ((6 : Int32) < 0 ∨ cl_b1_47.slots.size ≤ ((6 : Int32)).toNatClampNeg) := inb_of S_b1_47 ⟨by decide, by decide⟩
  obtain ⟨T15, h15, X15, e15, W15, st15⟩ := stR X14 hx hZ e14 Ar_b1_47 (j := (6 : Int32)) hin47 rfl (Sto.ofV Ar_b1_47 q_b1_47 O1 (Ins.self (E_CSEP_LDZ_COMMODITY.ext Ec13))) (g := (mkF m 47 #[.val (.int p1), .unset, .unset, .unset, .unset] [(.ref w_CSEP_LDZ_COMMODITY), (.int (6 : Int32)), (.ref b1), (.ref b1)])) rfl rfl (hb hby at_47)
  have V_b1_15 : Arv Z h15 b1 k1 (.object "com/example/aq_to_pence/aqtopence/ChargeCode") (13 : Int32) [(.ref w_ZCA), (.ref w_ZCO), (.ref w_OPTIONAL_LDZ_TARIFF), (.ref w_CCA), (.ref w_CFI), (.ref w_CSEP_LDZ_CAPACITY), (.ref w_CSEP_LDZ_COMMODITY), .null, .null, .null, .null, .null, .null] .null := Arv.set Ar_b1_47 q_b1_47 S_b1_47 N_b1_47 H_b1_47 G_b1_47 rfl W15 6 rfl (Nat.le_of_ble_eq_true rfl)
  have Ec15 := own_extW Ec13 g1 W15
  have N15 := Fr.snoc X15 N13 gb1
  obtain ⟨T16, X16, e16, st16⟩ := getS2 X15 hx hZ hown (host := "") (Or.inl (hw _ (List.mem_of_getElem? (i := 18) rfl))) Via.refl e15 (S_CSEP_ADMINISTRATION.ext Ec15) (g := (mkF m 51 #[.val (.int p1), .unset, .unset, .unset, .unset] [(.int (7 : Int32)), (.ref b1), (.ref b1)])) rfl (hb hby at_51)
  obtain ⟨cl_b1_54, Ar_b1_54, q_b1_54, S_b1_54, N_b1_54, H_b1_54, G_b1_54⟩ := V_b1_15
  have hin54 : ¬ ((7 : Int32) < 0 ∨ cl_b1_54.slots.size ≤ ((7 : Int32)).toNatClampNeg) := inb_of S_b1_54 ⟨by decide, by decide⟩
  obtain ⟨T17, h17, X17, e17, W17, st17⟩ := stR X16 hx hZ e16 Ar_b1_54 (j := (7 : Int32)) hin54 rfl (Sto.ofV Ar_b1_54 q_b1_54 O1 (Ins.self (E_CSEP_ADMINISTRATION.ext Ec15))) (g := (mkF m 54 #[.val (.int p1), .unset, .unset, .unset, .unset] [(.ref w_CSEP_ADMINISTRATION), (.int (7 : Int32)), (.ref b1), (.ref b1)])) rfl rfl (hb hby at_54)
  have V_b1_17 : Arv Z h17 b1 k1 (.object "com/example/aq_to_pence/aqtopence/ChargeCode") (13 : Int32) [(.ref w_ZCA), (.ref w_ZCO), (.ref w_OPTIONAL_LDZ_TARIFF), (.ref w_CCA), (.ref w_CFI), (.ref w_CSEP_LDZ_CAPACITY), (.ref w_CSEP_LDZ_COMMODITY), (.ref w_CSEP_ADMINISTRATION), .null, .null, .null, .null, .null] .null := Arv.set Ar_b1_54 q_b1_54 S_b1_54 N_b1_54 H_b1_54 G_b1_54 rfl W17 7 rfl (Nat.le_of_ble_eq_true rfl)
  have Ec17 := own_extW Ec15 g1 W17
  have N17 := Fr.snoc X17 N15 gb1
  obtain ⟨T18, X18, e18, st18⟩ := getS2 X17 hx hZ hown (host := "") (Or.inl (hw _ (List.mem_of_getElem? (i := 20) rfl))) Via.refl e17 (S_DAILY_METERED_CSEP_ADMINISTRATION.ext Ec17) (g := (mkF m 58 #[.val (.int p1), .unset, .unset, .unset, .unset] [(.int (8 : Int32)), (.ref b1), (.ref b1)])) rfl (hb hby at_58)
  obtain ⟨cl_b1_61, Ar_b1_61, q_b1_61, S_b1_61, N_b1_61, H_b1_61, G_b1_61⟩ := V_b1_17
  have hin61 : ¬ ((8 : Int32) < 0 ∨ cl_b1_61.slots.size ≤ ((8 : Int32)).toNatClampNeg) := inb_of S_b1_61 ⟨by decide, by decide⟩
  obtain ⟨T19, h19, X19, e19, W19, st19⟩ := stR X18 hx hZ e18 Ar_b1_61 (j := (8 : Int32)) hin61 rfl (Sto.ofV Ar_b1_61 q_b1_61 O1 (Ins.self (E_DAILY_METERED_CSEP_ADMINISTRATION.ext Ec17))) (g := (mkF m 61 #[.val (.int p1), .unset, .unset, .unset, .unset] [(.ref w_DAILY_METERED_CSEP_ADMINISTRATION), (.int (8 : Int32)), (.ref b1), (.ref b1)])) rfl rfl (hb hby at_61)
  have V_b1_19 : Arv Z h19 b1 k1 (.object "com/example/aq_to_pence/aqtopence/ChargeCode") (13 : Int32) [(.ref w_ZCA), (.ref w_ZCO), (.ref w_OPTIONAL_LDZ_TARIFF), (.ref w_CCA), (.ref w_CFI), (.ref w_CSEP_LDZ_CAPACITY), (.ref w_CSEP_LDZ_COMMODITY), (.ref w_CSEP_ADMINISTRATION), (.ref w_DAILY_METERED_CSEP_ADMINISTRATION), .null, .null, .null, .null] .null := Arv.set Ar_b1_61 q_b1_61 S_b1_61 N_b1_61 H_b1_61 G_b1_61 rfl W19 8 rfl (Nat.le_of_ble_eq_true rfl)
  have Ec19 := own_extW Ec17 g1 W19
  have N19 := Fr.snoc X19 N17 gb1
  obtain ⟨T20, X20, e20, st20⟩ := getS2 X19 hx hZ hown (host := "") (Or.inl (hw _ (List.mem_of_getElem? (i := 22) rfl))) Via.refl e19 (S_ECN.ext Ec19) (g := (mkF m 65 #[.val (.int p1), .unset, .unset, .unset, .unset] [(.int (9 : Int32)), (.ref b1), (.ref b1)])) rfl (hb hby at_65)
  obtain ⟨cl_b1_68, Ar_b1_68, q_b1_68, S_b1_68, N_b1_68, H_b1_68, G_b1_68⟩ := V_b1_19
  have hin68 : ¬ ((9 : Int32) < 0 ∨ cl_b1_68.slots.size ≤ ((9 : Int32)).toNatClampNeg) := inb_of S_b1_68 ⟨by decide, by decide⟩
  obtain ⟨T21, h21, X21, e21, W21, st21⟩ := stR X20 hx hZ e20 Ar_b1_68 (j := (9 : Int32)) hin68 rfl (Sto.ofV Ar_b1_68 q_b1_68 O1 (Ins.self (E_ECN.ext Ec19))) (g := (mkF m 68 #[.val (.int p1), .unset, .unset, .unset, .unset] [(.ref w_ECN), (.int (9 : Int32)), (.ref b1), (.ref b1)])) rfl rfl (hb hby at_68)
  have V_b1_21 : Arv Z h21 b1 k1 (.object "com/example/aq_to_pence/aqtopence/ChargeCode") (13 : Int32) [(.ref w_ZCA), (.ref w_ZCO), (.ref w_OPTIONAL_LDZ_TARIFF), (.ref w_CCA), (.ref w_CFI), (.ref w_CSEP_LDZ_CAPACITY), (.ref w_CSEP_LDZ_COMMODITY), (.ref w_CSEP_ADMINISTRATION), (.ref w_DAILY_METERED_CSEP_ADMINISTRATION), (.ref w_ECN), .null, .null, .null] .null := Arv.set Ar_b1_68 q_b1_68 S_b1_68 N_b1_68 H_b1_68 G_b1_68 rfl W21 9 rfl (Nat.le_of_ble_eq_true rfl)
  have Ec21 := own_extW Ec19 g1 W21
  have N21 := Fr.snoc X21 N19 gb1
  obtain ⟨T22, X22, e22, st22⟩ := getS2 X21 hx hZ hown (host := "") (Or.inl (hw _ (List.mem_of_getElem? (i := 24) rfl))) Via.refl e21 (S_C04.ext Ec21) (g := (mkF m 72 #[.val (.int p1), .unset, .unset, .unset, .unset] [(.int (10 : Int32)), (.ref b1), (.ref b1)])) rfl (hb hby at_72)
  obtain ⟨cl_b1_75, Ar_b1_75, q_b1_75, S_b1_75, N_b1_75, H_b1_75, G_b1_75⟩ := V_b1_21
  have hin75 : ¬ ((10 : Int32) < 0 ∨ cl_b1_75.slots.size ≤ ((10 : Int32)).toNatClampNeg) := inb_of S_b1_75 ⟨by decide, by decide⟩
  obtain ⟨T23, h23, X23, e23, W23, st23⟩ := stR X22 hx hZ e22 Ar_b1_75 (j := (10 : Int32)) hin75 rfl (Sto.ofV Ar_b1_75 q_b1_75 O1 (Ins.self (E_C04.ext Ec21))) (g := (mkF m 75 #[.val (.int p1), .unset, .unset, .unset, .unset] [(.ref w_C04), (.int (10 : Int32)), (.ref b1), (.ref b1)])) rfl rfl (hb hby at_75)
  have V_b1_23 : Arv Z h23 b1 k1 (.object "com/example/aq_to_pence/aqtopence/ChargeCode") (13 : Int32) [(.ref w_ZCA), (.ref w_ZCO), (.ref w_OPTIONAL_LDZ_TARIFF), (.ref w_CCA), (.ref w_CFI), (.ref w_CSEP_LDZ_CAPACITY), (.ref w_CSEP_LDZ_COMMODITY), (.ref w_CSEP_ADMINISTRATION), (.ref w_DAILY_METERED_CSEP_ADMINISTRATION), (.ref w_ECN), (.ref w_C04), .null, .null] .null := Arv.set Ar_b1_75 q_b1_75 S_b1_75 N_b1_75 H_b1_75 G_b1_75 rfl W23 10 rfl (Nat.le_of_ble_eq_true rfl)
  have Ec23 := own_extW Ec21 g1 W23
  have N23 := Fr.snoc X23 N21 gb1
  obtain ⟨T24, X24, e24, st24⟩ := getS2 X23 hx hZ hown (host := "") (Or.inl (hw _ (List.mem_of_getElem? (i := 26) rfl))) Via.refl e23 (S_LRD.ext Ec23) (g := (mkF m 79 #[.val (.int p1), .unset, .unset, .unset, .unset] [(.int (11 : Int32)), (.ref b1), (.ref b1)])) rfl (hb hby at_79)
  obtain ⟨cl_b1_82, Ar_b1_82, q_b1_82, S_b1_82, N_b1_82, H_b1_82, G_b1_82⟩ := V_b1_23
  have hin82 : ¬ ((11 : Int32) < 0 ∨ cl_b1_82.slots.size ≤ ((11 : Int32)).toNatClampNeg) := inb_of S_b1_82 ⟨by decide, by decide⟩
  obtain ⟨T25, h25, X25, e25, W25, st25⟩ := stR X24 hx hZ e24 Ar_b1_82 (j := (11 : Int32)) hin82 rfl (Sto.ofV Ar_b1_82 q_b1_82 O1 (Ins.self (E_LRD.ext Ec23))) (g := (mkF m 82 #[.val (.int p1), .unset, .unset, .unset, .unset] [(.ref w_LRD), (.int (11 : Int32)), (.ref b1), (.ref b1)])) rfl rfl (hb hby at_82)
  have V_b1_25 : Arv Z h25 b1 k1 (.object "com/example/aq_to_pence/aqtopence/ChargeCode") (13 : Int32) [(.ref w_ZCA), (.ref w_ZCO), (.ref w_OPTIONAL_LDZ_TARIFF), (.ref w_CCA), (.ref w_CFI), (.ref w_CSEP_LDZ_CAPACITY), (.ref w_CSEP_LDZ_COMMODITY), (.ref w_CSEP_ADMINISTRATION), (.ref w_DAILY_METERED_CSEP_ADMINISTRATION), (.ref w_ECN), (.ref w_C04), (.ref w_LRD), .null] .null := Arv.set Ar_b1_82 q_b1_82 S_b1_82 N_b1_82 H_b1_82 G_b1_82 rfl W25 11 rfl (Nat.le_of_ble_eq_true rfl)
  have Ec25 := own_extW Ec23 g1 W25
  have N25 := Fr.snoc X25 N23 gb1
  obtain ⟨T26, X26, e26, st26⟩ := getS2 X25 hx hZ hown (host := "") (Or.inl (hw _ (List.mem_of_getElem? (i := 28) rfl))) Via.refl e25 (S_LRI.ext Ec25) (g := (mkF m 86 #[.val (.int p1), .unset, .unset, .unset, .unset] [(.int (12 : Int32)), (.ref b1), (.ref b1)])) rfl (hb hby at_86)
  obtain ⟨cl_b1_89, Ar_b1_89, q_b1_89, S_b1_89, N_b1_89, H_b1_89, G_b1_89⟩ := V_b1_25
  have hin89 : ¬ ((12 : Int32) < 0 ∨ cl_b1_89.slots.size ≤ ((12 : Int32)).toNatClampNeg) := inb_of S_b1_89 ⟨by decide, by decide⟩
  obtain ⟨T27, h27, X27, e27, W27, st27⟩ := stR X26 hx hZ e26 Ar_b1_89 (j := (12 : Int32)) hin89 rfl (Sto.ofV Ar_b1_89 q_b1_89 O1 (Ins.self (E_LRI.ext Ec25))) (g := (mkF m 89 #[.val (.int p1), .unset, .unset, .unset, .unset] [(.ref w_LRI), (.int (12 : Int32)), (.ref b1), (.ref b1)])) rfl rfl (hb hby at_89)
  have V_b1_27 : Arv Z h27 b1 k1 (.object "com/example/aq_to_pence/aqtopence/ChargeCode") (13 : Int32) [(.ref w_ZCA), (.ref w_ZCO), (.ref w_OPTIONAL_LDZ_TARIFF), (.ref w_CCA), (.ref w_CFI), (.ref w_CSEP_LDZ_CAPACITY), (.ref w_CSEP_LDZ_COMMODITY), (.ref w_CSEP_ADMINISTRATION), (.ref w_DAILY_METERED_CSEP_ADMINISTRATION), (.ref w_ECN), (.ref w_C04), (.ref w_LRD), (.ref w_LRI)] .null := Arv.set Ar_b1_89 q_b1_89 S_b1_89 N_b1_89 H_b1_89 G_b1_89 rfl W27 12 rfl (Nat.le_of_ble_eq_true rfl)
  have Ec27 := own_extW Ec25 g1 W27
  have N27 := Fr.snoc X27 N25 gb1
  obtain ⟨cl_b1_101, Ar_b1_101, q_b1_101, S_b1_101, N_b1_101, H_b1_101, G_b1_101⟩ := V_b1_27
  have hin_b1_101 : ¬ (((p1 &&& (2147483647 : Int32)) % (13 : Int32)) < 0 ∨ cl_b1_101.slots.size ≤ (((p1 &&& (2147483647 : Int32)) % (13 : Int32))).toNatClampNeg) := inb_of S_b1_101 ⟨hj0, hj1⟩
  have hat_b1_101 : cl_b1_101.slots[(((p1 &&& (2147483647 : Int32)) % (13 : Int32))).toNatClampNeg]? = some (.ref f) := Has.at H_b1_101 hin_b1_101 hf
  obtain ⟨T28, X28, e28, st28⟩ := getS2 X27 hx hZ hown (host := "") (Or.inl (hw _ (List.mem_of_getElem? (i := 26) rfl))) Via.refl e27 (S_LRD.ext Ec27) (g := (mkF m 104 #[.val (.int p1), .val (.ref b1), .val (.int ((p1 &&& (2147483647 : Int32)) % (13 : Int32))), .val (.ref f), .unset] [(.ref f)])) rfl (hb hby at_104)
  obtain ⟨cq29, kq29, q29a, q29b, q29c⟩ := isOf hZ e28 (E_f.ext Ec27)
  obtain ⟨_, _, ⟨T29, L29, k29, n29⟩, -, X29, ⟨Lc29, hQ29, l29, y29, z29⟩, st29⟩ := X28.virtualBack hx (y := (⟨"com/example/aq_to_pence/aqtopence/ChargeCode", "bySector", "()Z"⟩ : MethodName)) (z := (⟨"com/example/aq_to_pence/aqtopence/ChargeCode", "bySector", "()Z"⟩ : MethodName)) hown (mvT hZ (hw _ (List.mem_of_getElem? (i := 31) rfl))) (mvT hZ (hw _ (List.mem_of_getElem? (i := 32) rfl))) (notFace_of_selects (args := #[]) (mvT hZ (hw _ (List.mem_of_getElem? (i := 34) rfl)))) (mvT hZ (hw _ (List.mem_of_getElem? (i := 34) rfl))) (mvT hZ (hw _ (List.mem_of_getElem? (i := 33) rfl))) (by decide) (backOf (W := 0) (rm1 l Z a0 hw [] f sv h27 n0 (Nat.le_trans Z0 Ec27.1) (F_f.ext Ec27) z hz) hZ (hw _ (List.mem_of_getElem? (i := 35) rfl)) (hw _ (List.mem_of_getElem? (i := 3) rfl)) (by decide) (by decide)) q29a q29c (g := (mkF m 125 #[.val (.int p1), .val (.ref b1), .val (.int ((p1 &&& (2147483647 : Int32)) % (13 : Int32))), .val (.ref f), .val (.int (1 : Int32))] [(.ref f)])) rfl (by rw [hml]; rfl) (Steps.refl _) (argsL := []) (rest := []) (lenOf pdm_0 rfl) rfl (by show 2 * 0 + _ ≤ _; exact Nat.le_of_eq rfl) (hb hby at_125) (fun _ _ => ⟨rfl, e28, (by decide : 1 + 0 ≤ _), (by decide : 13 + 0 ≤ _)⟩)
  dsimp only [Pt.U, Pt.locs, Pt.cells, Pt.slots] at X29 l29 y29 z29 st29 hQ29
  subst l29 y29 z29
  obtain ⟨rfl, N29q, e29⟩ := hQ29
  have N29 := Fr.app N27 N29q
  obtain ⟨fs, hr, hrun, hended, hW, hsame⟩ := X29.leave (v := some (.int (1 : Int32))) (fun h => by rw [Bd.returns] at h; cases h)
  refine ⟨_, _, pre0 _ ?_, hrun, hended, _, _, rfl, ?_, ⟨_, rfl⟩, hW, hsame.mono (by decide) (by decide)⟩
  · show Steps p.tables e below (s₁.setTop (mkF m 0 #[.val (.int p1), .unset, .unset, .unset, .unset] [])) _
    refine XS.bipush X0.here hx rfl (hb hby at_0) ?_
    show Steps p.tables e below (s₁.setTop (mkF m 2 #[.val (.int p1), .unset, .unset, .unset, .unset] [(.int (13 : Int32))])) _
    refine st1 _ ?_
    show Steps p.tables e below (T1.setTop (mkF m 5 #[.val (.int p1), .unset, .unset, .unset, .unset] [(.ref b1)])) _
    refine XS.dup X1.here hx rfl (hb hby at_5) rfl rfl ?_
    show Steps p.tables e below (T1.setTop (mkF m 6 #[.val (.int p1), .unset, .unset, .unset, .unset] [(.ref b1), (.ref b1)])) _
    refine XS.iconst X1.here hx rfl (hb hby at_6) ?_
    show Steps p.tables e below (T1.setTop (mkF m 7 #[.val (.int p1), .unset, .unset, .unset, .unset] [(.int (0 : Int32)), (.ref b1), (.ref b1)])) _
    refine st2 _ ?_
    show Steps p.tables e below (T2.setTop (mkF m 10 #[.val (.int p1), .unset, .unset, .unset, .unset] [(.ref w_ZCA), (.int (0 : Int32)), (.ref b1), (.ref b1)])) _
    refine st3 _ ?_
    show Steps p.tables e below (T3.setTop (mkF m 11 #[.val (.int p1), .unset, .unset, .unset, .unset] [(.ref b1)])) _
    refine XS.dup X3.here hx rfl (hb hby at_11) rfl rfl ?_
    show Steps p.tables e below (T3.setTop (mkF m 12 #[.val (.int p1), .unset, .unset, .unset, .unset] [(.ref b1), (.ref b1)])) _
    refine XS.iconst X3.here hx rfl (hb hby at_12) ?_
    show Steps p.tables e below (T3.setTop (mkF m 13 #[.val (.int p1), .unset, .unset, .unset, .unset] [(.int (1 : Int32)), (.ref b1), (.ref b1)])) _
    refine st4 _ ?_
    show Steps p.tables e below (T4.setTop (mkF m 16 #[.val (.int p1), .unset, .unset, .unset, .unset] [(.ref w_ZCO), (.int (1 : Int32)), (.ref b1), (.ref b1)])) _
    refine st5 _ ?_
    show Steps p.tables e below (T5.setTop (mkF m 17 #[.val (.int p1), .unset, .unset, .unset, .unset] [(.ref b1)])) _
    refine XS.dup X5.here hx rfl (hb hby at_17) rfl rfl ?_
    show Steps p.tables e below (T5.setTop (mkF m 18 #[.val (.int p1), .unset, .unset, .unset, .unset] [(.ref b1), (.ref b1)])) _
    refine XS.iconst X5.here hx rfl (hb hby at_18) ?_
    show Steps p.tables e below (T5.setTop (mkF m 19 #[.val (.int p1), .unset, .unset, .unset, .unset] [(.int (2 : Int32)), (.ref b1), (.ref b1)])) _
    refine st6 _ ?_
    show Steps p.tables e below (T6.setTop (mkF m 22 #[.val (.int p1), .unset, .unset, .unset, .unset] [(.ref w_OPTIONAL_LDZ_TARIFF), (.int (2 : Int32)), (.ref b1), (.ref b1)])) _
    refine st7 _ ?_
    show Steps p.tables e below (T7.setTop (mkF m 23 #[.val (.int p1), .unset, .unset, .unset, .unset] [(.ref b1)])) _
    refine XS.dup X7.here hx rfl (hb hby at_23) rfl rfl ?_
    show Steps p.tables e below (T7.setTop (mkF m 24 #[.val (.int p1), .unset, .unset, .unset, .unset] [(.ref b1), (.ref b1)])) _
    refine XS.iconst X7.here hx rfl (hb hby at_24) ?_
    show Steps p.tables e below (T7.setTop (mkF m 25 #[.val (.int p1), .unset, .unset, .unset, .unset] [(.int (3 : Int32)), (.ref b1), (.ref b1)])) _
    refine st8 _ ?_
    show Steps p.tables e below (T8.setTop (mkF m 28 #[.val (.int p1), .unset, .unset, .unset, .unset] [(.ref w_CCA), (.int (3 : Int32)), (.ref b1), (.ref b1)])) _
    refine st9 _ ?_
    show Steps p.tables e below (T9.setTop (mkF m 29 #[.val (.int p1), .unset, .unset, .unset, .unset] [(.ref b1)])) _
    refine XS.dup X9.here hx rfl (hb hby at_29) rfl rfl ?_
    show Steps p.tables e below (T9.setTop (mkF m 30 #[.val (.int p1), .unset, .unset, .unset, .unset] [(.ref b1), (.ref b1)])) _
    refine XS.iconst X9.here hx rfl (hb hby at_30) ?_
    show Steps p.tables e below (T9.setTop (mkF m 31 #[.val (.int p1), .unset, .unset, .unset, .unset] [(.int (4 : Int32)), (.ref b1), (.ref b1)])) _
    refine st10 _ ?_
    show Steps p.tables e below (T10.setTop (mkF m 34 #[.val (.int p1), .unset, .unset, .unset, .unset] [(.ref w_CFI), (.int (4 : Int32)), (.ref b1), (.ref b1)])) _
    refine st11 _ ?_
    show Steps p.tables e below (T11.setTop (mkF m 35 #[.val (.int p1), .unset, .unset, .unset, .unset] [(.ref b1)])) _
    refine XS.dup X11.here hx rfl (hb hby at_35) rfl rfl ?_
    show Steps p.tables e below (T11.setTop (mkF m 36 #[.val (.int p1), .unset, .unset, .unset, .unset] [(.ref b1), (.ref b1)])) _
    refine XS.iconst X11.here hx rfl (hb hby at_36) ?_
    show Steps p.tables e below (T11.setTop (mkF m 37 #[.val (.int p1), .unset, .unset, .unset, .unset] [(.int (5 : Int32)), (.ref b1), (.ref b1)])) _
    refine st12 _ ?_
    show Steps p.tables e below (T12.setTop (mkF m 40 #[.val (.int p1), .unset, .unset, .unset, .unset] [(.ref w_CSEP_LDZ_CAPACITY), (.int (5 : Int32)), (.ref b1), (.ref b1)])) _
    refine st13 _ ?_
    show Steps p.tables e below (T13.setTop (mkF m 41 #[.val (.int p1), .unset, .unset, .unset, .unset] [(.ref b1)])) _
    refine XS.dup X13.here hx rfl (hb hby at_41) rfl rfl ?_
    show Steps p.tables e below (T13.setTop (mkF m 42 #[.val (.int p1), .unset, .unset, .unset, .unset] [(.ref b1), (.ref b1)])) _
    refine XS.bipush X13.here hx rfl (hb hby at_42) ?_
    show Steps p.tables e below (T13.setTop (mkF m 44 #[.val (.int p1), .unset, .unset, .unset, .unset] [(.int (6 : Int32)), (.ref b1), (.ref b1)])) _
    refine st14 _ ?_
    show Steps p.tables e below (T14.setTop (mkF m 47 #[.val (.int p1), .unset, .unset, .unset, .unset] [(.ref w_CSEP_LDZ_COMMODITY), (.int (6 : Int32)), (.ref b1), (.ref b1)])) _
    refine st15 _ ?_
    show Steps p.tables e below (T15.setTop (mkF m 48 #[.val (.int p1), .unset, .unset, .unset, .unset] [(.ref b1)])) _
    refine XS.dup X15.here hx rfl (hb hby at_48) rfl rfl ?_
    show Steps p.tables e below (T15.setTop (mkF m 49 #[.val (.int p1), .unset, .unset, .unset, .unset] [(.ref b1), (.ref b1)])) _
    refine XS.bipush X15.here hx rfl (hb hby at_49) ?_
    show Steps p.tables e below (T15.setTop (mkF m 51 #[.val (.int p1), .unset, .unset, .unset, .unset] [(.int (7 : Int32)), (.ref b1), (.ref b1)])) _
    refine st16 _ ?_
    show Steps p.tables e below (T16.setTop (mkF m 54 #[.val (.int p1), .unset, .unset, .unset, .unset] [(.ref w_CSEP_ADMINISTRATION), (.int (7 : Int32)), (.ref b1), (.ref b1)])) _
    refine st17 _ ?_
    show Steps p.tables e below (T17.setTop (mkF m 55 #[.val (.int p1), .unset, .unset, .unset, .unset] [(.ref b1)])) _
    refine XS.dup X17.here hx rfl (hb hby at_55) rfl rfl ?_
    show Steps p.tables e below (T17.setTop (mkF m 56 #[.val (.int p1), .unset, .unset, .unset, .unset] [(.ref b1), (.ref b1)])) _
    refine XS.bipush X17.here hx rfl (hb hby at_56) ?_
    show Steps p.tables e below (T17.setTop (mkF m 58 #[.val (.int p1), .unset, .unset, .unset, .unset] [(.int (8 : Int32)), (.ref b1), (.ref b1)])) _
    refine st18 _ ?_
    show Steps p.tables e below (T18.setTop (mkF m 61 #[.val (.int p1), .unset, .unset, .unset, .unset] [(.ref w_DAILY_METERED_CSEP_ADMINISTRATION), (.int (8 : Int32)), (.ref b1), (.ref b1)])) _
    refine st19 _ ?_
    show Steps p.tables e below (T19.setTop (mkF m 62 #[.val (.int p1), .unset, .unset, .unset, .unset] [(.ref b1)])) _
    refine XS.dup X19.here hx rfl (hb hby at_62) rfl rfl ?_
    show Steps p.tables e below (T19.setTop (mkF m 63 #[.val (.int p1), .unset, .unset, .unset, .unset] [(.ref b1), (.ref b1)])) _
    refine XS.bipush X19.here hx rfl (hb hby at_63) ?_
    show Steps p.tables e below (T19.setTop (mkF m 65 #[.val (.int p1), .unset, .unset, .unset, .unset] [(.int (9 : Int32)), (.ref b1), (.ref b1)])) _
    refine st20 _ ?_
    show Steps p.tables e below (T20.setTop (mkF m 68 #[.val (.int p1), .unset, .unset, .unset, .unset] [(.ref w_ECN), (.int (9 : Int32)), (.ref b1), (.ref b1)])) _
    refine st21 _ ?_
    show Steps p.tables e below (T21.setTop (mkF m 69 #[.val (.int p1), .unset, .unset, .unset, .unset] [(.ref b1)])) _
    refine XS.dup X21.here hx rfl (hb hby at_69) rfl rfl ?_
    show Steps p.tables e below (T21.setTop (mkF m 70 #[.val (.int p1), .unset, .unset, .unset, .unset] [(.ref b1), (.ref b1)])) _
    refine XS.bipush X21.here hx rfl (hb hby at_70) ?_
    show Steps p.tables e below (T21.setTop (mkF m 72 #[.val (.int p1), .unset, .unset, .unset, .unset] [(.int (10 : Int32)), (.ref b1), (.ref b1)])) _
    refine st22 _ ?_
    show Steps p.tables e below (T22.setTop (mkF m 75 #[.val (.int p1), .unset, .unset, .unset, .unset] [(.ref w_C04), (.int (10 : Int32)), (.ref b1), (.ref b1)])) _
    refine st23 _ ?_
    show Steps p.tables e below (T23.setTop (mkF m 76 #[.val (.int p1), .unset, .unset, .unset, .unset] [(.ref b1)])) _
    refine XS.dup X23.here hx rfl (hb hby at_76) rfl rfl ?_
    show Steps p.tables e below (T23.setTop (mkF m 77 #[.val (.int p1), .unset, .unset, .unset, .unset] [(.ref b1), (.ref b1)])) _
    refine XS.bipush X23.here hx rfl (hb hby at_77) ?_
    show Steps p.tables e below (T23.setTop (mkF m 79 #[.val (.int p1), .unset, .unset, .unset, .unset] [(.int (11 : Int32)), (.ref b1), (.ref b1)])) _
    refine st24 _ ?_
    show Steps p.tables e below (T24.setTop (mkF m 82 #[.val (.int p1), .unset, .unset, .unset, .unset] [(.ref w_LRD), (.int (11 : Int32)), (.ref b1), (.ref b1)])) _
    refine st25 _ ?_
    show Steps p.tables e below (T25.setTop (mkF m 83 #[.val (.int p1), .unset, .unset, .unset, .unset] [(.ref b1)])) _
    refine XS.dup X25.here hx rfl (hb hby at_83) rfl rfl ?_
    show Steps p.tables e below (T25.setTop (mkF m 84 #[.val (.int p1), .unset, .unset, .unset, .unset] [(.ref b1), (.ref b1)])) _
    refine XS.bipush X25.here hx rfl (hb hby at_84) ?_
    show Steps p.tables e below (T25.setTop (mkF m 86 #[.val (.int p1), .unset, .unset, .unset, .unset] [(.int (12 : Int32)), (.ref b1), (.ref b1)])) _
    refine st26 _ ?_
    show Steps p.tables e below (T26.setTop (mkF m 89 #[.val (.int p1), .unset, .unset, .unset, .unset] [(.ref w_LRI), (.int (12 : Int32)), (.ref b1), (.ref b1)])) _
    refine st27 _ ?_
    show Steps p.tables e below (T27.setTop (mkF m 90 #[.val (.int p1), .unset, .unset, .unset, .unset] [(.ref b1)])) _
    refine XS.astoreN X27.here hx rfl (hb hby at_90) rfl rfl (l' := #[.val (.int p1), .val (.ref b1), .unset, .unset, .unset]) rfl ?_
    show Steps p.tables e below (T27.setTop (mkF m 91 #[.val (.int p1), .val (.ref b1), .unset, .unset, .unset] [])) _
    refine XS.iloadN X27.here hx rfl (hb hby at_91) rfl ?_
    show Steps p.tables e below (T27.setTop (mkF m 92 #[.val (.int p1), .val (.ref b1), .unset, .unset, .unset] [(.int p1)])) _
    refine X27.ldcInt hx hown (mvT hZ (hw _ (List.mem_of_getElem? (i := 30) rfl))) (g := (mkF m 92 #[.val (.int p1), .val (.ref b1), .unset, .unset, .unset] [(.int p1)])) rfl (hb hby at_92) _ ?_
    show Steps p.tables e below (T27.setTop (mkF m 94 #[.val (.int p1), .val (.ref b1), .unset, .unset, .unset] [(.int (2147483647 : Int32)), (.int p1)])) _
    refine XS.iand X27.here hx rfl (hb hby at_94) rfl ?_
    show Steps p.tables e below (T27.setTop (mkF m 95 #[.val (.int p1), .val (.ref b1), .unset, .unset, .unset] [(.int (p1 &&& (2147483647 : Int32)))])) _
    refine XS.bipush X27.here hx rfl (hb hby at_95) ?_
    show Steps p.tables e below (T27.setTop (mkF m 97 #[.val (.int p1), .val (.ref b1), .unset, .unset, .unset] [(.int (13 : Int32)), (.int (p1 &&& (2147483647 : Int32)))])) _
    refine iremM X27 hx rfl (hb hby at_97) rfl (by decide) ?_
    show Steps p.tables e below (T27.setTop (mkF m 98 #[.val (.int p1), .val (.ref b1), .unset, .unset, .unset] [(.int ((p1 &&& (2147483647 : Int32)) % (13 : Int32)))])) _
    refine XS.istoreN X27.here hx rfl (hb hby at_98) rfl (l' := #[.val (.int p1), .val (.ref b1), .val (.int ((p1 &&& (2147483647 : Int32)) % (13 : Int32))), .unset, .unset]) rfl ?_
    show Steps p.tables e below (T27.setTop (mkF m 99 #[.val (.int p1), .val (.ref b1), .val (.int ((p1 &&& (2147483647 : Int32)) % (13 : Int32))), .unset, .unset] [])) _
    refine XS.aloadN X27.here hx rfl (hb hby at_99) rfl rfl ?_
    show Steps p.tables e below (T27.setTop (mkF m 100 #[.val (.int p1), .val (.ref b1), .val (.int ((p1 &&& (2147483647 : Int32)) % (13 : Int32))), .unset, .unset] [(.ref b1)])) _
    refine XS.iloadN X27.here hx rfl (hb hby at_100) rfl ?_
    show Steps p.tables e below (T27.setTop (mkF m 101 #[.val (.int p1), .val (.ref b1), .val (.int ((p1 &&& (2147483647 : Int32)) % (13 : Int32))), .unset, .unset] [(.int ((p1 &&& (2147483647 : Int32)) % (13 : Int32))), (.ref b1)])) _
    refine X27.aaload hx (j := ((p1 &&& (2147483647 : Int32)) % (13 : Int32))) (v := .ref f) (by rw [e27]; exact Ar_b1_101.1) (State.isArrayOf_alike hZ.alike Ar_b1_101.2.1) rfl Ar_b1_101.2.2 hin_b1_101 hat_b1_101 (g := (mkF m 101 #[.val (.int p1), .val (.ref b1), .val (.int ((p1 &&& (2147483647 : Int32)) % (13 : Int32))), .unset, .unset] [(.int ((p1 &&& (2147483647 : Int32)) % (13 : Int32))), (.ref b1)])) rfl rfl (hb hby at_101) _ ?_
    show Steps p.tables e below (T27.setTop (mkF m 102 #[.val (.int p1), .val (.ref b1), .val (.int ((p1 &&& (2147483647 : Int32)) % (13 : Int32))), .unset, .unset] [(.ref f)])) _
    refine XS.astoreN X27.here hx rfl (hb hby at_102) rfl rfl (l' := #[.val (.int p1), .val (.ref b1), .val (.int ((p1 &&& (2147483647 : Int32)) % (13 : Int32))), .val (.ref f), .unset]) rfl ?_
    show Steps p.tables e below (T27.setTop (mkF m 103 #[.val (.int p1), .val (.ref b1), .val (.int ((p1 &&& (2147483647 : Int32)) % (13 : Int32))), .val (.ref f), .unset] [])) _
    refine XS.aloadN X27.here hx rfl (hb hby at_103) rfl rfl ?_
    show Steps p.tables e below (T27.setTop (mkF m 104 #[.val (.int p1), .val (.ref b1), .val (.int ((p1 &&& (2147483647 : Int32)) % (13 : Int32))), .val (.ref f), .unset] [(.ref f)])) _
    refine st28 _ ?_
    show Steps p.tables e below (T28.setTop (mkF m 107 #[.val (.int p1), .val (.ref b1), .val (.int ((p1 &&& (2147483647 : Int32)) % (13 : Int32))), .val (.ref f), .unset] [(.ref w_LRD), (.ref f)])) _
    refine Jvm.RoadKit.acmp (g := (mkF m 107 #[.val (.int p1), .val (.ref b1), .val (.int ((p1 &&& (2147483647 : Int32)) % (13 : Int32))), .val (.ref f), .unset] [(.ref w_LRD), (.ref f)])) X28 hx rfl rfl rfl (pc0 := 107) (pc' := 117) (same := true) rfl (hb hby at_107) rfl (decide_eq_true (congrArg Value.ref hc107)) (by decide) (by decide) ?_
    show Steps p.tables e below (T28.setTop (mkF m 117 #[.val (.int p1), .val (.ref b1), .val (.int ((p1 &&& (2147483647 : Int32)) % (13 : Int32))), .val (.ref f), .unset] [])) _
    refine XS.iconst X28.here hx rfl (hb hby at_117) ?_
    show Steps p.tables e below (T28.setTop (mkF m 118 #[.val (.int p1), .val (.ref b1), .val (.int ((p1 &&& (2147483647 : Int32)) % (13 : Int32))), .val (.ref f), .unset] [(.int (1 : Int32))])) _
    refine XS.goto X28.here hx rfl (pc0 := 118) (pc' := 122) rfl (hb hby at_118) (by decide) (by decide) ?_
    show Steps p.tables e below (T28.setTop (mkF m 122 #[.val (.int p1), .val (.ref b1), .val (.int ((p1 &&& (2147483647 : Int32)) % (13 : Int32))), .val (.ref f), .unset] [(.int (1 : Int32))])) _
    refine XS.istore X28.here hx rfl (hb hby at_122) rfl (l' := #[.val (.int p1), .val (.ref b1), .val (.int ((p1 &&& (2147483647 : Int32)) % (13 : Int32))), .val (.ref f), .val (.int (1 : Int32))]) rfl ?_
    show Steps p.tables e below (T28.setTop (mkF m 124 #[.val (.int p1), .val (.ref b1), .val (.int ((p1 &&& (2147483647 : Int32)) % (13 : Int32))), .val (.ref f), .val (.int (1 : Int32))] [])) _
    refine XS.aloadN X28.here hx rfl (hb hby at_124) rfl rfl ?_
    show Steps p.tables e below (T28.setTop (mkF m 125 #[.val (.int p1), .val (.ref b1), .val (.int ((p1 &&& (2147483647 : Int32)) % (13 : Int32))), .val (.ref f), .val (.int (1 : Int32))] [(.ref f)])) _
    refine st29.trans ?_
    show Steps p.tables e below (T29.setTop (mkF m 128 #[.val (.int p1), .val (.ref b1), .val (.int ((p1 &&& (2147483647 : Int32)) % (13 : Int32))), .val (.ref f), .val (.int (1 : Int32))] [(.int z)])) _
    refine XS.iload X29.here hx rfl (hb hby at_128) rfl ?_
    show Steps p.tables e below (T29.setTop (mkF m 130 #[.val (.int p1), .val (.ref b1), .val (.int ((p1 &&& (2147483647 : Int32)) % (13 : Int32))), .val (.ref f), .val (.int (1 : Int32))] [(.int (1 : Int32)), (.int z)])) _
    refine XS.icmpNo X29.here hx rfl (hb hby at_130) rfl (teq (hz1 hc107)).2 ?_
    show Steps p.tables e below (T29.setTop (mkF m 133 #[.val (.int p1), .val (.ref b1), .val (.int ((p1 &&& (2147483647 : Int32)) % (13 : Int32))), .val (.ref f), .val (.int (1 : Int32))] [])) _
    refine XS.iconst X29.here hx rfl (hb hby at_133) ?_
    show Steps p.tables e below (T29.setTop (mkF m 134 #[.val (.int p1), .val (.ref b1), .val (.int ((p1 &&& (2147483647 : Int32)) % (13 : Int32))), .val (.ref f), .val (.int (1 : Int32))] [(.int (1 : Int32))])) _
    refine XS.goto X29.here hx rfl (pc0 := 134) (pc' := 138) rfl (hb hby at_134) (by decide) (by decide) ?_
    show Steps p.tables e below (T29.setTop (mkF m 138 #[.val (.int p1), .val (.ref b1), .val (.int ((p1 &&& (2147483647 : Int32)) % (13 : Int32))), .val (.ref f), .val (.int (1 : Int32))] [(.int (1 : Int32))])) _
    exact retN X29 hx (t := .boolean) Bd.returns (by simp) (hb hby at_138) hr
  · show QL (.int (1 : Int32)) n0 _ T29.heap _
    exact ⟨rfl, N29, trivial⟩
set_option maxRecDepth 65536 in
set_option maxHeartbeats 40000000 in
theorem rm0_ft (l : Launch) (Z : State) (a0 : Array Value) (hw : ∀ d ∈ tables_1, d.before a0 Z = true) (ws : List Jvm.Cond) (p1 : Int32) (w_ZCA : Addr) (w_ZCO : Addr) (w_OPTIONAL_LDZ_TARIFF : Addr) (w_CCA : Addr) (w_CFI : Addr) (w_CSEP_LDZ_CAPACITY : Addr) (w_CSEP_LDZ_COMMODITY : Addr) (w_CSEP_ADMINISTRATION : Addr) (w_DAILY_METERED_CSEP_ADMINISTRATION : Addr) (w_ECN : Addr) (w_C04 : Addr) (w_LRD : Addr) (w_LRI : Addr) (f : Addr) (sv : Value) (z : Int32) (h0 : Heap) (n0 : Nat) (Z0 : n0 ≤ h0.size) (S_ZCA : Sta Z h0 "com/example/aq_to_pence/aqtopence/ChargeCode" "ZCA" "Lcom/example/aq_to_pence/aqtopence/ChargeCode;" (.ref w_ZCA)) (S_ZCO : Sta Z h0 "com/example/aq_to_pence/aqtopence/ChargeCode" "ZCO" "Lcom/example/aq_to_pence/aqtopence/ChargeCode;" (.ref w_ZCO)) (S_OPTIONAL_LDZ_TARIFF : Sta Z h0 "com/example/aq_to_pence/aqtopence/ChargeCode" "OPTIONAL_LDZ_TARIFF" "Lcom/example/aq_to_pence/aqtopence/ChargeCode;" (.ref w_OPTIONAL_LDZ_TARIFF)) (S_CCA : Sta Z h0 "com/example/aq_to_pence/aqtopence/ChargeCode" "CCA" "Lcom/example/aq_to_pence/aqtopence/ChargeCode;" (.ref w_CCA)) (S_CFI : Sta Z h0 "com/example/aq_to_pence/aqtopence/ChargeCode" "CFI" "Lcom/example/aq_to_pence/aqtopence/ChargeCode;" (.ref w_CFI)) (S_CSEP_LDZ_CAPACITY : Sta Z h0 "com/example/aq_to_pence/aqtopence/ChargeCode" "CSEP_LDZ_CAPACITY" "Lcom/example/aq_to_pence/aqtopence/ChargeCode;" (.ref w_CSEP_LDZ_CAPACITY)) (S_CSEP_LDZ_COMMODITY : Sta Z h0 "com/example/aq_to_pence/aqtopence/ChargeCode" "CSEP_LDZ_COMMODITY" "Lcom/example/aq_to_pence/aqtopence/ChargeCode;" (.ref w_CSEP_LDZ_COMMODITY)) (S_CSEP_ADMINISTRATION : Sta Z h0 "com/example/aq_to_pence/aqtopence/ChargeCode" "CSEP_ADMINISTRATION" "Lcom/example/aq_to_pence/aqtopence/ChargeCode;" (.ref w_CSEP_ADMINISTRATION)) (S_DAILY_METERED_CSEP_ADMINISTRATION : Sta Z h0 "com/example/aq_to_pence/aqtopence/ChargeCode" "DAILY_METERED_CSEP_ADMINISTRATION" "Lcom/example/aq_to_pence/aqtopence/ChargeCode;" (.ref w_DAILY_METERED_CSEP_ADMINISTRATION)) (S_ECN : Sta Z h0 "com/example/aq_to_pence/aqtopence/ChargeCode" "ECN" "Lcom/example/aq_to_pence/aqtopence/ChargeCode;" (.ref w_ECN)) (S_C04 : Sta Z h0 "com/example/aq_to_pence/aqtopence/ChargeCode" "C04" "Lcom/example/aq_to_pence/aqtopence/ChargeCode;" (.ref w_C04)) (S_LRD : Sta Z h0 "com/example/aq_to_pence/aqtopence/ChargeCode" "LRD" "Lcom/example/aq_to_pence/aqtopence/ChargeCode;" (.ref w_LRD)) (S_LRI : Sta Z h0 "com/example/aq_to_pence/aqtopence/ChargeCode" "LRI" "Lcom/example/aq_to_pence/aqtopence/ChargeCode;" (.ref w_LRI)) (E_ZCA : Exa Z h0 w_ZCA "com/example/aq_to_pence/aqtopence/ChargeCode") (E_ZCO : Exa Z h0 w_ZCO "com/example/aq_to_pence/aqtopence/ChargeCode") (E_OPTIONAL_LDZ_TARIFF : Exa Z h0 w_OPTIONAL_LDZ_TARIFF "com/example/aq_to_pence/aqtopence/ChargeCode") (E_CCA : Exa Z h0 w_CCA "com/example/aq_to_pence/aqtopence/ChargeCode") (E_CFI : Exa Z h0 w_CFI "com/example/aq_to_pence/aqtopence/ChargeCode") (E_CSEP_LDZ_CAPACITY : Exa Z h0 w_CSEP_LDZ_CAPACITY "com/example/aq_to_pence/aqtopence/ChargeCode") (E_CSEP_LDZ_COMMODITY : Exa Z h0 w_CSEP_LDZ_COMMODITY "com/example/aq_to_pence/aqtopence/ChargeCode") (E_CSEP_ADMINISTRATION : Exa Z h0 w_CSEP_ADMINISTRATION "com/example/aq_to_pence/aqtopence/ChargeCode") (E_DAILY_METERED_CSEP_ADMINISTRATION : Exa Z h0 w_DAILY_METERED_CSEP_ADMINISTRATION "com/example/aq_to_pence/aqtopence/ChargeCode") (E_ECN : Exa Z h0 w_ECN "com/example/aq_to_pence/aqtopence/ChargeCode") (E_C04 : Exa Z h0 w_C04 "com/example/aq_to_pence/aqtopence/ChargeCode") (E_LRD : Exa Z h0 w_LRD "com/example/aq_to_pence/aqtopence/ChargeCode") (E_LRI : Exa Z h0 w_LRI "com/example/aq_to_pence/aqtopence/ChargeCode") (E_f : Exa Z h0 f "com/example/aq_to_pence/aqtopence/ChargeCode") (F_f : Fld Z h0 f "com/example/aq_to_pence/aqtopence/ChargeCode" "sector" "Lcom/example/aq_to_pence/aqtopence/Sector;" sv) (hz : (sv = .null ∧ z = (0 : Int32)) ∨ (∃ w : Addr, sv = .ref w ∧ z = (1 : Int32))) (hj0 : ¬ ((p1 &&& (2147483647 : Int32)) % (13 : Int32)) < 0) (hj1 : ((p1 &&& (2147483647 : Int32)) % (13 : Int32)) < (13 : Int32)) (hf : ([(.ref w_ZCA), (.ref w_ZCO), (.ref w_OPTIONAL_LDZ_TARIFF), (.ref w_CCA), (.ref w_CFI), (.ref w_CSEP_LDZ_CAPACITY), (.ref w_CSEP_LDZ_COMMODITY), (.ref w_CSEP_ADMINISTRATION), (.ref w_DAILY_METERED_CSEP_ADMINISTRATION), (.ref w_ECN), (.ref w_C04), (.ref w_LRD), (.ref w_LRI)] : List Value).getD (((p1 &&& (2147483647 : Int32)) % (13 : Int32))).toNatClampNeg .null = .ref f) (hz1 : f = w_LRD → z = (1 : Int32)) (hz2 : f = w_LRI → z = (1 : Int32)) (hz3 : ¬ f = w_LRD → ¬ f = w_LRI → z = (0 : Int32)) (hc107 : ¬ (f = w_LRD)) (hc114 : ¬ (f = w_LRI)) :
    MetFree l x (head1 (Jvm.Cond.code x code maxLocals ret :: ws) room_1) (fun a U => a = #[(.int p1)] ∧ Z.Warmed39 U.vm ∧ U.heap = h0) (fun _ _ _ _ _ => True) (fun _ U o U' => ∃ v L, o = .returned v ∧ QL (.int (1 : Int32)) n0 v U'.heap L ∧ FrameEnd U o U' L room_1.cells room_1.slots) := by
  refine MetFree.of_bodySF (plainFor_of_name pnm_1) hisR ?_
  intro p e s m args below meth c s₁ Bd hml0 hP hK
  obtain ⟨rfl, hZ, hh⟩ := hP
  have hx := Bd.exec
  have hby := Bd.bytes
  have hml : c.maxLocals = 5 := hml0
  have hown : s.vm.findClass "com/example/aq_to_pence/aqtopence/ChargeCodeBySectorPinLaw" = some m.cls := findClass_of_methodNamed Bd.named
  have hnm := (name_of_methodNamed Bd.named Bd.method).1
  have X0 : Stand p l e room_1 s m #[(.int p1)] below meth c s₁ [] 0 0 := Stand.of_body Bd
  have e0 : s₁.heap = h0 := by rw [← hh, Bd.state]; rfl
  have N0 := Fr.nil n0
  have pre0 : ∀ t, Steps p.tables e below (s₁.setTop (mkF m 0 #[.val (.int p1), .unset, .unset, .unset, .unset] [])) t → Steps p.tables e below (s₁.setTop (entryFrame m #[(.int p1)] maxLocals)) t := fun t k => castTop (ef_rm0 m p1) k
  obtain ⟨T1, h1, k1, X1, e1, E1, A1, O1, st1⟩ := newR X0 hx hZ hown (hw _ (List.mem_of_getElem? (i := 0) rfl)) (hw _ (List.mem_of_getElem? (i := 1) rfl)) e0 (g := (mkF m 2 #[.val (.int p1), .unset, .unset, .unset, .unset] [(.int (13 : Int32))])) rfl (hb hby at_2) rfl (by decide) (cap := 13) (by decide) (by decide) (by decide) (by decide)
  obtain ⟨b1, g1⟩ : ∃ z, z = h0.size := ⟨_, rfl⟩
  rw [← g1] at A1 st1
  have gb1 : n0 ≤ b1 := Nat.le_trans Z0 (Nat.le_of_eq g1.symm)
  have V_b1 : Arv Z h1 b1 k1 (.object "com/example/aq_to_pence/aqtopence/ChargeCode") (13 : Int32) [.null, .null, .null, .null, .null, .null, .null, .null, .null, .null, .null, .null, .null] .null := (Arv.new A1 (by decide)).pad (pad_rep [] .null 13)
  obtain ⟨T2, X2, e2, st2⟩ := getS2 X1 hx hZ hown (host := "") (Or.inl (hw _ (List.mem_of_getElem? (i := 2) rfl))) Via.refl e1 (S_ZCA.ext E1) (g := (mkF m 7 #[.val (.int p1), .unset, .unset, .unset, .unset] [(.int (0 : Int32)), (.ref b1), (.ref b1)])) rfl (hb hby at_7)
  obtain ⟨cl_b1_10, Ar_b1_10, q_b1_10, S_b1_10, N_b1_10, H_b1_10, G_b1_10⟩ := V_b1
  have hin10 : ¬ ((0 : Int32) < 0 ∨ cl_b1_10.slots.size ≤ ((0 : Int32)).toNatClampNeg) := inb_of S_b1_10 ⟨by decide, by decide⟩
  obtain ⟨T3, h3, X3, e3, W3, st3⟩ := stR X2 hx hZ e2 Ar_b1_10 (j := (0 : Int32)) hin10 rfl (Sto.ofV Ar_b1_10 q_b1_10 O1 (Ins.self (E_ZCA.ext E1))) (g := (mkF m 10 #[.val (.int p1), .unset, .unset, .unset, .unset] [(.ref w_ZCA), (.int (0 : Int32)), (.ref b1), (.ref b1)])) rfl rfl (hb hby at_10)
  have V_b1_3 : Arv Z h3 b1 k1 (.object "com/example/aq_to_pence/aqtopence/ChargeCode") (13 : Int32) [(.ref w_ZCA), .null, .null, .null, .null, .null, .null, .null, .null, .null, .null, .null, .null] .null := Arv.set Ar_b1_10 q_b1_10 S_b1_10 N_b1_10 H_b1_10 G_b1_10 rfl W3 0 rfl (Nat.le_of_ble_eq_true rfl)
  have Ec3 := own_extW E1 g1 W3
  have N3 := Fr.snoc X3 N0 gb1
  obtain ⟨T4, X4, e4, st4⟩ := getS2 X3 hx hZ hown (host := "") (Or.inl (hw _ (List.mem_of_getElem? (i := 6) rfl))) Via.refl e3 (S_ZCO.ext Ec3) (g := (mkF m 13 #[.val (.int p1), .unset, .unset, .unset, .unset] [(.int (1 : Int32)), (.ref b1), (.ref b1)])) rfl (hb hby at_13)
  obtain ⟨cl_b1_16, Ar_b1_16, q_b1_16, S_b1_16, N_b1_16, H_b1_16, G_b1_16⟩ := V_b1_3
  have hin16 : ¬ ((1 : Int32) < 0 ∨ cl_b1_16.slots.size ≤ ((1 : Int32)).toNatClampNeg) := inb_of S_b1_16 ⟨by decide, by decide⟩
  obtain ⟨T5, h5, X5, e5, W5, st5⟩ := stR X4 hx hZ e4 Ar_b1_16 (j := (1 : Int32)) hin16 rfl (Sto.ofV Ar_b1_16 q_b1_16 O1 (Ins.self (E_ZCO.ext Ec3))) (g := (mkF m 16 #[.val (.int p1), .unset, .unset, .unset, .unset] [(.ref w_ZCO), (.int (1 : Int32)), (.ref b1), (.ref b1)])) rfl rfl (hb hby at_16)
  have V_b1_5 : Arv Z h5 b1 k1 (.object "com/example/aq_to_pence/aqtopence/ChargeCode") (13 : Int32) [(.ref w_ZCA), (.ref w_ZCO), .null, .null, .null, .null, .null, .null, .null, .null, .null, .null, .null] .null := Arv.set Ar_b1_16 q_b1_16 S_b1_16 N_b1_16 H_b1_16 G_b1_16 rfl W5 1 rfl (Nat.le_of_ble_eq_true rfl)
  have Ec5 := own_extW Ec3 g1 W5
  have N5 := Fr.snoc X5 N3 gb1
  obtain ⟨T6, X6, e6, st6⟩ := getS2 X5 hx hZ hown (host := "") (Or.inl (hw _ (List.mem_of_getElem? (i := 8) rfl))) Via.refl e5 (S_OPTIONAL_LDZ_TARIFF.ext Ec5) (g := (mkF m 19 #[.val (.int p1), .unset, .unset, .unset, .unset] [(.int (2 : Int32)), (.ref b1), (.ref b1)])) rfl (hb hby at_19)
  obtain ⟨cl_b1_22, Ar_b1_22, q_b1_22, S_b1_22, N_b1_22, H_b1_22, G_b1_22⟩ := V_b1_5
  have hin22 : ¬ ((2 : Int32) < 0 ∨ cl_b1_22.slots.size ≤ ((2 : Int32)).toNatClampNeg) := inb_of S_b1_22 ⟨by decide, by decide⟩
  obtain ⟨T7, h7, X7, e7, W7, st7⟩ := stR X6 hx hZ e6 Ar_b1_22 (j := (2 : Int32)) hin22 rfl (Sto.ofV Ar_b1_22 q_b1_22 O1 (Ins.self (E_OPTIONAL_LDZ_TARIFF.ext Ec5))) (g := (mkF m 22 #[.val (.int p1), .unset, .unset, .unset, .unset] [(.ref w_OPTIONAL_LDZ_TARIFF), (.int (2 : Int32)), (.ref b1), (.ref b1)])) rfl rfl (hb hby at_22)
  have V_b1_7 : Arv Z h7 b1 k1 (.object "com/example/aq_to_pence/aqtopence/ChargeCode") (13 : Int32) [(.ref w_ZCA), (.ref w_ZCO), (.ref w_OPTIONAL_LDZ_TARIFF), .null, .null, .null, .null, .null, .null, .null, .null, .null, .null] .null := Arv.set Ar_b1_22 q_b1_22 S_b1_22 N_b1_22 H_b1_22 G_b1_22 rfl W7 2 rfl (Nat.le_of_ble_eq_true rfl)
  have Ec7 := own_extW Ec5 g1 W7
  have N7 := Fr.snoc X7 N5 gb1
  obtain ⟨T8, X8, e8, st8⟩ := getS2 X7 hx hZ hown (host := "") (Or.inl (hw _ (List.mem_of_getElem? (i := 10) rfl))) Via.refl e7 (S_CCA.ext Ec7) (g := (mkF m 25 #[.val (.int p1), .unset, .unset, .unset, .unset] [(.int (3 : Int32)), (.ref b1), (.ref b1)])) rfl (hb hby at_25)
  obtain ⟨cl_b1_28, Ar_b1_28, q_b1_28, S_b1_28, N_b1_28, H_b1_28, G_b1_28⟩ := V_b1_7
  have hin28 : ¬ ((3 : Int32) < 0 ∨ cl_b1_28.slots.size ≤ ((3 : Int32)).toNatClampNeg) := inb_of S_b1_28 ⟨by decide, by decide⟩
  obtain ⟨T9, h9, X9, e9, W9, st9⟩ := stR X8 hx hZ e8 Ar_b1_28 (j := (3 : Int32)) hin28 rfl (Sto.ofV Ar_b1_28 q_b1_28 O1 (Ins.self (E_CCA.ext Ec7))) (g := (mkF m 28 #[.val (.int p1), .unset, .unset, .unset, .unset] [(.ref w_CCA), (.int (3 : Int32)), (.ref b1), (.ref b1)])) rfl rfl (hb hby at_28)
  have V_b1_9 : Arv Z h9 b1 k1 (.object "com/example/aq_to_pence/aqtopence/ChargeCode") (13 : Int32) [(.ref w_ZCA), (.ref w_ZCO), (.ref w_OPTIONAL_LDZ_TARIFF), (.ref w_CCA), .null, .null, .null, .null, .null, .null, .null, .null, .null] .null := Arv.set Ar_b1_28 q_b1_28 S_b1_28 N_b1_28 H_b1_28 G_b1_28 rfl W9 3 rfl (Nat.le_of_ble_eq_true rfl)
  have Ec9 := own_extW Ec7 g1 W9
  have N9 := Fr.snoc X9 N7 gb1
  obtain ⟨T10, X10, e10, st10⟩ := getS2 X9 hx hZ hown (host := "") (Or.inl (hw _ (List.mem_of_getElem? (i := 12) rfl))) Via.refl e9 (S_CFI.ext Ec9) (g := (mkF m 31 #[.val (.int p1), .unset, .unset, .unset, .unset] [(.int (4 : Int32)), (.ref b1), (.ref b1)])) rfl (hb hby at_31)
  obtain ⟨cl_b1_34, Ar_b1_34, q_b1_34, S_b1_34, N_b1_34, H_b1_34, G_b1_34⟩ := V_b1_9
  have hin34 : ¬ ((4 : Int32) < 0 ∨ cl_b1_34.slots.size ≤ ((4 : Int32)).toNatClampNeg) := inb_of S_b1_34 ⟨by decide, by decide⟩
  obtain ⟨T11, h11, X11, e11, W11, st11⟩ := stR X10 hx hZ e10 Ar_b1_34 (j := (4 : Int32)) hin34 rfl (Sto.ofV Ar_b1_34 q_b1_34 O1 (Ins.self (E_CFI.ext Ec9))) (g := (mkF m 34 #[.val (.int p1), .unset, .unset, .unset, .unset] [(.ref w_CFI), (.int (4 : Int32)), (.ref b1), (.ref b1)])) rfl rfl (hb hby at_34)
  have V_b1_11 : Arv Z h11 b1 k1 (.object "com/example/aq_to_pence/aqtopence/ChargeCode") (13 : Int32) [(.ref w_ZCA), (.ref w_ZCO), (.ref w_OPTIONAL_LDZ_TARIFF), (.ref w_CCA), (.ref w_CFI), .null, .null, .null, .null, .null, .null, .null, .null] .null := Arv.set Ar_b1_34 q_b1_34 S_b1_34 N_b1_34 H_b1_34 G_b1_34 rfl W11 4 rfl (Nat.le_of_ble_eq_true rfl)
  have Ec11 := own_extW Ec9 g1 W11
  have N11 := Fr.snoc X11 N9 gb1
  obtain ⟨T12, X12, e12, st12⟩ := getS2 X11 hx hZ hown (host := "") (Or.inl (hw _ (List.mem_of_getElem? (i := 14) rfl))) Via.refl e11 (S_CSEP_LDZ_CAPACITY.ext Ec11) (g := (mkF m 37 #[.val (.int p1), .unset, .unset, .unset, .unset] [(.int (5 : Int32)), (.ref b1), (.ref b1)])) rfl (hb hby at_37)
  obtain ⟨cl_b1_40, Ar_b1_40, q_b1_40, S_b1_40, N_b1_40, H_b1_40, G_b1_40⟩ := V_b1_11
  have hin40 : ¬ ((5 : Int32) < 0 ∨ cl_b1_40.slots.size ≤ ((5 : Int32)).toNatClampNeg) := inb_of S_b1_40 ⟨by decide, by decide⟩
  obtain ⟨T13, h13, X13, e13, W13, st13⟩ := stR X12 hx hZ e12 Ar_b1_40 (j := (5 : Int32)) hin40 rfl (Sto.ofV Ar_b1_40 q_b1_40 O1 (Ins.self (E_CSEP_LDZ_CAPACITY.ext Ec11))) (g := (mkF m 40 #[.val (.int p1), .unset, .unset, .unset, .unset] [(.ref w_CSEP_LDZ_CAPACITY), (.int (5 : Int32)), (.ref b1), (.ref b1)])) rfl rfl (hb hby at_40)
  have V_b1_13 : Arv Z h13 b1 k1 (.object "com/example/aq_to_pence/aqtopence/ChargeCode") (13 : Int32) [(.ref w_ZCA), (.ref w_ZCO), (.ref w_OPTIONAL_LDZ_TARIFF), (.ref w_CCA), (.ref w_CFI), (.ref w_CSEP_LDZ_CAPACITY), .null, .null, .null, .null, .null, .null, .null] .null := Arv.set Ar_b1_40 q_b1_40 S_b1_40 N_b1_40 H_b1_40 G_b1_40 rfl W13 5 rfl (Nat.le_of_ble_eq_true rfl)
  have Ec13 := own_extW Ec11 g1 W13
  have N13 := Fr.snoc X13 N11 gb1
  obtain ⟨T14, X14, e14, st14⟩ := getS2 X13 hx hZ hown (host := "") (Or.inl (hw _ (List.mem_of_getElem? (i := 16) rfl))) Via.refl e13 (S_CSEP_LDZ_COMMODITY.ext Ec13) (g := (mkF m 44 #[.val (.int p1), .unset, .unset, .unset, .unset] [(.int (6 : Int32)), (.ref b1), (.ref b1)])) rfl (hb hby at_44)
  obtain ⟨cl_b1_47, Ar_b1_47, q_b1_47, S_b1_47, N_b1_47, H_b1_47, G_b1_47⟩ := V_b1_13
  have hin47 : ¬ ((6 : Int32) < 0 ∨ cl_b1_47.slots.size ≤ ((6 : Int32)).toNatClampNeg) := inb_of S_b1_47 ⟨by decide, by decide⟩
  obtain ⟨T15, h15, X15, e15, W15, st15⟩ := stR X14 hx hZ e14 Ar_b1_47 (j := (6 : Int32)) hin47 rfl (Sto.ofV Ar_b1_47 q_b1_47 O1 (Ins.self (E_CSEP_LDZ_COMMODITY.ext Ec13))) (g := (mkF m 47 #[.val (.int p1), .unset, .unset, .unset, .unset] [(.ref w_CSEP_LDZ_COMMODITY), (.int (6 : Int32)), (.ref b1), (.ref b1)])) rfl rfl (hb hby at_47)
  have V_b1_15 : Arv Z h15 b1 k1 (.object "com/example/aq_to_pence/aqtopence/ChargeCode") (13 : Int32) [(.ref w_ZCA), (.ref w_ZCO), (.ref w_OPTIONAL_LDZ_TARIFF), (.ref w_CCA), (.ref w_CFI), (.ref w_CSEP_LDZ_CAPACITY), (.ref w_CSEP_LDZ_COMMODITY), .null, .null, .null, .null, .null, .null] .null := Arv.set Ar_b1_47 q_b1_47 S_b1_47 N_b1_47 H_b1_47 G_b1_47 rfl W15 6 rfl (Nat.le_of_ble_eq_true rfl)
  have Ec15 := own_extW Ec13 g1 W15
  have N15 := Fr.snoc X15 N13 gb1
  obtain ⟨T16, X16, e16, st16⟩ := getS2 X15 hx hZ hown (host := "") (Or.inl (hw _ (List.mem_of_getElem? (i := 18) rfl))) Via.refl e15 (S_CSEP_ADMINISTRATION.ext Ec15) (g := (mkF m 51 #[.val (.int p1), .unset, .unset, .unset, .unset] [(.int (7 : Int32)), (.ref b1), (.ref b1)])) rfl (hb hby at_51)
  obtain ⟨cl_b1_54, Ar_b1_54, q_b1_54, S_b1_54, N_b1_54, H_b1_54, G_b1_54⟩ := V_b1_15
  have hin54 : ¬ ((7 : Int32) < 0 ∨ cl_b1_54.slots.size ≤ ((7 : Int32)).toNatClampNeg) := inb_of S_b1_54 ⟨by decide, by decide⟩
  obtain ⟨T17, h17, X17, e17, W17, st17⟩ := stR X16 hx hZ e16 Ar_b1_54 (j := (7 : Int32)) hin54 rfl (Sto.ofV Ar_b1_54 q_b1_54 O1 (Ins.self (E_CSEP_ADMINISTRATION.ext Ec15))) (g := (mkF m 54 #[.val (.int p1), .unset, .unset, .unset, .unset] [(.ref w_CSEP_ADMINISTRATION), (.int (7 : Int32)), (.ref b1), (.ref b1)])) rfl rfl (hb hby at_54)
  have V_b1_17 : Arv Z h17 b1 k1 (.object "com/example/aq_to_pence/aqtopence/ChargeCode") (13 : Int32) [(.ref w_ZCA), (.ref w_ZCO), (.ref w_OPTIONAL_LDZ_TARIFF), (.ref w_CCA), (.ref w_CFI), (.ref w_CSEP_LDZ_CAPACITY), (.ref w_CSEP_LDZ_COMMODITY), (.ref w_CSEP_ADMINISTRATION), .null, .null, .null, .null, .null] .null := Arv.set Ar_b1_54 q_b1_54 S_b1_54 N_b1_54 H_b1_54 G_b1_54 rfl W17 7 rfl (Nat.le_of_ble_eq_true rfl)
  have Ec17 := own_extW Ec15 g1 W17
  have N17 := Fr.snoc X17 N15 gb1
  obtain ⟨T18, X18, e18, st18⟩ := getS2 X17 hx hZ hown (host := "") (Or.inl (hw _ (List.mem_of_getElem? (i := 20) rfl))) Via.refl e17 (S_DAILY_METERED_CSEP_ADMINISTRATION.ext Ec17) (g := (mkF m 58 #[.val (.int p1), .unset, .unset, .unset, .unset] [(.int (8 : Int32)), (.ref b1), (.ref b1)])) rfl (hb hby at_58)
  obtain ⟨cl_b1_61, Ar_b1_61, q_b1_61, S_b1_61, N_b1_61, H_b1_61, G_b1_61⟩ := V_b1_17
  have hin61 : ¬ ((8 : Int32) < 0 ∨ cl_b1_61.slots.size ≤ ((8 : Int32)).toNatClampNeg) := inb_of S_b1_61 ⟨by decide, by decide⟩
  obtain ⟨T19, h19, X19, e19, W19, st19⟩ := stR X18 hx hZ e18 Ar_b1_61 (j := (8 : Int32)) hin61 rfl (Sto.ofV Ar_b1_61 q_b1_61 O1 (Ins.self (E_DAILY_METERED_CSEP_ADMINISTRATION.ext Ec17))) (g := (mkF m 61 #[.val (.int p1), .unset, .unset, .unset, .unset] [(.ref w_DAILY_METERED_CSEP_ADMINISTRATION), (.int (8 : Int32)), (.ref b1), (.ref b1)])) rfl rfl (hb hby at_61)
  have V_b1_19 : Arv Z h19 b1 k1 (.object "com/example/aq_to_pence/aqtopence/ChargeCode") (13 : Int32) [(.ref w_ZCA), (.ref w_ZCO), (.ref w_OPTIONAL_LDZ_TARIFF), (.ref w_CCA), (.ref w_CFI), (.ref w_CSEP_LDZ_CAPACITY), (.ref w_CSEP_LDZ_COMMODITY), (.ref w_CSEP_ADMINISTRATION), (.ref w_DAILY_METERED_CSEP_ADMINISTRATION), .null, .null, .null, .null] .null := Arv.set Ar_b1_61 q_b1_61 S_b1_61 N_b1_61 H_b1_61 G_b1_61 rfl W19 8 rfl (Nat.le_of_ble_eq_true rfl)
  have Ec19 := own_extW Ec17 g1 W19
  have N19 := Fr.snoc X19 N17 gb1
  obtain ⟨T20, X20, e20, st20⟩ := getS2 X19 hx hZ hown (host := "") (Or.inl (hw _ (List.mem_of_getElem? (i := 22) rfl))) Via.refl e19 (S_ECN.ext Ec19) (g := (mkF m 65 #[.val (.int p1), .unset, .unset, .unset, .unset] [(.int (9 : Int32)), (.ref b1), (.ref b1)])) rfl (hb hby at_65)
  obtain ⟨cl_b1_68, Ar_b1_68, q_b1_68, S_b1_68, N_b1_68, H_b1_68, G_b1_68⟩ := V_b1_19
  have hin68 : ¬ ((9 : Int32) < 0 ∨ cl_b1_68.slots.size ≤ ((9 : Int32)).toNatClampNeg) := inb_of S_b1_68 ⟨by decide, by decide⟩
  obtain ⟨T21, h21, X21, e21, W21, st21⟩ := stR X20 hx hZ e20 Ar_b1_68 (j := (9 : Int32)) hin68 rfl (Sto.ofV Ar_b1_68 q_b1_68 O1 (Ins.self (E_ECN.ext Ec19))) (g := (mkF m 68 #[.val (.int p1), .unset, .unset, .unset, .unset] [(.ref w_ECN), (.int (9 : Int32)), (.ref b1), (.ref b1)])) rfl rfl (hb hby at_68)
  have V_b1_21 : Arv Z h21 b1 k1 (.object "com/example/aq_to_pence/aqtopence/ChargeCode") (13 : Int32) [(.ref w_ZCA), (.ref w_ZCO), (.ref w_OPTIONAL_LDZ_TARIFF), (.ref w_CCA), (.ref w_CFI), (.ref w_CSEP_LDZ_CAPACITY), (.ref w_CSEP_LDZ_COMMODITY), (.ref w_CSEP_ADMINISTRATION), (.ref w_DAILY_METERED_CSEP_ADMINISTRATION), (.ref w_ECN), .null, .null, .null] .null := Arv.set Ar_b1_68 q_b1_68 S_b1_68 N_b1_68 H_b1_68 G_b1_68 rfl W21 9 rfl (Nat.le_of_ble_eq_true rfl)
  have Ec21 := own_extW Ec19 g1 W21
  have N21 := Fr.snoc X21 N19 gb1
  obtain ⟨T22, X22, e22, st22⟩ := getS2 X21 hx hZ hown (host := "") (Or.inl (hw _ (List.mem_of_getElem? (i := 24) rfl))) Via.refl e21 (S_C04.ext Ec21) (g := (mkF m 72 #[.val (.int p1), .unset, .unset, .unset, .unset] [(.int (10 : Int32)), (.ref b1), (.ref b1)])) rfl (hb hby at_72)
  obtain ⟨cl_b1_75, Ar_b1_75, q_b1_75, S_b1_75, N_b1_75, H_b1_75, G_b1_75⟩ := V_b1_21
  have hin75 : ¬ ((10 : Int32) < 0 ∨ cl_b1_75.slots.size ≤ ((10 : Int32)).toNatClampNeg) := inb_of S_b1_75 ⟨by decide, by decide⟩
  obtain ⟨T23, h23, X23, e23, W23, st23⟩ := stR X22 hx hZ e22 Ar_b1_75 (j := (10 : Int32)) hin75 rfl (Sto.ofV Ar_b1_75 q_b1_75 O1 (Ins.self (E_C04.ext Ec21))) (g := (mkF m 75 #[.val (.int p1), .unset, .unset, .unset, .unset] [(.ref w_C04), (.int (10 : Int32)), (.ref b1), (.ref b1)])) rfl rfl (hb hby at_75)
  have V_b1_23 : Arv Z h23 b1 k1 (.object "com/example/aq_to_pence/aqtopence/ChargeCode") (13 : Int32) [(.ref w_ZCA), (.ref w_ZCO), (.ref w_OPTIONAL_LDZ_TARIFF), (.ref w_CCA), (.ref w_CFI), (.ref w_CSEP_LDZ_CAPACITY), (.ref w_CSEP_LDZ_COMMODITY), (.ref w_CSEP_ADMINISTRATION), (.ref w_DAILY_METERED_CSEP_ADMINISTRATION), (.ref w_ECN), (.ref w_C04), .null, .null] .null := Arv.set Ar_b1_75 q_b1_75 S_b1_75 N_b1_75 H_b1_75 G_b1_75 rfl W23 10 rfl (Nat.le_of_ble_eq_true rfl)
  have Ec23 := own_extW Ec21 g1 W23
  have N23 := Fr.snoc X23 N21 gb1
  obtain ⟨T24, X24, e24, st24⟩ := getS2 X23 hx hZ hown (host := "") (Or.inl (hw _ (List.mem_of_getElem? (i := 26) rfl))) Via.refl e23 (S_LRD.ext Ec23) (g := (mkF m 79 #[.val (.int p1), .unset, .unset, .unset, .unset] [(.int (11 : Int32)), (.ref b1), (.ref b1)])) rfl (hb hby at_79)
  obtain ⟨cl_b1_82, Ar_b1_82, q_b1_82, S_b1_82, N_b1_82, H_b1_82, G_b1_82⟩ := V_b1_23
  have hin82 : ¬ ((11 : Int32) < 0 ∨ cl_b1_82.slots.size ≤ ((11 : Int32)).toNatClampNeg) := inb_of S_b1_82 ⟨by decide, by decide⟩
  obtain ⟨T25, h25, X25, e25, W25, st25⟩ := stR X24 hx hZ e24 Ar_b1_82 (j := (11 : Int32)) hin82 rfl (Sto.ofV Ar_b1_82 q_b1_82 O1 (Ins.self (E_LRD.ext Ec23))) (g := (mkF m 82 #[.val (.int p1), .unset, .unset, .unset, .unset] [(.ref w_LRD), (.int (11 : Int32)), (.ref b1), (.ref b1)])) rfl rfl (hb hby at_82)
  have V_b1_25 : Arv Z h25 b1 k1 (.object "com/example/aq_to_pence/aqtopence/ChargeCode") (13 : Int32) [(.ref w_ZCA), (.ref w_ZCO), (.ref w_OPTIONAL_LDZ_TARIFF), (.ref w_CCA), (.ref w_CFI), (.ref w_CSEP_LDZ_CAPACITY), (.ref w_CSEP_LDZ_COMMODITY), (.ref w_CSEP_ADMINISTRATION), (.ref w_DAILY_METERED_CSEP_ADMINISTRATION), (.ref w_ECN), (.ref w_C04), (.ref w_LRD), .null] .null := Arv.set Ar_b1_82 q_b1_82 S_b1_82 N_b1_82 H_b1_82 G_b1_82 rfl W25 11 rfl (Nat.le_of_ble_eq_true rfl)
  have Ec25 := own_extW Ec23 g1 W25
  have N25 := Fr.snoc X25 N23 gb1
  obtain ⟨T26, X26, e26, st26⟩ := getS2 X25 hx hZ hown (host := "") (Or.inl (hw _ (List.mem_of_getElem? (i := 28) rfl))) Via.refl e25 (S_LRI.ext Ec25) (g := (mkF m 86 #[.val (.int p1), .unset, .unset, .unset, .unset] [(.int (12 : Int32)), (.ref b1), (.ref b1)])) rfl (hb hby at_86)
  obtain ⟨cl_b1_89, Ar_b1_89, q_b1_89, S_b1_89, N_b1_89, H_b1_89, G_b1_89⟩ := V_b1_25
  have hin89 : ¬ ((12 : Int32) < 0 ∨ cl_b1_89.slots.size ≤ ((12 : Int32)).toNatClampNeg) := inb_of S_b1_89 ⟨by decide, by decide⟩
  obtain ⟨T27, h27, X27, e27, W27, st27⟩ := stR X26 hx hZ e26 Ar_b1_89 (j := (12 : Int32)) hin89 rfl (Sto.ofV Ar_b1_89 q_b1_89 O1 (Ins.self (E_LRI.ext Ec25))) (g := (mkF m 89 #[.val (.int p1), .unset, .unset, .unset, .unset] [(.ref w_LRI), (.int (12 : Int32)), (.ref b1), (.ref b1)])) rfl rfl (hb hby at_89)
  have V_b1_27 : Arv Z h27 b1 k1 (.object "com/example/aq_to_pence/aqtopence/ChargeCode") (13 : Int32) [(.ref w_ZCA), (.ref w_ZCO), (.ref w_OPTIONAL_LDZ_TARIFF), (.ref w_CCA), (.ref w_CFI), (.ref w_CSEP_LDZ_CAPACITY), (.ref w_CSEP_LDZ_COMMODITY), (.ref w_CSEP_ADMINISTRATION), (.ref w_DAILY_METERED_CSEP_ADMINISTRATION), (.ref w_ECN), (.ref w_C04), (.ref w_LRD), (.ref w_LRI)] .null := Arv.set Ar_b1_89 q_b1_89 S_b1_89 N_b1_89 H_b1_89 G_b1_89 rfl W27 12 rfl (Nat.le_of_ble_eq_true rfl)
  have Ec27 := own_extW Ec25 g1 W27
  have N27 := Fr.snoc X27 N25 gb1
  obtain ⟨cl_b1_101, Ar_b1_101, q_b1_101, S_b1_101, N_b1_101, H_b1_101, G_b1_101⟩ := V_b1_27
  have hin_b1_101 : ¬ (((p1 &&& (2147483647 : Int32)) % (13 : Int32)) < 0 ∨ cl_b1_101.slots.size ≤ (((p1 &&& (2147483647 : Int32)) % (13 : Int32))).toNatClampNeg) := inb_of S_b1_101 ⟨hj0, hj1⟩
  have hat_b1_101 : cl_b1_101.slots[(((p1 &&& (2147483647 : Int32)) % (13 : Int32))).toNatClampNeg]? = some (.ref f) := Has.at H_b1_101 hin_b1_101 hf
  obtain ⟨T28, X28, e28, st28⟩ := getS2 X27 hx hZ hown (host := "") (Or.inl (hw _ (List.mem_of_getElem? (i := 26) rfl))) Via.refl e27 (S_LRD.ext Ec27) (g := (mkF m 104 #[.val (.int p1), .val (.ref b1), .val (.int ((p1 &&& (2147483647 : Int32)) % (13 : Int32))), .val (.ref f), .unset] [(.ref f)])) rfl (hb hby at_104)
  obtain ⟨T29, X29, e29, st29⟩ := getS2 X28 hx hZ hown (host := "") (Or.inl (hw _ (List.mem_of_getElem? (i := 28) rfl))) Via.refl e28 (S_LRI.ext Ec27) (g := (mkF m 111 #[.val (.int p1), .val (.ref b1), .val (.int ((p1 &&& (2147483647 : Int32)) % (13 : Int32))), .val (.ref f), .unset] [(.ref f)])) rfl (hb hby at_111)
  obtain ⟨cq30, kq30, q30a, q30b, q30c⟩ := isOf hZ e29 (E_f.ext Ec27)
  obtain ⟨_, _, ⟨T30, L30, k30, n30⟩, -, X30, ⟨Lc30, hQ30, l30, y30, z30⟩, st30⟩ := X29.virtualBack hx (y := (⟨"com/example/aq_to_pence/aqtopence/ChargeCode", "bySector", "()Z"⟩ : MethodName)) (z := (⟨"com/example/aq_to_pence/aqtopence/ChargeCode", "bySector", "()Z"⟩ : MethodName)) hown (mvT hZ (hw _ (List.mem_of_getElem? (i := 31) rfl))) (mvT hZ (hw _ (List.mem_of_getElem? (i := 32) rfl))) (notFace_of_selects (args := #[]) (mvT hZ (hw _ (List.mem_of_getElem? (i := 34) rfl)))) (mvT hZ (hw _ (List.mem_of_getElem? (i := 34) rfl))) (mvT hZ (hw _ (List.mem_of_getElem? (i := 33) rfl))) (by decide) (backOf (W := 0) (rm1 l Z a0 hw [] f sv h27 n0 (Nat.le_trans Z0 Ec27.1) (F_f.ext Ec27) z hz) hZ (hw _ (List.mem_of_getElem? (i := 35) rfl)) (hw _ (List.mem_of_getElem? (i := 3) rfl)) (by decide) (by decide)) q30a q30c (g := (mkF m 125 #[.val (.int p1), .val (.ref b1), .val (.int ((p1 &&& (2147483647 : Int32)) % (13 : Int32))), .val (.ref f), .val (.int (0 : Int32))] [(.ref f)])) rfl (by rw [hml]; rfl) (Steps.refl _) (argsL := []) (rest := []) (lenOf pdm_0 rfl) rfl (by show 2 * 0 + _ ≤ _; exact Nat.le_of_eq rfl) (hb hby at_125) (fun _ _ => ⟨rfl, e29, (by decide : 1 + 0 ≤ _), (by decide : 13 + 0 ≤ _)⟩)
  dsimp only [Pt.U, Pt.locs, Pt.cells, Pt.slots] at X30 l30 y30 z30 st30 hQ30
  subst l30 y30 z30
  obtain ⟨rfl, N30q, e30⟩ := hQ30
  have N30 := Fr.app N27 N30q
  obtain ⟨fs, hr, hrun, hended, hW, hsame⟩ := X30.leave (v := some (.int (1 : Int32))) (fun h => by rw [Bd.returns] at h; cases h)
  refine ⟨_, _, pre0 _ ?_, hrun, hended, _, _, rfl, ?_, ⟨_, rfl⟩, hW, hsame.mono (by decide) (by decide)⟩
  · show Steps p.tables e below (s₁.setTop (mkF m 0 #[.val (.int p1), .unset, .unset, .unset, .unset] [])) _
    refine XS.bipush X0.here hx rfl (hb hby at_0) ?_
    show Steps p.tables e below (s₁.setTop (mkF m 2 #[.val (.int p1), .unset, .unset, .unset, .unset] [(.int (13 : Int32))])) _
    refine st1 _ ?_
    show Steps p.tables e below (T1.setTop (mkF m 5 #[.val (.int p1), .unset, .unset, .unset, .unset] [(.ref b1)])) _
    refine XS.dup X1.here hx rfl (hb hby at_5) rfl rfl ?_
    show Steps p.tables e below (T1.setTop (mkF m 6 #[.val (.int p1), .unset, .unset, .unset, .unset] [(.ref b1), (.ref b1)])) _
    refine XS.iconst X1.here hx rfl (hb hby at_6) ?_
    show Steps p.tables e below (T1.setTop (mkF m 7 #[.val (.int p1), .unset, .unset, .unset, .unset] [(.int (0 : Int32)), (.ref b1), (.ref b1)])) _
    refine st2 _ ?_
    show Steps p.tables e below (T2.setTop (mkF m 10 #[.val (.int p1), .unset, .unset, .unset, .unset] [(.ref w_ZCA), (.int (0 : Int32)), (.ref b1), (.ref b1)])) _
    refine st3 _ ?_
    show Steps p.tables e below (T3.setTop (mkF m 11 #[.val (.int p1), .unset, .unset, .unset, .unset] [(.ref b1)])) _
    refine XS.dup X3.here hx rfl (hb hby at_11) rfl rfl ?_
    show Steps p.tables e below (T3.setTop (mkF m 12 #[.val (.int p1), .unset, .unset, .unset, .unset] [(.ref b1), (.ref b1)])) _
    refine XS.iconst X3.here hx rfl (hb hby at_12) ?_
    show Steps p.tables e below (T3.setTop (mkF m 13 #[.val (.int p1), .unset, .unset, .unset, .unset] [(.int (1 : Int32)), (.ref b1), (.ref b1)])) _
    refine st4 _ ?_
    show Steps p.tables e below (T4.setTop (mkF m 16 #[.val (.int p1), .unset, .unset, .unset, .unset] [(.ref w_ZCO), (.int (1 : Int32)), (.ref b1), (.ref b1)])) _
    refine st5 _ ?_
    show Steps p.tables e below (T5.setTop (mkF m 17 #[.val (.int p1), .unset, .unset, .unset, .unset] [(.ref b1)])) _
    refine XS.dup X5.here hx rfl (hb hby at_17) rfl rfl ?_
    show Steps p.tables e below (T5.setTop (mkF m 18 #[.val (.int p1), .unset, .unset, .unset, .unset] [(.ref b1), (.ref b1)])) _
    refine XS.iconst X5.here hx rfl (hb hby at_18) ?_
    show Steps p.tables e below (T5.setTop (mkF m 19 #[.val (.int p1), .unset, .unset, .unset, .unset] [(.int (2 : Int32)), (.ref b1), (.ref b1)])) _
    refine st6 _ ?_
    show Steps p.tables e below (T6.setTop (mkF m 22 #[.val (.int p1), .unset, .unset, .unset, .unset] [(.ref w_OPTIONAL_LDZ_TARIFF), (.int (2 : Int32)), (.ref b1), (.ref b1)])) _
    refine st7 _ ?_
    show Steps p.tables e below (T7.setTop (mkF m 23 #[.val (.int p1), .unset, .unset, .unset, .unset] [(.ref b1)])) _
    refine XS.dup X7.here hx rfl (hb hby at_23) rfl rfl ?_
    show Steps p.tables e below (T7.setTop (mkF m 24 #[.val (.int p1), .unset, .unset, .unset, .unset] [(.ref b1), (.ref b1)])) _
    refine XS.iconst X7.here hx rfl (hb hby at_24) ?_
    show Steps p.tables e below (T7.setTop (mkF m 25 #[.val (.int p1), .unset, .unset, .unset, .unset] [(.int (3 : Int32)), (.ref b1), (.ref b1)])) _
    refine st8 _ ?_
    show Steps p.tables e below (T8.setTop (mkF m 28 #[.val (.int p1), .unset, .unset, .unset, .unset] [(.ref w_CCA), (.int (3 : Int32)), (.ref b1), (.ref b1)])) _
    refine st9 _ ?_
    show Steps p.tables e below (T9.setTop (mkF m 29 #[.val (.int p1), .unset, .unset, .unset, .unset] [(.ref b1)])) _
    refine XS.dup X9.here hx rfl (hb hby at_29) rfl rfl ?_
    show Steps p.tables e below (T9.setTop (mkF m 30 #[.val (.int p1), .unset, .unset, .unset, .unset] [(.ref b1), (.ref b1)])) _
    refine XS.iconst X9.here hx rfl (hb hby at_30) ?_
    show Steps p.tables e below (T9.setTop (mkF m 31 #[.val (.int p1), .unset, .unset, .unset, .unset] [(.int (4 : Int32)), (.ref b1), (.ref b1)])) _
    refine st10 _ ?_
    show Steps p.tables e below (T10.setTop (mkF m 34 #[.val (.int p1), .unset, .unset, .unset, .unset] [(.ref w_CFI), (.int (4 : Int32)), (.ref b1), (.ref b1)])) _
    refine st11 _ ?_
    show Steps p.tables e below (T11.setTop (mkF m 35 #[.val (.int p1), .unset, .unset, .unset, .unset] [(.ref b1)])) _
    refine XS.dup X11.here hx rfl (hb hby at_35) rfl rfl ?_
    show Steps p.tables e below (T11.setTop (mkF m 36 #[.val (.int p1), .unset, .unset, .unset, .unset] [(.ref b1), (.ref b1)])) _
    refine XS.iconst X11.here hx rfl (hb hby at_36) ?_
    show Steps p.tables e below (T11.setTop (mkF m 37 #[.val (.int p1), .unset, .unset, .unset, .unset] [(.int (5 : Int32)), (.ref b1), (.ref b1)])) _
    refine st12 _ ?_
    show Steps p.tables e below (T12.setTop (mkF m 40 #[.val (.int p1), .unset, .unset, .unset, .unset] [(.ref w_CSEP_LDZ_CAPACITY), (.int (5 : Int32)), (.ref b1), (.ref b1)])) _
    refine st13 _ ?_
    show Steps p.tables e below (T13.setTop (mkF m 41 #[.val (.int p1), .unset, .unset, .unset, .unset] [(.ref b1)])) _
    refine XS.dup X13.here hx rfl (hb hby at_41) rfl rfl ?_
    show Steps p.tables e below (T13.setTop (mkF m 42 #[.val (.int p1), .unset, .unset, .unset, .unset] [(.ref b1), (.ref b1)])) _
    refine XS.bipush X13.here hx rfl (hb hby at_42) ?_
    show Steps p.tables e below (T13.setTop (mkF m 44 #[.val (.int p1), .unset, .unset, .unset, .unset] [(.int (6 : Int32)), (.ref b1), (.ref b1)])) _
    refine st14 _ ?_
    show Steps p.tables e below (T14.setTop (mkF m 47 #[.val (.int p1), .unset, .unset, .unset, .unset] [(.ref w_CSEP_LDZ_COMMODITY), (.int (6 : Int32)), (.ref b1), (.ref b1)])) _
    refine st15 _ ?_
    show Steps p.tables e below (T15.setTop (mkF m 48 #[.val (.int p1), .unset, .unset, .unset, .unset] [(.ref b1)])) _
    refine XS.dup X15.here hx rfl (hb hby at_48) rfl rfl ?_
    show Steps p.tables e below (T15.setTop (mkF m 49 #[.val (.int p1), .unset, .unset, .unset, .unset] [(.ref b1), (.ref b1)])) _
    refine XS.bipush X15.here hx rfl (hb hby at_49) ?_
    show Steps p.tables e below (T15.setTop (mkF m 51 #[.val (.int p1), .unset, .unset, .unset, .unset] [(.int (7 : Int32)), (.ref b1), (.ref b1)])) _
    refine st16 _ ?_
    show Steps p.tables e below (T16.setTop (mkF m 54 #[.val (.int p1), .unset, .unset, .unset, .unset] [(.ref w_CSEP_ADMINISTRATION), (.int (7 : Int32)), (.ref b1), (.ref b1)])) _
    refine st17 _ ?_
    show Steps p.tables e below (T17.setTop (mkF m 55 #[.val (.int p1), .unset, .unset, .unset, .unset] [(.ref b1)])) _
    refine XS.dup X17.here hx rfl (hb hby at_55) rfl rfl ?_
    show Steps p.tables e below (T17.setTop (mkF m 56 #[.val (.int p1), .unset, .unset, .unset, .unset] [(.ref b1), (.ref b1)])) _
    refine XS.bipush X17.here hx rfl (hb hby at_56) ?_
    show Steps p.tables e below (T17.setTop (mkF m 58 #[.val (.int p1), .unset, .unset, .unset, .unset] [(.int (8 : Int32)), (.ref b1), (.ref b1)])) _
    refine st18 _ ?_
    show Steps p.tables e below (T18.setTop (mkF m 61 #[.val (.int p1), .unset, .unset, .unset, .unset] [(.ref w_DAILY_METERED_CSEP_ADMINISTRATION), (.int (8 : Int32)), (.ref b1), (.ref b1)])) _
    refine st19 _ ?_
    show Steps p.tables e below (T19.setTop (mkF m 62 #[.val (.int p1), .unset, .unset, .unset, .unset] [(.ref b1)])) _
    refine XS.dup X19.here hx rfl (hb hby at_62) rfl rfl ?_
    show Steps p.tables e below (T19.setTop (mkF m 63 #[.val (.int p1), .unset, .unset, .unset, .unset] [(.ref b1), (.ref b1)])) _
    refine XS.bipush X19.here hx rfl (hb hby at_63) ?_
    show Steps p.tables e below (T19.setTop (mkF m 65 #[.val (.int p1), .unset, .unset, .unset, .unset] [(.int (9 : Int32)), (.ref b1), (.ref b1)])) _
    refine st20 _ ?_
    show Steps p.tables e below (T20.setTop (mkF m 68 #[.val (.int p1), .unset, .unset, .unset, .unset] [(.ref w_ECN), (.int (9 : Int32)), (.ref b1), (.ref b1)])) _
    refine st21 _ ?_
    show Steps p.tables e below (T21.setTop (mkF m 69 #[.val (.int p1), .unset, .unset, .unset, .unset] [(.ref b1)])) _
    refine XS.dup X21.here hx rfl (hb hby at_69) rfl rfl ?_
    show Steps p.tables e below (T21.setTop (mkF m 70 #[.val (.int p1), .unset, .unset, .unset, .unset] [(.ref b1), (.ref b1)])) _
    refine XS.bipush X21.here hx rfl (hb hby at_70) ?_
    show Steps p.tables e below (T21.setTop (mkF m 72 #[.val (.int p1), .unset, .unset, .unset, .unset] [(.int (10 : Int32)), (.ref b1), (.ref b1)])) _
    refine st22 _ ?_
    show Steps p.tables e below (T22.setTop (mkF m 75 #[.val (.int p1), .unset, .unset, .unset, .unset] [(.ref w_C04), (.int (10 : Int32)), (.ref b1), (.ref b1)])) _
    refine st23 _ ?_
    show Steps p.tables e below (T23.setTop (mkF m 76 #[.val (.int p1), .unset, .unset, .unset, .unset] [(.ref b1)])) _
    refine XS.dup X23.here hx rfl (hb hby at_76) rfl rfl ?_
    show Steps p.tables e below (T23.setTop (mkF m 77 #[.val (.int p1), .unset, .unset, .unset, .unset] [(.ref b1), (.ref b1)])) _
    refine XS.bipush X23.here hx rfl (hb hby at_77) ?_
    show Steps p.tables e below (T23.setTop (mkF m 79 #[.val (.int p1), .unset, .unset, .unset, .unset] [(.int (11 : Int32)), (.ref b1), (.ref b1)])) _
    refine st24 _ ?_
    show Steps p.tables e below (T24.setTop (mkF m 82 #[.val (.int p1), .unset, .unset, .unset, .unset] [(.ref w_LRD), (.int (11 : Int32)), (.ref b1), (.ref b1)])) _
    refine st25 _ ?_
    show Steps p.tables e below (T25.setTop (mkF m 83 #[.val (.int p1), .unset, .unset, .unset, .unset] [(.ref b1)])) _
    refine XS.dup X25.here hx rfl (hb hby at_83) rfl rfl ?_
    show Steps p.tables e below (T25.setTop (mkF m 84 #[.val (.int p1), .unset, .unset, .unset, .unset] [(.ref b1), (.ref b1)])) _
    refine XS.bipush X25.here hx rfl (hb hby at_84) ?_
    show Steps p.tables e below (T25.setTop (mkF m 86 #[.val (.int p1), .unset, .unset, .unset, .unset] [(.int (12 : Int32)), (.ref b1), (.ref b1)])) _
    refine st26 _ ?_
    show Steps p.tables e below (T26.setTop (mkF m 89 #[.val (.int p1), .unset, .unset, .unset, .unset] [(.ref w_LRI), (.int (12 : Int32)), (.ref b1), (.ref b1)])) _
    refine st27 _ ?_
    show Steps p.tables e below (T27.setTop (mkF m 90 #[.val (.int p1), .unset, .unset, .unset, .unset] [(.ref b1)])) _
    refine XS.astoreN X27.here hx rfl (hb hby at_90) rfl rfl (l' := #[.val (.int p1), .val (.ref b1), .unset, .unset, .unset]) rfl ?_
    show Steps p.tables e below (T27.setTop (mkF m 91 #[.val (.int p1), .val (.ref b1), .unset, .unset, .unset] [])) _
    refine XS.iloadN X27.here hx rfl (hb hby at_91) rfl ?_
    show Steps p.tables e below (T27.setTop (mkF m 92 #[.val (.int p1), .val (.ref b1), .unset, .unset, .unset] [(.int p1)])) _
    refine X27.ldcInt hx hown (mvT hZ (hw _ (List.mem_of_getElem? (i := 30) rfl))) (g := (mkF m 92 #[.val (.int p1), .val (.ref b1), .unset, .unset, .unset] [(.int p1)])) rfl (hb hby at_92) _ ?_
    show Steps p.tables e below (T27.setTop (mkF m 94 #[.val (.int p1), .val (.ref b1), .unset, .unset, .unset] [(.int (2147483647 : Int32)), (.int p1)])) _
    refine XS.iand X27.here hx rfl (hb hby at_94) rfl ?_
    show Steps p.tables e below (T27.setTop (mkF m 95 #[.val (.int p1), .val (.ref b1), .unset, .unset, .unset] [(.int (p1 &&& (2147483647 : Int32)))])) _
    refine XS.bipush X27.here hx rfl (hb hby at_95) ?_
    show Steps p.tables e below (T27.setTop (mkF m 97 #[.val (.int p1), .val (.ref b1), .unset, .unset, .unset] [(.int (13 : Int32)), (.int (p1 &&& (2147483647 : Int32)))])) _
    refine iremM X27 hx rfl (hb hby at_97) rfl (by decide) ?_
    show Steps p.tables e below (T27.setTop (mkF m 98 #[.val (.int p1), .val (.ref b1), .unset, .unset, .unset] [(.int ((p1 &&& (2147483647 : Int32)) % (13 : Int32)))])) _
    refine XS.istoreN X27.here hx rfl (hb hby at_98) rfl (l' := #[.val (.int p1), .val (.ref b1), .val (.int ((p1 &&& (2147483647 : Int32)) % (13 : Int32))), .unset, .unset]) rfl ?_
    show Steps p.tables e below (T27.setTop (mkF m 99 #[.val (.int p1), .val (.ref b1), .val (.int ((p1 &&& (2147483647 : Int32)) % (13 : Int32))), .unset, .unset] [])) _
    refine XS.aloadN X27.here hx rfl (hb hby at_99) rfl rfl ?_
    show Steps p.tables e below (T27.setTop (mkF m 100 #[.val (.int p1), .val (.ref b1), .val (.int ((p1 &&& (2147483647 : Int32)) % (13 : Int32))), .unset, .unset] [(.ref b1)])) _
    refine XS.iloadN X27.here hx rfl (hb hby at_100) rfl ?_
    show Steps p.tables e below (T27.setTop (mkF m 101 #[.val (.int p1), .val (.ref b1), .val (.int ((p1 &&& (2147483647 : Int32)) % (13 : Int32))), .unset, .unset] [(.int ((p1 &&& (2147483647 : Int32)) % (13 : Int32))), (.ref b1)])) _
    refine X27.aaload hx (j := ((p1 &&& (2147483647 : Int32)) % (13 : Int32))) (v := .ref f) (by rw [e27]; exact Ar_b1_101.1) (State.isArrayOf_alike hZ.alike Ar_b1_101.2.1) rfl Ar_b1_101.2.2 hin_b1_101 hat_b1_101 (g := (mkF m 101 #[.val (.int p1), .val (.ref b1), .val (.int ((p1 &&& (2147483647 : Int32)) % (13 : Int32))), .unset, .unset] [(.int ((p1 &&& (2147483647 : Int32)) % (13 : Int32))), (.ref b1)])) rfl rfl (hb hby at_101) _ ?_
    show Steps p.tables e below (T27.setTop (mkF m 102 #[.val (.int p1), .val (.ref b1), .val (.int ((p1 &&& (2147483647 : Int32)) % (13 : Int32))), .unset, .unset] [(.ref f)])) _
    refine XS.astoreN X27.here hx rfl (hb hby at_102) rfl rfl (l' := #[.val (.int p1), .val (.ref b1), .val (.int ((p1 &&& (2147483647 : Int32)) % (13 : Int32))), .val (.ref f), .unset]) rfl ?_
    show Steps p.tables e below (T27.setTop (mkF m 103 #[.val (.int p1), .val (.ref b1), .val (.int ((p1 &&& (2147483647 : Int32)) % (13 : Int32))), .val (.ref f), .unset] [])) _
    refine XS.aloadN X27.here hx rfl (hb hby at_103) rfl rfl ?_
    show Steps p.tables e below (T27.setTop (mkF m 104 #[.val (.int p1), .val (.ref b1), .val (.int ((p1 &&& (2147483647 : Int32)) % (13 : Int32))), .val (.ref f), .unset] [(.ref f)])) _
    refine st28 _ ?_
    show Steps p.tables e below (T28.setTop (mkF m 107 #[.val (.int p1), .val (.ref b1), .val (.int ((p1 &&& (2147483647 : Int32)) % (13 : Int32))), .val (.ref f), .unset] [(.ref w_LRD), (.ref f)])) _
    refine Jvm.RoadKit.acmp (g := (mkF m 107 #[.val (.int p1), .val (.ref b1), .val (.int ((p1 &&& (2147483647 : Int32)) % (13 : Int32))), .val (.ref f), .unset] [(.ref w_LRD), (.ref f)])) X28 hx rfl rfl rfl (pc0 := 107) (pc' := 110) (same := false) rfl (hb hby at_107) rfl (decide_eq_false fun q => hc107 (Value.ref.inj q)) (by decide) (by decide) ?_
    show Steps p.tables e below (T28.setTop (mkF m 110 #[.val (.int p1), .val (.ref b1), .val (.int ((p1 &&& (2147483647 : Int32)) % (13 : Int32))), .val (.ref f), .unset] [])) _
    refine XS.aloadN X28.here hx rfl (hb hby at_110) rfl rfl ?_
    show Steps p.tables e below (T28.setTop (mkF m 111 #[.val (.int p1), .val (.ref b1), .val (.int ((p1 &&& (2147483647 : Int32)) % (13 : Int32))), .val (.ref f), .unset] [(.ref f)])) _
    refine st29 _ ?_
    show Steps p.tables e below (T29.setTop (mkF m 114 #[.val (.int p1), .val (.ref b1), .val (.int ((p1 &&& (2147483647 : Int32)) % (13 : Int32))), .val (.ref f), .unset] [(.ref w_LRI), (.ref f)])) _
    refine Jvm.RoadKit.acmp (g := (mkF m 114 #[.val (.int p1), .val (.ref b1), .val (.int ((p1 &&& (2147483647 : Int32)) % (13 : Int32))), .val (.ref f), .unset] [(.ref w_LRI), (.ref f)])) X29 hx rfl rfl rfl (pc0 := 114) (pc' := 121) (same := false) rfl (hb hby at_114) rfl (decide_eq_false fun q => hc114 (Value.ref.inj q)) (by decide) (by decide) ?_
    show Steps p.tables e below (T29.setTop (mkF m 121 #[.val (.int p1), .val (.ref b1), .val (.int ((p1 &&& (2147483647 : Int32)) % (13 : Int32))), .val (.ref f), .unset] [])) _
    refine XS.iconst X29.here hx rfl (hb hby at_121) ?_
    show Steps p.tables e below (T29.setTop (mkF m 122 #[.val (.int p1), .val (.ref b1), .val (.int ((p1 &&& (2147483647 : Int32)) % (13 : Int32))), .val (.ref f), .unset] [(.int (0 : Int32))])) _
    refine XS.istore X29.here hx rfl (hb hby at_122) rfl (l' := #[.val (.int p1), .val (.ref b1), .val (.int ((p1 &&& (2147483647 : Int32)) % (13 : Int32))), .val (.ref f), .val (.int (0 : Int32))]) rfl ?_
    show Steps p.tables e below (T29.setTop (mkF m 124 #[.val (.int p1), .val (.ref b1), .val (.int ((p1 &&& (2147483647 : Int32)) % (13 : Int32))), .val (.ref f), .val (.int (0 : Int32))] [])) _
    refine XS.aloadN X29.here hx rfl (hb hby at_124) rfl rfl ?_
    show Steps p.tables e below (T29.setTop (mkF m 125 #[.val (.int p1), .val (.ref b1), .val (.int ((p1 &&& (2147483647 : Int32)) % (13 : Int32))), .val (.ref f), .val (.int (0 : Int32))] [(.ref f)])) _
    refine st30.trans ?_
    show Steps p.tables e below (T30.setTop (mkF m 128 #[.val (.int p1), .val (.ref b1), .val (.int ((p1 &&& (2147483647 : Int32)) % (13 : Int32))), .val (.ref f), .val (.int (0 : Int32))] [(.int z)])) _
    refine XS.iload X30.here hx rfl (hb hby at_128) rfl ?_
    show Steps p.tables e below (T30.setTop (mkF m 130 #[.val (.int p1), .val (.ref b1), .val (.int ((p1 &&& (2147483647 : Int32)) % (13 : Int32))), .val (.ref f), .val (.int (0 : Int32))] [(.int (0 : Int32)), (.int z)])) _
    refine XS.icmpNo X30.here hx rfl (hb hby at_130) rfl (teq (hz3 hc107 hc114)).2 ?_
    show Steps p.tables e below (T30.setTop (mkF m 133 #[.val (.int p1), .val (.ref b1), .val (.int ((p1 &&& (2147483647 : Int32)) % (13 : Int32))), .val (.ref f), .val (.int (0 : Int32))] [])) _
    refine XS.iconst X30.here hx rfl (hb hby at_133) ?_
    show Steps p.tables e below (T30.setTop (mkF m 134 #[.val (.int p1), .val (.ref b1), .val (.int ((p1 &&& (2147483647 : Int32)) % (13 : Int32))), .val (.ref f), .val (.int (0 : Int32))] [(.int (1 : Int32))])) _
    refine XS.goto X30.here hx rfl (pc0 := 134) (pc' := 138) rfl (hb hby at_134) (by decide) (by decide) ?_
    show Steps p.tables e below (T30.setTop (mkF m 138 #[.val (.int p1), .val (.ref b1), .val (.int ((p1 &&& (2147483647 : Int32)) % (13 : Int32))), .val (.ref f), .val (.int (0 : Int32))] [(.int (1 : Int32))])) _
    exact retN X30 hx (t := .boolean) Bd.returns (by simp) (hb hby at_138) hr
  · show QL (.int (1 : Int32)) n0 _ T30.heap _
    exact ⟨rfl, N30, trivial⟩
set_option maxRecDepth 65536 in
set_option maxHeartbeats 40000000 in
theorem rm0_ff (l : Launch) (Z : State) (a0 : Array Value) (hw : ∀ d ∈ tables_1, d.before a0 Z = true) (ws : List Jvm.Cond) (p1 : Int32) (w_ZCA : Addr) (w_ZCO : Addr) (w_OPTIONAL_LDZ_TARIFF : Addr) (w_CCA : Addr) (w_CFI : Addr) (w_CSEP_LDZ_CAPACITY : Addr) (w_CSEP_LDZ_COMMODITY : Addr) (w_CSEP_ADMINISTRATION : Addr) (w_DAILY_METERED_CSEP_ADMINISTRATION : Addr) (w_ECN : Addr) (w_C04 : Addr) (w_LRD : Addr) (w_LRI : Addr) (f : Addr) (sv : Value) (z : Int32) (h0 : Heap) (n0 : Nat) (Z0 : n0 ≤ h0.size) (S_ZCA : Sta Z h0 "com/example/aq_to_pence/aqtopence/ChargeCode" "ZCA" "Lcom/example/aq_to_pence/aqtopence/ChargeCode;" (.ref w_ZCA)) (S_ZCO : Sta Z h0 "com/example/aq_to_pence/aqtopence/ChargeCode" "ZCO" "Lcom/example/aq_to_pence/aqtopence/ChargeCode;" (.ref w_ZCO)) (S_OPTIONAL_LDZ_TARIFF : Sta Z h0 "com/example/aq_to_pence/aqtopence/ChargeCode" "OPTIONAL_LDZ_TARIFF" "Lcom/example/aq_to_pence/aqtopence/ChargeCode;" (.ref w_OPTIONAL_LDZ_TARIFF)) (S_CCA : Sta Z h0 "com/example/aq_to_pence/aqtopence/ChargeCode" "CCA" "Lcom/example/aq_to_pence/aqtopence/ChargeCode;" (.ref w_CCA)) (S_CFI : Sta Z h0 "com/example/aq_to_pence/aqtopence/ChargeCode" "CFI" "Lcom/example/aq_to_pence/aqtopence/ChargeCode;" (.ref w_CFI)) (S_CSEP_LDZ_CAPACITY : Sta Z h0 "com/example/aq_to_pence/aqtopence/ChargeCode" "CSEP_LDZ_CAPACITY" "Lcom/example/aq_to_pence/aqtopence/ChargeCode;" (.ref w_CSEP_LDZ_CAPACITY)) (S_CSEP_LDZ_COMMODITY : Sta Z h0 "com/example/aq_to_pence/aqtopence/ChargeCode" "CSEP_LDZ_COMMODITY" "Lcom/example/aq_to_pence/aqtopence/ChargeCode;" (.ref w_CSEP_LDZ_COMMODITY)) (S_CSEP_ADMINISTRATION : Sta Z h0 "com/example/aq_to_pence/aqtopence/ChargeCode" "CSEP_ADMINISTRATION" "Lcom/example/aq_to_pence/aqtopence/ChargeCode;" (.ref w_CSEP_ADMINISTRATION)) (S_DAILY_METERED_CSEP_ADMINISTRATION : Sta Z h0 "com/example/aq_to_pence/aqtopence/ChargeCode" "DAILY_METERED_CSEP_ADMINISTRATION" "Lcom/example/aq_to_pence/aqtopence/ChargeCode;" (.ref w_DAILY_METERED_CSEP_ADMINISTRATION)) (S_ECN : Sta Z h0 "com/example/aq_to_pence/aqtopence/ChargeCode" "ECN" "Lcom/example/aq_to_pence/aqtopence/ChargeCode;" (.ref w_ECN)) (S_C04 : Sta Z h0 "com/example/aq_to_pence/aqtopence/ChargeCode" "C04" "Lcom/example/aq_to_pence/aqtopence/ChargeCode;" (.ref w_C04)) (S_LRD : Sta Z h0 "com/example/aq_to_pence/aqtopence/ChargeCode" "LRD" "Lcom/example/aq_to_pence/aqtopence/ChargeCode;" (.ref w_LRD)) (S_LRI : Sta Z h0 "com/example/aq_to_pence/aqtopence/ChargeCode" "LRI" "Lcom/example/aq_to_pence/aqtopence/ChargeCode;" (.ref w_LRI)) (E_ZCA : Exa Z h0 w_ZCA "com/example/aq_to_pence/aqtopence/ChargeCode") (E_ZCO : Exa Z h0 w_ZCO "com/example/aq_to_pence/aqtopence/ChargeCode") (E_OPTIONAL_LDZ_TARIFF : Exa Z h0 w_OPTIONAL_LDZ_TARIFF "com/example/aq_to_pence/aqtopence/ChargeCode") (E_CCA : Exa Z h0 w_CCA "com/example/aq_to_pence/aqtopence/ChargeCode") (E_CFI : Exa Z h0 w_CFI "com/example/aq_to_pence/aqtopence/ChargeCode") (E_CSEP_LDZ_CAPACITY : Exa Z h0 w_CSEP_LDZ_CAPACITY "com/example/aq_to_pence/aqtopence/ChargeCode") (E_CSEP_LDZ_COMMODITY : Exa Z h0 w_CSEP_LDZ_COMMODITY "com/example/aq_to_pence/aqtopence/ChargeCode") (E_CSEP_ADMINISTRATION : Exa Z h0 w_CSEP_ADMINISTRATION "com/example/aq_to_pence/aqtopence/ChargeCode") (E_DAILY_METERED_CSEP_ADMINISTRATION : Exa Z h0 w_DAILY_METERED_CSEP_ADMINISTRATION "com/example/aq_to_pence/aqtopence/ChargeCode") (E_ECN : Exa Z h0 w_ECN "com/example/aq_to_pence/aqtopence/ChargeCode") (E_C04 : Exa Z h0 w_C04 "com/example/aq_to_pence/aqtopence/ChargeCode") (E_LRD : Exa Z h0 w_LRD "com/example/aq_to_pence/aqtopence/ChargeCode") (E_LRI : Exa Z h0 w_LRI "com/example/aq_to_pence/aqtopence/ChargeCode") (E_f : Exa Z h0 f "com/example/aq_to_pence/aqtopence/ChargeCode") (F_f : Fld Z h0 f "com/example/aq_to_pence/aqtopence/ChargeCode" "sector" "Lcom/example/aq_to_pence/aqtopence/Sector;" sv) (hz : (sv = .null ∧ z = (0 : Int32)) ∨ (∃ w : Addr, sv = .ref w ∧ z = (1 : Int32))) (hj0 : ¬ ((p1 &&& (2147483647 : Int32)) % (13 : Int32)) < 0) (hj1 : ((p1 &&& (2147483647 : Int32)) % (13 : Int32)) < (13 : Int32)) (hf : ([(.ref w_ZCA), (.ref w_ZCO), (.ref w_OPTIONAL_LDZ_TARIFF), (.ref w_CCA), (.ref w_CFI), (.ref w_CSEP_LDZ_CAPACITY), (.ref w_CSEP_LDZ_COMMODITY), (.ref w_CSEP_ADMINISTRATION), (.ref w_DAILY_METERED_CSEP_ADMINISTRATION), (.ref w_ECN), (.ref w_C04), (.ref w_LRD), (.ref w_LRI)] : List Value).getD (((p1 &&& (2147483647 : Int32)) % (13 : Int32))).toNatClampNeg .null = .ref f) (hz1 : f = w_LRD → z = (1 : Int32)) (hz2 : f = w_LRI → z = (1 : Int32)) (hz3 : ¬ f = w_LRD → ¬ f = w_LRI → z = (0 : Int32)) (hc107 : ¬ (f = w_LRD)) (hc114 : f = w_LRI) :
    MetFree l x (head1 (Jvm.Cond.code x code maxLocals ret :: ws) room_1) (fun a U => a = #[(.int p1)] ∧ Z.Warmed39 U.vm ∧ U.heap = h0) (fun _ _ _ _ _ => True) (fun _ U o U' => ∃ v L, o = .returned v ∧ QL (.int (1 : Int32)) n0 v U'.heap L ∧ FrameEnd U o U' L room_1.cells room_1.slots) := by
  refine MetFree.of_bodySF (plainFor_of_name pnm_1) hisR ?_
  intro p e s m args below meth c s₁ Bd hml0 hP hK
  obtain ⟨rfl, hZ, hh⟩ := hP
  have hx := Bd.exec
  have hby := Bd.bytes
  have hml : c.maxLocals = 5 := hml0
  have hown : s.vm.findClass "com/example/aq_to_pence/aqtopence/ChargeCodeBySectorPinLaw" = some m.cls := findClass_of_methodNamed Bd.named
  have hnm := (name_of_methodNamed Bd.named Bd.method).1
  have X0 : Stand p l e room_1 s m #[(.int p1)] below meth c s₁ [] 0 0 := Stand.of_body Bd
  have e0 : s₁.heap = h0 := by rw [← hh, Bd.state]; rfl
  have N0 := Fr.nil n0
  have pre0 : ∀ t, Steps p.tables e below (s₁.setTop (mkF m 0 #[.val (.int p1), .unset, .unset, .unset, .unset] [])) t → Steps p.tables e below (s₁.setTop (entryFrame m #[(.int p1)] maxLocals)) t := fun t k => castTop (ef_rm0 m p1) k
  obtain ⟨T1, h1, k1, X1, e1, E1, A1, O1, st1⟩ := newR X0 hx hZ hown (hw _ (List.mem_of_getElem? (i := 0) rfl)) (hw _ (List.mem_of_getElem? (i := 1) rfl)) e0 (g := (mkF m 2 #[.val (.int p1), .unset, .unset, .unset, .unset] [(.int (13 : Int32))])) rfl (hb hby at_2) rfl (by decide) (cap := 13) (by decide) (by decide) (by decide) (by decide)
  obtain ⟨b1, g1⟩ : ∃ z, z = h0.size := ⟨_, rfl⟩
  rw [← g1] at A1 st1
  have gb1 : n0 ≤ b1 := Nat.le_trans Z0 (Nat.le_of_eq g1.symm)
  have V_b1 : Arv Z h1 b1 k1 (.object "com/example/aq_to_pence/aqtopence/ChargeCode") (13 : Int32) [.null, .null, .null, .null, .null, .null, .null, .null, .null, .null, .null, .null, .null] .null := (Arv.new A1 (by decide)).pad (pad_rep [] .null 13)
  obtain ⟨T2, X2, e2, st2⟩ := getS2 X1 hx hZ hown (host := "") (Or.inl (hw _ (List.mem_of_getElem? (i := 2) rfl))) Via.refl e1 (S_ZCA.ext E1) (g := (mkF m 7 #[.val (.int p1), .unset, .unset, .unset, .unset] [(.int (0 : Int32)), (.ref b1), (.ref b1)])) rfl (hb hby at_7)
  obtain ⟨cl_b1_10, Ar_b1_10, q_b1_10, S_b1_10, N_b1_10, H_b1_10, G_b1_10⟩ := V_b1
  have hin10 : ¬ ((0 : Int32) < 0 ∨ cl_b1_10.slots.size ≤ ((0 : Int32)).toNatClampNeg) := inb_of S_b1_10 ⟨by decide, by decide⟩
  obtain ⟨T3, h3, X3, e3, W3, st3⟩ := stR X2 hx hZ e2 Ar_b1_10 (j := (0 : Int32)) hin10 rfl (Sto.ofV Ar_b1_10 q_b1_10 O1 (Ins.self (E_ZCA.ext E1))) (g := (mkF m 10 #[.val (.int p1), .unset, .unset, .unset, .unset] [(.ref w_ZCA), (.int (0 : Int32)), (.ref b1), (.ref b1)])) rfl rfl (hb hby at_10)
  have V_b1_3 : Arv Z h3 b1 k1 (.object "com/example/aq_to_pence/aqtopence/ChargeCode") (13 : Int32) [(.ref w_ZCA), .null, .null, .null, .null, .null, .null, .null, .null, .null, .null, .null, .null] .null := Arv.set Ar_b1_10 q_b1_10 S_b1_10 N_b1_10 H_b1_10 G_b1_10 rfl W3 0 rfl (Nat.le_of_ble_eq_true rfl)
  have Ec3 := own_extW E1 g1 W3
  have N3 := Fr.snoc X3 N0 gb1
  obtain ⟨T4, X4, e4, st4⟩ := getS2 X3 hx hZ hown (host := "") (Or.inl (hw _ (List.mem_of_getElem? (i := 6) rfl))) Via.refl e3 (S_ZCO.ext Ec3) (g := (mkF m 13 #[.val (.int p1), .unset, .unset, .unset, .unset] [(.int (1 : Int32)), (.ref b1), (.ref b1)])) rfl (hb hby at_13)
  obtain ⟨cl_b1_16, Ar_b1_16, q_b1_16, S_b1_16, N_b1_16, H_b1_16, G_b1_16⟩ := V_b1_3
  have hin16 : ¬ ((1 : Int32) < 0 ∨ cl_b1_16.slots.size ≤ ((1 : Int32)).toNatClampNeg) := inb_of S_b1_16 ⟨by decide, by decide⟩
  obtain ⟨T5, h5, X5, e5, W5, st5⟩ := stR X4 hx hZ e4 Ar_b1_16 (j := (1 : Int32)) hin16 rfl (Sto.ofV Ar_b1_16 q_b1_16 O1 (Ins.self (E_ZCO.ext Ec3))) (g := (mkF m 16 #[.val (.int p1), .unset, .unset, .unset, .unset] [(.ref w_ZCO), (.int (1 : Int32)), (.ref b1), (.ref b1)])) rfl rfl (hb hby at_16)
  have V_b1_5 : Arv Z h5 b1 k1 (.object "com/example/aq_to_pence/aqtopence/ChargeCode") (13 : Int32) [(.ref w_ZCA), (.ref w_ZCO), .null, .null, .null, .null, .null, .null, .null, .null, .null, .null, .null] .null := Arv.set Ar_b1_16 q_b1_16 S_b1_16 N_b1_16 H_b1_16 G_b1_16 rfl W5 1 rfl (Nat.le_of_ble_eq_true rfl)
  have Ec5 := own_extW Ec3 g1 W5
  have N5 := Fr.snoc X5 N3 gb1
  obtain ⟨T6, X6, e6, st6⟩ := getS2 X5 hx hZ hown (host := "") (Or.inl (hw _ (List.mem_of_getElem? (i := 8) rfl))) Via.refl e5 (S_OPTIONAL_LDZ_TARIFF.ext Ec5) (g := (mkF m 19 #[.val (.int p1), .unset, .unset, .unset, .unset] [(.int (2 : Int32)), (.ref b1), (.ref b1)])) rfl (hb hby at_19)
  obtain ⟨cl_b1_22, Ar_b1_22, q_b1_22, S_b1_22, N_b1_22, H_b1_22, G_b1_22⟩ := V_b1_5
  have hin22 : ¬ ((2 : Int32) < 0 ∨ cl_b1_22.slots.size ≤ ((2 : Int32)).toNatClampNeg) := inb_of S_b1_22 ⟨by decide, by decide⟩
  obtain ⟨T7, h7, X7, e7, W7, st7⟩ := stR X6 hx hZ e6 Ar_b1_22 (j := (2 : Int32)) hin22 rfl (Sto.ofV Ar_b1_22 q_b1_22 O1 (Ins.self (E_OPTIONAL_LDZ_TARIFF.ext Ec5))) (g := (mkF m 22 #[.val (.int p1), .unset, .unset, .unset, .unset] [(.ref w_OPTIONAL_LDZ_TARIFF), (.int (2 : Int32)), (.ref b1), (.ref b1)])) rfl rfl (hb hby at_22)
  have V_b1_7 : Arv Z h7 b1 k1 (.object "com/example/aq_to_pence/aqtopence/ChargeCode") (13 : Int32) [(.ref w_ZCA), (.ref w_ZCO), (.ref w_OPTIONAL_LDZ_TARIFF), .null, .null, .null, .null, .null, .null, .null, .null, .null, .null] .null := Arv.set Ar_b1_22 q_b1_22 S_b1_22 N_b1_22 H_b1_22 G_b1_22 rfl W7 2 rfl (Nat.le_of_ble_eq_true rfl)
  have Ec7 := own_extW Ec5 g1 W7
  have N7 := Fr.snoc X7 N5 gb1
  obtain ⟨T8, X8, e8, st8⟩ := getS2 X7 hx hZ hown (host := "") (Or.inl (hw _ (List.mem_of_getElem? (i := 10) rfl))) Via.refl e7 (S_CCA.ext Ec7) (g := (mkF m 25 #[.val (.int p1), .unset, .unset, .unset, .unset] [(.int (3 : Int32)), (.ref b1), (.ref b1)])) rfl (hb hby at_25)
  obtain ⟨cl_b1_28, Ar_b1_28, q_b1_28, S_b1_28, N_b1_28, H_b1_28, G_b1_28⟩ := V_b1_7
  have hin28 : ¬ ((3 : Int32) < 0 ∨ cl_b1_28.slots.size ≤ ((3 : Int32)).toNatClampNeg) := inb_of S_b1_28 ⟨by decide, by decide⟩
  obtain ⟨T9, h9, X9, e9, W9, st9⟩ := stR X8 hx hZ e8 Ar_b1_28 (j := (3 : Int32)) hin28 rfl (Sto.ofV Ar_b1_28 q_b1_28 O1 (Ins.self (E_CCA.ext Ec7))) (g := (mkF m 28 #[.val (.int p1), .unset, .unset, .unset, .unset] [(.ref w_CCA), (.int (3 : Int32)), (.ref b1), (.ref b1)])) rfl rfl (hb hby at_28)
  have V_b1_9 : Arv Z h9 b1 k1 (.object "com/example/aq_to_pence/aqtopence/ChargeCode") (13 : Int32) [(.ref w_ZCA), (.ref w_ZCO), (.ref w_OPTIONAL_LDZ_TARIFF), (.ref w_CCA), .null, .null, .null, .null, .null, .null, .null, .null, .null] .null := Arv.set Ar_b1_28 q_b1_28 S_b1_28 N_b1_28 H_b1_28 G_b1_28 rfl W9 3 rfl (Nat.le_of_ble_eq_true rfl)
  have Ec9 := own_extW Ec7 g1 W9
  have N9 := Fr.snoc X9 N7 gb1
  obtain ⟨T10, X10, e10, st10⟩ := getS2 X9 hx hZ hown (host := "") (Or.inl (hw _ (List.mem_of_getElem? (i := 12) rfl))) Via.refl e9 (S_CFI.ext Ec9) (g := (mkF m 31 #[.val (.int p1), .unset, .unset, .unset, .unset] [(.int (4 : Int32)), (.ref b1), (.ref b1)])) rfl (hb hby at_31)
  obtain ⟨cl_b1_34, Ar_b1_34, q_b1_34, S_b1_34, N_b1_34, H_b1_34, G_b1_34⟩ := V_b1_9
  have hin34 : ¬ ((4 : Int32) < 0 ∨ cl_b1_34.slots.size ≤ ((4 : Int32)).toNatClampNeg) := inb_of S_b1_34 ⟨by decide, by decide⟩
  obtain ⟨T11, h11, X11, e11, W11, st11⟩ := stR X10 hx hZ e10 Ar_b1_34 (j := (4 : Int32)) hin34 rfl (Sto.ofV Ar_b1_34 q_b1_34 O1 (Ins.self (E_CFI.ext Ec9))) (g := (mkF m 34 #[.val (.int p1), .unset, .unset, .unset, .unset] [(.ref w_CFI), (.int (4 : Int32)), (.ref b1), (.ref b1)])) rfl rfl (hb hby at_34)
  have V_b1_11 : Arv Z h11 b1 k1 (.object "com/example/aq_to_pence/aqtopence/ChargeCode") (13 : Int32) [(.ref w_ZCA), (.ref w_ZCO), (.ref w_OPTIONAL_LDZ_TARIFF), (.ref w_CCA), (.ref w_CFI), .null, .null, .null, .null, .null, .null, .null, .null] .null := Arv.set Ar_b1_34 q_b1_34 S_b1_34 N_b1_34 H_b1_34 G_b1_34 rfl W11 4 rfl (Nat.le_of_ble_eq_true rfl)
  have Ec11 := own_extW Ec9 g1 W11
  have N11 := Fr.snoc X11 N9 gb1
  obtain ⟨T12, X12, e12, st12⟩ := getS2 X11 hx hZ hown (host := "") (Or.inl (hw _ (List.mem_of_getElem? (i := 14) rfl))) Via.refl e11 (S_CSEP_LDZ_CAPACITY.ext Ec11) (g := (mkF m 37 #[.val (.int p1), .unset, .unset, .unset, .unset] [(.int (5 : Int32)), (.ref b1), (.ref b1)])) rfl (hb hby at_37)
  obtain ⟨cl_b1_40, Ar_b1_40, q_b1_40, S_b1_40, N_b1_40, H_b1_40, G_b1_40⟩ := V_b1_11
  have hin40 : ¬ ((5 : Int32) < 0 ∨ cl_b1_40.slots.size ≤ ((5 : Int32)).toNatClampNeg) := inb_of S_b1_40 ⟨by decide, by decide⟩
  obtain ⟨T13, h13, X13, e13, W13, st13⟩ := stR X12 hx hZ e12 Ar_b1_40 (j := (5 : Int32)) hin40 rfl (Sto.ofV Ar_b1_40 q_b1_40 O1 (Ins.self (E_CSEP_LDZ_CAPACITY.ext Ec11))) (g := (mkF m 40 #[.val (.int p1), .unset, .unset, .unset, .unset] [(.ref w_CSEP_LDZ_CAPACITY), (.int (5 : Int32)), (.ref b1), (.ref b1)])) rfl rfl (hb hby at_40)
  have V_b1_13 : Arv Z h13 b1 k1 (.object "com/example/aq_to_pence/aqtopence/ChargeCode") (13 : Int32) [(.ref w_ZCA), (.ref w_ZCO), (.ref w_OPTIONAL_LDZ_TARIFF), (.ref w_CCA), (.ref w_CFI), (.ref w_CSEP_LDZ_CAPACITY), .null, .null, .null, .null, .null, .null, .null] .null := Arv.set Ar_b1_40 q_b1_40 S_b1_40 N_b1_40 H_b1_40 G_b1_40 rfl W13 5 rfl (Nat.le_of_ble_eq_true rfl)
  have Ec13 := own_extW Ec11 g1 W13
  have N13 := Fr.snoc X13 N11 gb1
  obtain ⟨T14, X14, e14, st14⟩ := getS2 X13 hx hZ hown (host := "") (Or.inl (hw _ (List.mem_of_getElem? (i := 16) rfl))) Via.refl e13 (S_CSEP_LDZ_COMMODITY.ext Ec13) (g := (mkF m 44 #[.val (.int p1), .unset, .unset, .unset, .unset] [(.int (6 : Int32)), (.ref b1), (.ref b1)])) rfl (hb hby at_44)
  obtain ⟨cl_b1_47, Ar_b1_47, q_b1_47, S_b1_47, N_b1_47, H_b1_47, G_b1_47⟩ := V_b1_13
  have hin47 : ¬ ((6 : Int32) < 0 ∨ cl_b1_47.slots.size ≤ ((6 : Int32)).toNatClampNeg) := inb_of S_b1_47 ⟨by decide, by decide⟩
  obtain ⟨T15, h15, X15, e15, W15, st15⟩ := stR X14 hx hZ e14 Ar_b1_47 (j := (6 : Int32)) hin47 rfl (Sto.ofV Ar_b1_47 q_b1_47 O1 (Ins.self (E_CSEP_LDZ_COMMODITY.ext Ec13))) (g := (mkF m 47 #[.val (.int p1), .unset, .unset, .unset, .unset] [(.ref w_CSEP_LDZ_COMMODITY), (.int (6 : Int32)), (.ref b1), (.ref b1)])) rfl rfl (hb hby at_47)
  have V_b1_15 : Arv Z h15 b1 k1 (.object "com/example/aq_to_pence/aqtopence/ChargeCode") (13 : Int32) [(.ref w_ZCA), (.ref w_ZCO), (.ref w_OPTIONAL_LDZ_TARIFF), (.ref w_CCA), (.ref w_CFI), (.ref w_CSEP_LDZ_CAPACITY), (.ref w_CSEP_LDZ_COMMODITY), .null, .null, .null, .null, .null, .null] .null := Arv.set Ar_b1_47 q_b1_47 S_b1_47 N_b1_47 H_b1_47 G_b1_47 rfl W15 6 rfl (Nat.le_of_ble_eq_true rfl)
  have Ec15 := own_extW Ec13 g1 W15
  have N15 := Fr.snoc X15 N13 gb1
  obtain ⟨T16, X16, e16, st16⟩ := getS2 X15 hx hZ hown (host := "") (Or.inl (hw _ (List.mem_of_getElem? (i := 18) rfl))) Via.refl e15 (S_CSEP_ADMINISTRATION.ext Ec15) (g := (mkF m 51 #[.val (.int p1), .unset, .unset, .unset, .unset] [(.int (7 : Int32)), (.ref b1), (.ref b1)])) rfl (hb hby at_51)
  obtain ⟨cl_b1_54, Ar_b1_54, q_b1_54, S_b1_54, N_b1_54, H_b1_54, G_b1_54⟩ := V_b1_15
  have hin54 : ¬ ((7 : Int32) < 0 ∨ cl_b1_54.slots.size ≤ ((7 : Int32)).toNatClampNeg) := inb_of S_b1_54 ⟨by decide, by decide⟩
  obtain ⟨T17, h17, X17, e17, W17, st17⟩ := stR X16 hx hZ e16 Ar_b1_54 (j := (7 : Int32)) hin54 rfl (Sto.ofV Ar_b1_54 q_b1_54 O1 (Ins.self (E_CSEP_ADMINISTRATION.ext Ec15))) (g := (mkF m 54 #[.val (.int p1), .unset, .unset, .unset, .unset] [(.ref w_CSEP_ADMINISTRATION), (.int (7 : Int32)), (.ref b1), (.ref b1)])) rfl rfl (hb hby at_54)
  have V_b1_17 : Arv Z h17 b1 k1 (.object "com/example/aq_to_pence/aqtopence/ChargeCode") (13 : Int32) [(.ref w_ZCA), (.ref w_ZCO), (.ref w_OPTIONAL_LDZ_TARIFF), (.ref w_CCA), (.ref w_CFI), (.ref w_CSEP_LDZ_CAPACITY), (.ref w_CSEP_LDZ_COMMODITY), (.ref w_CSEP_ADMINISTRATION), .null, .null, .null, .null, .null] .null := Arv.set Ar_b1_54 q_b1_54 S_b1_54 N_b1_54 H_b1_54 G_b1_54 rfl W17 7 rfl (Nat.le_of_ble_eq_true rfl)
  have Ec17 := own_extW Ec15 g1 W17
  have N17 := Fr.snoc X17 N15 gb1
  obtain ⟨T18, X18, e18, st18⟩ := getS2 X17 hx hZ hown (host := "") (Or.inl (hw _ (List.mem_of_getElem? (i := 20) rfl))) Via.refl e17 (S_DAILY_METERED_CSEP_ADMINISTRATION.ext Ec17) (g := (mkF m 58 #[.val (.int p1), .unset, .unset, .unset, .unset] [(.int (8 : Int32)), (.ref b1), (.ref b1)])) rfl (hb hby at_58)
  obtain ⟨cl_b1_61, Ar_b1_61, q_b1_61, S_b1_61, N_b1_61, H_b1_61, G_b1_61⟩ := V_b1_17
  have hin61 : ¬ ((8 : Int32) < 0 ∨ cl_b1_61.slots.size ≤ ((8 : Int32)).toNatClampNeg) := inb_of S_b1_61 ⟨by decide, by decide⟩
  obtain ⟨T19, h19, X19, e19, W19, st19⟩ := stR X18 hx hZ e18 Ar_b1_61 (j := (8 : Int32)) hin61 rfl (Sto.ofV Ar_b1_61 q_b1_61 O1 (Ins.self (E_DAILY_METERED_CSEP_ADMINISTRATION.ext Ec17))) (g := (mkF m 61 #[.val (.int p1), .unset, .unset, .unset, .unset] [(.ref w_DAILY_METERED_CSEP_ADMINISTRATION), (.int (8 : Int32)), (.ref b1), (.ref b1)])) rfl rfl (hb hby at_61)
  have V_b1_19 : Arv Z h19 b1 k1 (.object "com/example/aq_to_pence/aqtopence/ChargeCode") (13 : Int32) [(.ref w_ZCA), (.ref w_ZCO), (.ref w_OPTIONAL_LDZ_TARIFF), (.ref w_CCA), (.ref w_CFI), (.ref w_CSEP_LDZ_CAPACITY), (.ref w_CSEP_LDZ_COMMODITY), (.ref w_CSEP_ADMINISTRATION), (.ref w_DAILY_METERED_CSEP_ADMINISTRATION), .null, .null, .null, .null] .null := Arv.set Ar_b1_61 q_b1_61 S_b1_61 N_b1_61 H_b1_61 G_b1_61 rfl W19 8 rfl (Nat.le_of_ble_eq_true rfl)
  have Ec19 := own_extW Ec17 g1 W19
  have N19 := Fr.snoc X19 N17 gb1
  obtain ⟨T20, X20, e20, st20⟩ := getS2 X19 hx hZ hown (host := "") (Or.inl (hw _ (List.mem_of_getElem? (i := 22) rfl))) Via.refl e19 (S_ECN.ext Ec19) (g := (mkF m 65 #[.val (.int p1), .unset, .unset, .unset, .unset] [(.int (9 : Int32)), (.ref b1), (.ref b1)])) rfl (hb hby at_65)
  obtain ⟨cl_b1_68, Ar_b1_68, q_b1_68, S_b1_68, N_b1_68, H_b1_68, G_b1_68⟩ := V_b1_19
  have hin68 : ¬ ((9 : Int32) < 0 ∨ cl_b1_68.slots.size ≤ ((9 : Int32)).toNatClampNeg) := inb_of S_b1_68 ⟨by decide, by decide⟩
  obtain ⟨T21, h21, X21, e21, W21, st21⟩ := stR X20 hx hZ e20 Ar_b1_68 (j := (9 : Int32)) hin68 rfl (Sto.ofV Ar_b1_68 q_b1_68 O1 (Ins.self (E_ECN.ext Ec19))) (g := (mkF m 68 #[.val (.int p1), .unset, .unset, .unset, .unset] [(.ref w_ECN), (.int (9 : Int32)), (.ref b1), (.ref b1)])) rfl rfl (hb hby at_68)
  have V_b1_21 : Arv Z h21 b1 k1 (.object "com/example/aq_to_pence/aqtopence/ChargeCode") (13 : Int32) [(.ref w_ZCA), (.ref w_ZCO), (.ref w_OPTIONAL_LDZ_TARIFF), (.ref w_CCA), (.ref w_CFI), (.ref w_CSEP_LDZ_CAPACITY), (.ref w_CSEP_LDZ_COMMODITY), (.ref w_CSEP_ADMINISTRATION), (.ref w_DAILY_METERED_CSEP_ADMINISTRATION), (.ref w_ECN), .null, .null, .null] .null := Arv.set Ar_b1_68 q_b1_68 S_b1_68 N_b1_68 H_b1_68 G_b1_68 rfl W21 9 rfl (Nat.le_of_ble_eq_true rfl)
  have Ec21 := own_extW Ec19 g1 W21
  have N21 := Fr.snoc X21 N19 gb1
  obtain ⟨T22, X22, e22, st22⟩ := getS2 X21 hx hZ hown (host := "") (Or.inl (hw _ (List.mem_of_getElem? (i := 24) rfl))) Via.refl e21 (S_C04.ext Ec21) (g := (mkF m 72 #[.val (.int p1), .unset, .unset, .unset, .unset] [(.int (10 : Int32)), (.ref b1), (.ref b1)])) rfl (hb hby at_72)
  obtain ⟨cl_b1_75, Ar_b1_75, q_b1_75, S_b1_75, N_b1_75, H_b1_75, G_b1_75⟩ := V_b1_21
  have hin75 : ¬ ((10 : Int32) < 0 ∨ cl_b1_75.slots.size ≤ ((10 : Int32)).toNatClampNeg) := inb_of S_b1_75 ⟨by decide, by decide⟩
  obtain ⟨T23, h23, X23, e23, W23, st23⟩ := stR X22 hx hZ e22 Ar_b1_75 (j := (10 : Int32)) hin75 rfl (Sto.ofV Ar_b1_75 q_b1_75 O1 (Ins.self (E_C04.ext Ec21))) (g := (mkF m 75 #[.val (.int p1), .unset, .unset, .unset, .unset] [(.ref w_C04), (.int (10 : Int32)), (.ref b1), (.ref b1)])) rfl rfl (hb hby at_75)
  have V_b1_23 : Arv Z h23 b1 k1 (.object "com/example/aq_to_pence/aqtopence/ChargeCode") (13 : Int32) [(.ref w_ZCA), (.ref w_ZCO), (.ref w_OPTIONAL_LDZ_TARIFF), (.ref w_CCA), (.ref w_CFI), (.ref w_CSEP_LDZ_CAPACITY), (.ref w_CSEP_LDZ_COMMODITY), (.ref w_CSEP_ADMINISTRATION), (.ref w_DAILY_METERED_CSEP_ADMINISTRATION), (.ref w_ECN), (.ref w_C04), .null, .null] .null := Arv.set Ar_b1_75 q_b1_75 S_b1_75 N_b1_75 H_b1_75 G_b1_75 rfl W23 10 rfl (Nat.le_of_ble_eq_true rfl)
  have Ec23 := own_extW Ec21 g1 W23
  have N23 := Fr.snoc X23 N21 gb1
  obtain ⟨T24, X24, e24, st24⟩ := getS2 X23 hx hZ hown (host := "") (Or.inl (hw _ (List.mem_of_getElem? (i := 26) rfl))) Via.refl e23 (S_LRD.ext Ec23) (g := (mkF m 79 #[.val (.int p1), .unset, .unset, .unset, .unset] [(.int (11 : Int32)), (.ref b1), (.ref b1)])) rfl (hb hby at_79)
  obtain ⟨cl_b1_82, Ar_b1_82, q_b1_82, S_b1_82, N_b1_82, H_b1_82, G_b1_82⟩ := V_b1_23
  have hin82 : ¬ ((11 : Int32) < 0 ∨ cl_b1_82.slots.size ≤ ((11 : Int32)).toNatClampNeg) := inb_of S_b1_82 ⟨by decide, by decide⟩
  obtain ⟨T25, h25, X25, e25, W25, st25⟩ := stR X24 hx hZ e24 Ar_b1_82 (j := (11 : Int32)) hin82 rfl (Sto.ofV Ar_b1_82 q_b1_82 O1 (Ins.self (E_LRD.ext Ec23))) (g := (mkF m 82 #[.val (.int p1), .unset, .unset, .unset, .unset] [(.ref w_LRD), (.int (11 : Int32)), (.ref b1), (.ref b1)])) rfl rfl (hb hby at_82)
  have V_b1_25 : Arv Z h25 b1 k1 (.object "com/example/aq_to_pence/aqtopence/ChargeCode") (13 : Int32) [(.ref w_ZCA), (.ref w_ZCO), (.ref w_OPTIONAL_LDZ_TARIFF), (.ref w_CCA), (.ref w_CFI), (.ref w_CSEP_LDZ_CAPACITY), (.ref w_CSEP_LDZ_COMMODITY), (.ref w_CSEP_ADMINISTRATION), (.ref w_DAILY_METERED_CSEP_ADMINISTRATION), (.ref w_ECN), (.ref w_C04), (.ref w_LRD), .null] .null := Arv.set Ar_b1_82 q_b1_82 S_b1_82 N_b1_82 H_b1_82 G_b1_82 rfl W25 11 rfl (Nat.le_of_ble_eq_true rfl)
  have Ec25 := own_extW Ec23 g1 W25
  have N25 := Fr.snoc X25 N23 gb1
  obtain ⟨T26, X26, e26, st26⟩ := getS2 X25 hx hZ hown (host := "") (Or.inl (hw _ (List.mem_of_getElem? (i := 28) rfl))) Via.refl e25 (S_LRI.ext Ec25) (g := (mkF m 86 #[.val (.int p1), .unset, .unset, .unset, .unset] [(.int (12 : Int32)), (.ref b1), (.ref b1)])) rfl (hb hby at_86)
  obtain ⟨cl_b1_89, Ar_b1_89, q_b1_89, S_b1_89, N_b1_89, H_b1_89, G_b1_89⟩ := V_b1_25
  have hin89 : ¬ ((12 : Int32) < 0 ∨ cl_b1_89.slots.size ≤ ((12 : Int32)).toNatClampNeg) := inb_of S_b1_89 ⟨by decide, by decide⟩
  obtain ⟨T27, h27, X27, e27, W27, st27⟩ := stR X26 hx hZ e26 Ar_b1_89 (j := (12 : Int32)) hin89 rfl (Sto.ofV Ar_b1_89 q_b1_89 O1 (Ins.self (E_LRI.ext Ec25))) (g := (mkF m 89 #[.val (.int p1), .unset, .unset, .unset, .unset] [(.ref w_LRI), (.int (12 : Int32)), (.ref b1), (.ref b1)])) rfl rfl (hb hby at_89)
  have V_b1_27 : Arv Z h27 b1 k1 (.object "com/example/aq_to_pence/aqtopence/ChargeCode") (13 : Int32) [(.ref w_ZCA), (.ref w_ZCO), (.ref w_OPTIONAL_LDZ_TARIFF), (.ref w_CCA), (.ref w_CFI), (.ref w_CSEP_LDZ_CAPACITY), (.ref w_CSEP_LDZ_COMMODITY), (.ref w_CSEP_ADMINISTRATION), (.ref w_DAILY_METERED_CSEP_ADMINISTRATION), (.ref w_ECN), (.ref w_C04), (.ref w_LRD), (.ref w_LRI)] .null := Arv.set Ar_b1_89 q_b1_89 S_b1_89 N_b1_89 H_b1_89 G_b1_89 rfl W27 12 rfl (Nat.le_of_ble_eq_true rfl)
  have Ec27 := own_extW Ec25 g1 W27
  have N27 := Fr.snoc X27 N25 gb1
  obtain ⟨cl_b1_101, Ar_b1_101, q_b1_101, S_b1_101, N_b1_101, H_b1_101, G_b1_101⟩ := V_b1_27
  have hin_b1_101 : ¬ (((p1 &&& (2147483647 : Int32)) % (13 : Int32)) < 0 ∨ cl_b1_101.slots.size ≤ (((p1 &&& (2147483647 : Int32)) % (13 : Int32))).toNatClampNeg) := inb_of S_b1_101 ⟨hj0, hj1⟩
  have hat_b1_101 : cl_b1_101.slots[(((p1 &&& (2147483647 : Int32)) % (13 : Int32))).toNatClampNeg]? = some (.ref f) := Has.at H_b1_101 hin_b1_101 hf
  obtain ⟨T28, X28, e28, st28⟩ := getS2 X27 hx hZ hown (host := "") (Or.inl (hw _ (List.mem_of_getElem? (i := 26) rfl))) Via.refl e27 (S_LRD.ext Ec27) (g := (mkF m 104 #[.val (.int p1), .val (.ref b1), .val (.int ((p1 &&& (2147483647 : Int32)) % (13 : Int32))), .val (.ref f), .unset] [(.ref f)])) rfl (hb hby at_104)
  obtain ⟨T29, X29, e29, st29⟩ := getS2 X28 hx hZ hown (host := "") (Or.inl (hw _ (List.mem_of_getElem? (i := 28) rfl))) Via.refl e28 (S_LRI.ext Ec27) (g := (mkF m 111 #[.val (.int p1), .val (.ref b1), .val (.int ((p1 &&& (2147483647 : Int32)) % (13 : Int32))), .val (.ref f), .unset] [(.ref f)])) rfl (hb hby at_111)
  obtain ⟨cq30, kq30, q30a, q30b, q30c⟩ := isOf hZ e29 (E_f.ext Ec27)
  obtain ⟨_, _, ⟨T30, L30, k30, n30⟩, -, X30, ⟨Lc30, hQ30, l30, y30, z30⟩, st30⟩ := X29.virtualBack hx (y := (⟨"com/example/aq_to_pence/aqtopence/ChargeCode", "bySector", "()Z"⟩ : MethodName)) (z := (⟨"com/example/aq_to_pence/aqtopence/ChargeCode", "bySector", "()Z"⟩ : MethodName)) hown (mvT hZ (hw _ (List.mem_of_getElem? (i := 31) rfl))) (mvT hZ (hw _ (List.mem_of_getElem? (i := 32) rfl))) (notFace_of_selects (args := #[]) (mvT hZ (hw _ (List.mem_of_getElem? (i := 34) rfl)))) (mvT hZ (hw _ (List.mem_of_getElem? (i := 34) rfl))) (mvT hZ (hw _ (List.mem_of_getElem? (i := 33) rfl))) (by decide) (backOf (W := 0) (rm1 l Z a0 hw [] f sv h27 n0 (Nat.le_trans Z0 Ec27.1) (F_f.ext Ec27) z hz) hZ (hw _ (List.mem_of_getElem? (i := 35) rfl)) (hw _ (List.mem_of_getElem? (i := 3) rfl)) (by decide) (by decide)) q30a q30c (g := (mkF m 125 #[.val (.int p1), .val (.ref b1), .val (.int ((p1 &&& (2147483647 : Int32)) % (13 : Int32))), .val (.ref f), .val (.int (1 : Int32))] [(.ref f)])) rfl (by rw [hml]; rfl) (Steps.refl _) (argsL := []) (rest := []) (lenOf pdm_0 rfl) rfl (by show 2 * 0 + _ ≤ _; exact Nat.le_of_eq rfl) (hb hby at_125) (fun _ _ => ⟨rfl, e29, (by decide : 1 + 0 ≤ _), (by decide : 13 + 0 ≤ _)⟩)
  dsimp only [Pt.U, Pt.locs, Pt.cells, Pt.slots] at X30 l30 y30 z30 st30 hQ30
  subst l30 y30 z30
  obtain ⟨rfl, N30q, e30⟩ := hQ30
  have N30 := Fr.app N27 N30q
  obtain ⟨fs, hr, hrun, hended, hW, hsame⟩ := X30.leave (v := some (.int (1 : Int32))) (fun h => by rw [Bd.returns] at h; cases h)
  refine ⟨_, _, pre0 _ ?_, hrun, hended, _, _, rfl, ?_, ⟨_, rfl⟩, hW, hsame.mono (by decide) (by decide)⟩
  · show Steps p.tables e below (s₁.setTop (mkF m 0 #[.val (.int p1), .unset, .unset, .unset, .unset] [])) _
    refine XS.bipush X0.here hx rfl (hb hby at_0) ?_
    show Steps p.tables e below (s₁.setTop (mkF m 2 #[.val (.int p1), .unset, .unset, .unset, .unset] [(.int (13 : Int32))])) _
    refine st1 _ ?_
    show Steps p.tables e below (T1.setTop (mkF m 5 #[.val (.int p1), .unset, .unset, .unset, .unset] [(.ref b1)])) _
    refine XS.dup X1.here hx rfl (hb hby at_5) rfl rfl ?_
    show Steps p.tables e below (T1.setTop (mkF m 6 #[.val (.int p1), .unset, .unset, .unset, .unset] [(.ref b1), (.ref b1)])) _
    refine XS.iconst X1.here hx rfl (hb hby at_6) ?_
    show Steps p.tables e below (T1.setTop (mkF m 7 #[.val (.int p1), .unset, .unset, .unset, .unset] [(.int (0 : Int32)), (.ref b1), (.ref b1)])) _
    refine st2 _ ?_
    show Steps p.tables e below (T2.setTop (mkF m 10 #[.val (.int p1), .unset, .unset, .unset, .unset] [(.ref w_ZCA), (.int (0 : Int32)), (.ref b1), (.ref b1)])) _
    refine st3 _ ?_
    show Steps p.tables e below (T3.setTop (mkF m 11 #[.val (.int p1), .unset, .unset, .unset, .unset] [(.ref b1)])) _
    refine XS.dup X3.here hx rfl (hb hby at_11) rfl rfl ?_
    show Steps p.tables e below (T3.setTop (mkF m 12 #[.val (.int p1), .unset, .unset, .unset, .unset] [(.ref b1), (.ref b1)])) _
    refine XS.iconst X3.here hx rfl (hb hby at_12) ?_
    show Steps p.tables e below (T3.setTop (mkF m 13 #[.val (.int p1), .unset, .unset, .unset, .unset] [(.int (1 : Int32)), (.ref b1), (.ref b1)])) _
    refine st4 _ ?_
    show Steps p.tables e below (T4.setTop (mkF m 16 #[.val (.int p1), .unset, .unset, .unset, .unset] [(.ref w_ZCO), (.int (1 : Int32)), (.ref b1), (.ref b1)])) _
    refine st5 _ ?_
    show Steps p.tables e below (T5.setTop (mkF m 17 #[.val (.int p1), .unset, .unset, .unset, .unset] [(.ref b1)])) _
    refine XS.dup X5.here hx rfl (hb hby at_17) rfl rfl ?_
    show Steps p.tables e below (T5.setTop (mkF m 18 #[.val (.int p1), .unset, .unset, .unset, .unset] [(.ref b1), (.ref b1)])) _
    refine XS.iconst X5.here hx rfl (hb hby at_18) ?_
    show Steps p.tables e below (T5.setTop (mkF m 19 #[.val (.int p1), .unset, .unset, .unset, .unset] [(.int (2 : Int32)), (.ref b1), (.ref b1)])) _
    refine st6 _ ?_
    show Steps p.tables e below (T6.setTop (mkF m 22 #[.val (.int p1), .unset, .unset, .unset, .unset] [(.ref w_OPTIONAL_LDZ_TARIFF), (.int (2 : Int32)), (.ref b1), (.ref b1)])) _
    refine st7 _ ?_
    show Steps p.tables e below (T7.setTop (mkF m 23 #[.val (.int p1), .unset, .unset, .unset, .unset] [(.ref b1)])) _
    refine XS.dup X7.here hx rfl (hb hby at_23) rfl rfl ?_
    show Steps p.tables e below (T7.setTop (mkF m 24 #[.val (.int p1), .unset, .unset, .unset, .unset] [(.ref b1), (.ref b1)])) _
    refine XS.iconst X7.here hx rfl (hb hby at_24) ?_
    show Steps p.tables e below (T7.setTop (mkF m 25 #[.val (.int p1), .unset, .unset, .unset, .unset] [(.int (3 : Int32)), (.ref b1), (.ref b1)])) _
    refine st8 _ ?_
    show Steps p.tables e below (T8.setTop (mkF m 28 #[.val (.int p1), .unset, .unset, .unset, .unset] [(.ref w_CCA), (.int (3 : Int32)), (.ref b1), (.ref b1)])) _
    refine st9 _ ?_
    show Steps p.tables e below (T9.setTop (mkF m 29 #[.val (.int p1), .unset, .unset, .unset, .unset] [(.ref b1)])) _
    refine XS.dup X9.here hx rfl (hb hby at_29) rfl rfl ?_
    show Steps p.tables e below (T9.setTop (mkF m 30 #[.val (.int p1), .unset, .unset, .unset, .unset] [(.ref b1), (.ref b1)])) _
    refine XS.iconst X9.here hx rfl (hb hby at_30) ?_
    show Steps p.tables e below (T9.setTop (mkF m 31 #[.val (.int p1), .unset, .unset, .unset, .unset] [(.int (4 : Int32)), (.ref b1), (.ref b1)])) _
    refine st10 _ ?_
    show Steps p.tables e below (T10.setTop (mkF m 34 #[.val (.int p1), .unset, .unset, .unset, .unset] [(.ref w_CFI), (.int (4 : Int32)), (.ref b1), (.ref b1)])) _
    refine st11 _ ?_
    show Steps p.tables e below (T11.setTop (mkF m 35 #[.val (.int p1), .unset, .unset, .unset, .unset] [(.ref b1)])) _
    refine XS.dup X11.here hx rfl (hb hby at_35) rfl rfl ?_
    show Steps p.tables e below (T11.setTop (mkF m 36 #[.val (.int p1), .unset, .unset, .unset, .unset] [(.ref b1), (.ref b1)])) _
    refine XS.iconst X11.here hx rfl (hb hby at_36) ?_
    show Steps p.tables e below (T11.setTop (mkF m 37 #[.val (.int p1), .unset, .unset, .unset, .unset] [(.int (5 : Int32)), (.ref b1), (.ref b1)])) _
    refine st12 _ ?_
    show Steps p.tables e below (T12.setTop (mkF m 40 #[.val (.int p1), .unset, .unset, .unset, .unset] [(.ref w_CSEP_LDZ_CAPACITY), (.int (5 : Int32)), (.ref b1), (.ref b1)])) _
    refine st13 _ ?_
    show Steps p.tables e below (T13.setTop (mkF m 41 #[.val (.int p1), .unset, .unset, .unset, .unset] [(.ref b1)])) _
    refine XS.dup X13.here hx rfl (hb hby at_41) rfl rfl ?_
    show Steps p.tables e below (T13.setTop (mkF m 42 #[.val (.int p1), .unset, .unset, .unset, .unset] [(.ref b1), (.ref b1)])) _
    refine XS.bipush X13.here hx rfl (hb hby at_42) ?_
    show Steps p.tables e below (T13.setTop (mkF m 44 #[.val (.int p1), .unset, .unset, .unset, .unset] [(.int (6 : Int32)), (.ref b1), (.ref b1)])) _
    refine st14 _ ?_
    show Steps p.tables e below (T14.setTop (mkF m 47 #[.val (.int p1), .unset, .unset, .unset, .unset] [(.ref w_CSEP_LDZ_COMMODITY), (.int (6 : Int32)), (.ref b1), (.ref b1)])) _
    refine st15 _ ?_
    show Steps p.tables e below (T15.setTop (mkF m 48 #[.val (.int p1), .unset, .unset, .unset, .unset] [(.ref b1)])) _
    refine XS.dup X15.here hx rfl (hb hby at_48) rfl rfl ?_
    show Steps p.tables e below (T15.setTop (mkF m 49 #[.val (.int p1), .unset, .unset, .unset, .unset] [(.ref b1), (.ref b1)])) _
    refine XS.bipush X15.here hx rfl (hb hby at_49) ?_
    show Steps p.tables e below (T15.setTop (mkF m 51 #[.val (.int p1), .unset, .unset, .unset, .unset] [(.int (7 : Int32)), (.ref b1), (.ref b1)])) _
    refine st16 _ ?_
    show Steps p.tables e below (T16.setTop (mkF m 54 #[.val (.int p1), .unset, .unset, .unset, .unset] [(.ref w_CSEP_ADMINISTRATION), (.int (7 : Int32)), (.ref b1), (.ref b1)])) _
    refine st17 _ ?_
    show Steps p.tables e below (T17.setTop (mkF m 55 #[.val (.int p1), .unset, .unset, .unset, .unset] [(.ref b1)])) _
    refine XS.dup X17.here hx rfl (hb hby at_55) rfl rfl ?_
    show Steps p.tables e below (T17.setTop (mkF m 56 #[.val (.int p1), .unset, .unset, .unset, .unset] [(.ref b1), (.ref b1)])) _
    refine XS.bipush X17.here hx rfl (hb hby at_56) ?_
    show Steps p.tables e below (T17.setTop (mkF m 58 #[.val (.int p1), .unset, .unset, .unset, .unset] [(.int (8 : Int32)), (.ref b1), (.ref b1)])) _
    refine st18 _ ?_
    show Steps p.tables e below (T18.setTop (mkF m 61 #[.val (.int p1), .unset, .unset, .unset, .unset] [(.ref w_DAILY_METERED_CSEP_ADMINISTRATION), (.int (8 : Int32)), (.ref b1), (.ref b1)])) _
    refine st19 _ ?_
    show Steps p.tables e below (T19.setTop (mkF m 62 #[.val (.int p1), .unset, .unset, .unset, .unset] [(.ref b1)])) _
    refine XS.dup X19.here hx rfl (hb hby at_62) rfl rfl ?_
    show Steps p.tables e below (T19.setTop (mkF m 63 #[.val (.int p1), .unset, .unset, .unset, .unset] [(.ref b1), (.ref b1)])) _
    refine XS.bipush X19.here hx rfl (hb hby at_63) ?_
    show Steps p.tables e below (T19.setTop (mkF m 65 #[.val (.int p1), .unset, .unset, .unset, .unset] [(.int (9 : Int32)), (.ref b1), (.ref b1)])) _
    refine st20 _ ?_
    show Steps p.tables e below (T20.setTop (mkF m 68 #[.val (.int p1), .unset, .unset, .unset, .unset] [(.ref w_ECN), (.int (9 : Int32)), (.ref b1), (.ref b1)])) _
    refine st21 _ ?_
    show Steps p.tables e below (T21.setTop (mkF m 69 #[.val (.int p1), .unset, .unset, .unset, .unset] [(.ref b1)])) _
    refine XS.dup X21.here hx rfl (hb hby at_69) rfl rfl ?_
    show Steps p.tables e below (T21.setTop (mkF m 70 #[.val (.int p1), .unset, .unset, .unset, .unset] [(.ref b1), (.ref b1)])) _
    refine XS.bipush X21.here hx rfl (hb hby at_70) ?_
    show Steps p.tables e below (T21.setTop (mkF m 72 #[.val (.int p1), .unset, .unset, .unset, .unset] [(.int (10 : Int32)), (.ref b1), (.ref b1)])) _
    refine st22 _ ?_
    show Steps p.tables e below (T22.setTop (mkF m 75 #[.val (.int p1), .unset, .unset, .unset, .unset] [(.ref w_C04), (.int (10 : Int32)), (.ref b1), (.ref b1)])) _
    refine st23 _ ?_
    show Steps p.tables e below (T23.setTop (mkF m 76 #[.val (.int p1), .unset, .unset, .unset, .unset] [(.ref b1)])) _
    refine XS.dup X23.here hx rfl (hb hby at_76) rfl rfl ?_
    show Steps p.tables e below (T23.setTop (mkF m 77 #[.val (.int p1), .unset, .unset, .unset, .unset] [(.ref b1), (.ref b1)])) _
    refine XS.bipush X23.here hx rfl (hb hby at_77) ?_
    show Steps p.tables e below (T23.setTop (mkF m 79 #[.val (.int p1), .unset, .unset, .unset, .unset] [(.int (11 : Int32)), (.ref b1), (.ref b1)])) _
    refine st24 _ ?_
    show Steps p.tables e below (T24.setTop (mkF m 82 #[.val (.int p1), .unset, .unset, .unset, .unset] [(.ref w_LRD), (.int (11 : Int32)), (.ref b1), (.ref b1)])) _
    refine st25 _ ?_
    show Steps p.tables e below (T25.setTop (mkF m 83 #[.val (.int p1), .unset, .unset, .unset, .unset] [(.ref b1)])) _
    refine XS.dup X25.here hx rfl (hb hby at_83) rfl rfl ?_
    show Steps p.tables e below (T25.setTop (mkF m 84 #[.val (.int p1), .unset, .unset, .unset, .unset] [(.ref b1), (.ref b1)])) _
    refine XS.bipush X25.here hx rfl (hb hby at_84) ?_
    show Steps p.tables e below (T25.setTop (mkF m 86 #[.val (.int p1), .unset, .unset, .unset, .unset] [(.int (12 : Int32)), (.ref b1), (.ref b1)])) _
    refine st26 _ ?_
    show Steps p.tables e below (T26.setTop (mkF m 89 #[.val (.int p1), .unset, .unset, .unset, .unset] [(.ref w_LRI), (.int (12 : Int32)), (.ref b1), (.ref b1)])) _
    refine st27 _ ?_
    show Steps p.tables e below (T27.setTop (mkF m 90 #[.val (.int p1), .unset, .unset, .unset, .unset] [(.ref b1)])) _
    refine XS.astoreN X27.here hx rfl (hb hby at_90) rfl rfl (l' := #[.val (.int p1), .val (.ref b1), .unset, .unset, .unset]) rfl ?_
    show Steps p.tables e below (T27.setTop (mkF m 91 #[.val (.int p1), .val (.ref b1), .unset, .unset, .unset] [])) _
    refine XS.iloadN X27.here hx rfl (hb hby at_91) rfl ?_
    show Steps p.tables e below (T27.setTop (mkF m 92 #[.val (.int p1), .val (.ref b1), .unset, .unset, .unset] [(.int p1)])) _
    refine X27.ldcInt hx hown (mvT hZ (hw _ (List.mem_of_getElem? (i := 30) rfl))) (g := (mkF m 92 #[.val (.int p1), .val (.ref b1), .unset, .unset, .unset] [(.int p1)])) rfl (hb hby at_92) _ ?_
    show Steps p.tables e below (T27.setTop (mkF m 94 #[.val (.int p1), .val (.ref b1), .unset, .unset, .unset] [(.int (2147483647 : Int32)), (.int p1)])) _
    refine XS.iand X27.here hx rfl (hb hby at_94) rfl ?_
    show Steps p.tables e below (T27.setTop (mkF m 95 #[.val (.int p1), .val (.ref b1), .unset, .unset, .unset] [(.int (p1 &&& (2147483647 : Int32)))])) _
    refine XS.bipush X27.here hx rfl (hb hby at_95) ?_
    show Steps p.tables e below (T27.setTop (mkF m 97 #[.val (.int p1), .val (.ref b1), .unset, .unset, .unset] [(.int (13 : Int32)), (.int (p1 &&& (2147483647 : Int32)))])) _
    refine iremM X27 hx rfl (hb hby at_97) rfl (by decide) ?_
    show Steps p.tables e below (T27.setTop (mkF m 98 #[.val (.int p1), .val (.ref b1), .unset, .unset, .unset] [(.int ((p1 &&& (2147483647 : Int32)) % (13 : Int32)))])) _
    refine XS.istoreN X27.here hx rfl (hb hby at_98) rfl (l' := #[.val (.int p1), .val (.ref b1), .val (.int ((p1 &&& (2147483647 : Int32)) % (13 : Int32))), .unset, .unset]) rfl ?_
    show Steps p.tables e below (T27.setTop (mkF m 99 #[.val (.int p1), .val (.ref b1), .val (.int ((p1 &&& (2147483647 : Int32)) % (13 : Int32))), .unset, .unset] [])) _
    refine XS.aloadN X27.here hx rfl (hb hby at_99) rfl rfl ?_
    show Steps p.tables e below (T27.setTop (mkF m 100 #[.val (.int p1), .val (.ref b1), .val (.int ((p1 &&& (2147483647 : Int32)) % (13 : Int32))), .unset, .unset] [(.ref b1)])) _
    refine XS.iloadN X27.here hx rfl (hb hby at_100) rfl ?_
    show Steps p.tables e below (T27.setTop (mkF m 101 #[.val (.int p1), .val (.ref b1), .val (.int ((p1 &&& (2147483647 : Int32)) % (13 : Int32))), .unset, .unset] [(.int ((p1 &&& (2147483647 : Int32)) % (13 : Int32))), (.ref b1)])) _
    refine X27.aaload hx (j := ((p1 &&& (2147483647 : Int32)) % (13 : Int32))) (v := .ref f) (by rw [e27]; exact Ar_b1_101.1) (State.isArrayOf_alike hZ.alike Ar_b1_101.2.1) rfl Ar_b1_101.2.2 hin_b1_101 hat_b1_101 (g := (mkF m 101 #[.val (.int p1), .val (.ref b1), .val (.int ((p1 &&& (2147483647 : Int32)) % (13 : Int32))), .unset, .unset] [(.int ((p1 &&& (2147483647 : Int32)) % (13 : Int32))), (.ref b1)])) rfl rfl (hb hby at_101) _ ?_
    show Steps p.tables e below (T27.setTop (mkF m 102 #[.val (.int p1), .val (.ref b1), .val (.int ((p1 &&& (2147483647 : Int32)) % (13 : Int32))), .unset, .unset] [(.ref f)])) _
    refine XS.astoreN X27.here hx rfl (hb hby at_102) rfl rfl (l' := #[.val (.int p1), .val (.ref b1), .val (.int ((p1 &&& (2147483647 : Int32)) % (13 : Int32))), .val (.ref f), .unset]) rfl ?_
    show Steps p.tables e below (T27.setTop (mkF m 103 #[.val (.int p1), .val (.ref b1), .val (.int ((p1 &&& (2147483647 : Int32)) % (13 : Int32))), .val (.ref f), .unset] [])) _
    refine XS.aloadN X27.here hx rfl (hb hby at_103) rfl rfl ?_
    show Steps p.tables e below (T27.setTop (mkF m 104 #[.val (.int p1), .val (.ref b1), .val (.int ((p1 &&& (2147483647 : Int32)) % (13 : Int32))), .val (.ref f), .unset] [(.ref f)])) _
    refine st28 _ ?_
    show Steps p.tables e below (T28.setTop (mkF m 107 #[.val (.int p1), .val (.ref b1), .val (.int ((p1 &&& (2147483647 : Int32)) % (13 : Int32))), .val (.ref f), .unset] [(.ref w_LRD), (.ref f)])) _
    refine Jvm.RoadKit.acmp (g := (mkF m 107 #[.val (.int p1), .val (.ref b1), .val (.int ((p1 &&& (2147483647 : Int32)) % (13 : Int32))), .val (.ref f), .unset] [(.ref w_LRD), (.ref f)])) X28 hx rfl rfl rfl (pc0 := 107) (pc' := 110) (same := false) rfl (hb hby at_107) rfl (decide_eq_false fun q => hc107 (Value.ref.inj q)) (by decide) (by decide) ?_
    show Steps p.tables e below (T28.setTop (mkF m 110 #[.val (.int p1), .val (.ref b1), .val (.int ((p1 &&& (2147483647 : Int32)) % (13 : Int32))), .val (.ref f), .unset] [])) _
    refine XS.aloadN X28.here hx rfl (hb hby at_110) rfl rfl ?_
    show Steps p.tables e below (T28.setTop (mkF m 111 #[.val (.int p1), .val (.ref b1), .val (.int ((p1 &&& (2147483647 : Int32)) % (13 : Int32))), .val (.ref f), .unset] [(.ref f)])) _
    refine st29 _ ?_
    show Steps p.tables e below (T29.setTop (mkF m 114 #[.val (.int p1), .val (.ref b1), .val (.int ((p1 &&& (2147483647 : Int32)) % (13 : Int32))), .val (.ref f), .unset] [(.ref w_LRI), (.ref f)])) _
    refine Jvm.RoadKit.acmp (g := (mkF m 114 #[.val (.int p1), .val (.ref b1), .val (.int ((p1 &&& (2147483647 : Int32)) % (13 : Int32))), .val (.ref f), .unset] [(.ref w_LRI), (.ref f)])) X29 hx rfl rfl rfl (pc0 := 114) (pc' := 117) (same := true) rfl (hb hby at_114) rfl (decide_eq_true (congrArg Value.ref hc114)) (by decide) (by decide) ?_
    show Steps p.tables e below (T29.setTop (mkF m 117 #[.val (.int p1), .val (.ref b1), .val (.int ((p1 &&& (2147483647 : Int32)) % (13 : Int32))), .val (.ref f), .unset] [])) _
    refine XS.iconst X29.here hx rfl (hb hby at_117) ?_
    show Steps p.tables e below (T29.setTop (mkF m 118 #[.val (.int p1), .val (.ref b1), .val (.int ((p1 &&& (2147483647 : Int32)) % (13 : Int32))), .val (.ref f), .unset] [(.int (1 : Int32))])) _
    refine XS.goto X29.here hx rfl (pc0 := 118) (pc' := 122) rfl (hb hby at_118) (by decide) (by decide) ?_
    show Steps p.tables e below (T29.setTop (mkF m 122 #[.val (.int p1), .val (.ref b1), .val (.int ((p1 &&& (2147483647 : Int32)) % (13 : Int32))), .val (.ref f), .unset] [(.int (1 : Int32))])) _
    refine XS.istore X29.here hx rfl (hb hby at_122) rfl (l' := #[.val (.int p1), .val (.ref b1), .val (.int ((p1 &&& (2147483647 : Int32)) % (13 : Int32))), .val (.ref f), .val (.int (1 : Int32))]) rfl ?_
    show Steps p.tables e below (T29.setTop (mkF m 124 #[.val (.int p1), .val (.ref b1), .val (.int ((p1 &&& (2147483647 : Int32)) % (13 : Int32))), .val (.ref f), .val (.int (1 : Int32))] [])) _
    refine XS.aloadN X29.here hx rfl (hb hby at_124) rfl rfl ?_
    show Steps p.tables e below (T29.setTop (mkF m 125 #[.val (.int p1), .val (.ref b1), .val (.int ((p1 &&& (2147483647 : Int32)) % (13 : Int32))), .val (.ref f), .val (.int (1 : Int32))] [(.ref f)])) _
    refine st30.trans ?_
    show Steps p.tables e below (T30.setTop (mkF m 128 #[.val (.int p1), .val (.ref b1), .val (.int ((p1 &&& (2147483647 : Int32)) % (13 : Int32))), .val (.ref f), .val (.int (1 : Int32))] [(.int z)])) _
    refine XS.iload X30.here hx rfl (hb hby at_128) rfl ?_
    show Steps p.tables e below (T30.setTop (mkF m 130 #[.val (.int p1), .val (.ref b1), .val (.int ((p1 &&& (2147483647 : Int32)) % (13 : Int32))), .val (.ref f), .val (.int (1 : Int32))] [(.int (1 : Int32)), (.int z)])) _
    refine XS.icmpNo X30.here hx rfl (hb hby at_130) rfl (teq (hz2 hc114)).2 ?_
    show Steps p.tables e below (T30.setTop (mkF m 133 #[.val (.int p1), .val (.ref b1), .val (.int ((p1 &&& (2147483647 : Int32)) % (13 : Int32))), .val (.ref f), .val (.int (1 : Int32))] [])) _
    refine XS.iconst X30.here hx rfl (hb hby at_133) ?_
    show Steps p.tables e below (T30.setTop (mkF m 134 #[.val (.int p1), .val (.ref b1), .val (.int ((p1 &&& (2147483647 : Int32)) % (13 : Int32))), .val (.ref f), .val (.int (1 : Int32))] [(.int (1 : Int32))])) _
    refine XS.goto X30.here hx rfl (pc0 := 134) (pc' := 138) rfl (hb hby at_134) (by decide) (by decide) ?_
    show Steps p.tables e below (T30.setTop (mkF m 138 #[.val (.int p1), .val (.ref b1), .val (.int ((p1 &&& (2147483647 : Int32)) % (13 : Int32))), .val (.ref f), .val (.int (1 : Int32))] [(.int (1 : Int32))])) _
    exact retN X30 hx (t := .boolean) Bd.returns (by simp) (hb hby at_138) hr
  · show QL (.int (1 : Int32)) n0 _ T30.heap _
    exact ⟨rfl, N30, trivial⟩
set_option maxRecDepth 65536 in
set_option maxHeartbeats 40000000 in
theorem rm0 (l : Launch) (Z : State) (a0 : Array Value) (hw : ∀ d ∈ tables_1, d.before a0 Z = true) (ws : List Jvm.Cond) (p1 : Int32) (w_ZCA : Addr) (w_ZCO : Addr) (w_OPTIONAL_LDZ_TARIFF : Addr) (w_CCA : Addr) (w_CFI : Addr) (w_CSEP_LDZ_CAPACITY : Addr) (w_CSEP_LDZ_COMMODITY : Addr) (w_CSEP_ADMINISTRATION : Addr) (w_DAILY_METERED_CSEP_ADMINISTRATION : Addr) (w_ECN : Addr) (w_C04 : Addr) (w_LRD : Addr) (w_LRI : Addr) (f : Addr) (sv : Value) (z : Int32) (h0 : Heap) (n0 : Nat) (Z0 : n0 ≤ h0.size) (S_ZCA : Sta Z h0 "com/example/aq_to_pence/aqtopence/ChargeCode" "ZCA" "Lcom/example/aq_to_pence/aqtopence/ChargeCode;" (.ref w_ZCA)) (S_ZCO : Sta Z h0 "com/example/aq_to_pence/aqtopence/ChargeCode" "ZCO" "Lcom/example/aq_to_pence/aqtopence/ChargeCode;" (.ref w_ZCO)) (S_OPTIONAL_LDZ_TARIFF : Sta Z h0 "com/example/aq_to_pence/aqtopence/ChargeCode" "OPTIONAL_LDZ_TARIFF" "Lcom/example/aq_to_pence/aqtopence/ChargeCode;" (.ref w_OPTIONAL_LDZ_TARIFF)) (S_CCA : Sta Z h0 "com/example/aq_to_pence/aqtopence/ChargeCode" "CCA" "Lcom/example/aq_to_pence/aqtopence/ChargeCode;" (.ref w_CCA)) (S_CFI : Sta Z h0 "com/example/aq_to_pence/aqtopence/ChargeCode" "CFI" "Lcom/example/aq_to_pence/aqtopence/ChargeCode;" (.ref w_CFI)) (S_CSEP_LDZ_CAPACITY : Sta Z h0 "com/example/aq_to_pence/aqtopence/ChargeCode" "CSEP_LDZ_CAPACITY" "Lcom/example/aq_to_pence/aqtopence/ChargeCode;" (.ref w_CSEP_LDZ_CAPACITY)) (S_CSEP_LDZ_COMMODITY : Sta Z h0 "com/example/aq_to_pence/aqtopence/ChargeCode" "CSEP_LDZ_COMMODITY" "Lcom/example/aq_to_pence/aqtopence/ChargeCode;" (.ref w_CSEP_LDZ_COMMODITY)) (S_CSEP_ADMINISTRATION : Sta Z h0 "com/example/aq_to_pence/aqtopence/ChargeCode" "CSEP_ADMINISTRATION" "Lcom/example/aq_to_pence/aqtopence/ChargeCode;" (.ref w_CSEP_ADMINISTRATION)) (S_DAILY_METERED_CSEP_ADMINISTRATION : Sta Z h0 "com/example/aq_to_pence/aqtopence/ChargeCode" "DAILY_METERED_CSEP_ADMINISTRATION" "Lcom/example/aq_to_pence/aqtopence/ChargeCode;" (.ref w_DAILY_METERED_CSEP_ADMINISTRATION)) (S_ECN : Sta Z h0 "com/example/aq_to_pence/aqtopence/ChargeCode" "ECN" "Lcom/example/aq_to_pence/aqtopence/ChargeCode;" (.ref w_ECN)) (S_C04 : Sta Z h0 "com/example/aq_to_pence/aqtopence/ChargeCode" "C04" "Lcom/example/aq_to_pence/aqtopence/ChargeCode;" (.ref w_C04)) (S_LRD : Sta Z h0 "com/example/aq_to_pence/aqtopence/ChargeCode" "LRD" "Lcom/example/aq_to_pence/aqtopence/ChargeCode;" (.ref w_LRD)) (S_LRI : Sta Z h0 "com/example/aq_to_pence/aqtopence/ChargeCode" "LRI" "Lcom/example/aq_to_pence/aqtopence/ChargeCode;" (.ref w_LRI)) (E_ZCA : Exa Z h0 w_ZCA "com/example/aq_to_pence/aqtopence/ChargeCode") (E_ZCO : Exa Z h0 w_ZCO "com/example/aq_to_pence/aqtopence/ChargeCode") (E_OPTIONAL_LDZ_TARIFF : Exa Z h0 w_OPTIONAL_LDZ_TARIFF "com/example/aq_to_pence/aqtopence/ChargeCode") (E_CCA : Exa Z h0 w_CCA "com/example/aq_to_pence/aqtopence/ChargeCode") (E_CFI : Exa Z h0 w_CFI "com/example/aq_to_pence/aqtopence/ChargeCode") (E_CSEP_LDZ_CAPACITY : Exa Z h0 w_CSEP_LDZ_CAPACITY "com/example/aq_to_pence/aqtopence/ChargeCode") (E_CSEP_LDZ_COMMODITY : Exa Z h0 w_CSEP_LDZ_COMMODITY "com/example/aq_to_pence/aqtopence/ChargeCode") (E_CSEP_ADMINISTRATION : Exa Z h0 w_CSEP_ADMINISTRATION "com/example/aq_to_pence/aqtopence/ChargeCode") (E_DAILY_METERED_CSEP_ADMINISTRATION : Exa Z h0 w_DAILY_METERED_CSEP_ADMINISTRATION "com/example/aq_to_pence/aqtopence/ChargeCode") (E_ECN : Exa Z h0 w_ECN "com/example/aq_to_pence/aqtopence/ChargeCode") (E_C04 : Exa Z h0 w_C04 "com/example/aq_to_pence/aqtopence/ChargeCode") (E_LRD : Exa Z h0 w_LRD "com/example/aq_to_pence/aqtopence/ChargeCode") (E_LRI : Exa Z h0 w_LRI "com/example/aq_to_pence/aqtopence/ChargeCode") (E_f : Exa Z h0 f "com/example/aq_to_pence/aqtopence/ChargeCode") (F_f : Fld Z h0 f "com/example/aq_to_pence/aqtopence/ChargeCode" "sector" "Lcom/example/aq_to_pence/aqtopence/Sector;" sv) (hz : (sv = .null ∧ z = (0 : Int32)) ∨ (∃ w : Addr, sv = .ref w ∧ z = (1 : Int32))) (hj0 : ¬ ((p1 &&& (2147483647 : Int32)) % (13 : Int32)) < 0) (hj1 : ((p1 &&& (2147483647 : Int32)) % (13 : Int32)) < (13 : Int32)) (hf : ([(.ref w_ZCA), (.ref w_ZCO), (.ref w_OPTIONAL_LDZ_TARIFF), (.ref w_CCA), (.ref w_CFI), (.ref w_CSEP_LDZ_CAPACITY), (.ref w_CSEP_LDZ_COMMODITY), (.ref w_CSEP_ADMINISTRATION), (.ref w_DAILY_METERED_CSEP_ADMINISTRATION), (.ref w_ECN), (.ref w_C04), (.ref w_LRD), (.ref w_LRI)] : List Value).getD (((p1 &&& (2147483647 : Int32)) % (13 : Int32))).toNatClampNeg .null = .ref f) (hz1 : f = w_LRD → z = (1 : Int32)) (hz2 : f = w_LRI → z = (1 : Int32)) (hz3 : ¬ f = w_LRD → ¬ f = w_LRI → z = (0 : Int32)) :
    MetFree l x (head1 (Jvm.Cond.code x code maxLocals ret :: ws) room_1) (fun a U => a = #[(.int p1)] ∧ Z.Warmed39 U.vm ∧ U.heap = h0) (fun _ _ _ _ _ => True) (fun _ U o U' => ∃ v L, o = .returned v ∧ QL (.int (1 : Int32)) n0 v U'.heap L ∧ FrameEnd U o U' L room_1.cells room_1.slots) := by
  by_cases hc107 : f = w_LRD
  · exact rm0_t l Z a0 hw ws p1 w_ZCA w_ZCO w_OPTIONAL_LDZ_TARIFF w_CCA w_CFI w_CSEP_LDZ_CAPACITY w_CSEP_LDZ_COMMODITY w_CSEP_ADMINISTRATION w_DAILY_METERED_CSEP_ADMINISTRATION w_ECN w_C04 w_LRD w_LRI f sv z h0 n0 Z0 S_ZCA S_ZCO S_OPTIONAL_LDZ_TARIFF S_CCA S_CFI S_CSEP_LDZ_CAPACITY S_CSEP_LDZ_COMMODITY S_CSEP_ADMINISTRATION S_DAILY_METERED_CSEP_ADMINISTRATION S_ECN S_C04 S_LRD S_LRI E_ZCA E_ZCO E_OPTIONAL_LDZ_TARIFF E_CCA E_CFI E_CSEP_LDZ_CAPACITY E_CSEP_LDZ_COMMODITY E_CSEP_ADMINISTRATION E_DAILY_METERED_CSEP_ADMINISTRATION E_ECN E_C04 E_LRD E_LRI E_f F_f hz hj0 hj1 hf hz1 hz2 hz3 hc107
  · by_cases hc114 : f = w_LRI
    · exact rm0_ff l Z a0 hw ws p1 w_ZCA w_ZCO w_OPTIONAL_LDZ_TARIFF w_CCA w_CFI w_CSEP_LDZ_CAPACITY w_CSEP_LDZ_COMMODITY w_CSEP_ADMINISTRATION w_DAILY_METERED_CSEP_ADMINISTRATION w_ECN w_C04 w_LRD w_LRI f sv z h0 n0 Z0 S_ZCA S_ZCO S_OPTIONAL_LDZ_TARIFF S_CCA S_CFI S_CSEP_LDZ_CAPACITY S_CSEP_LDZ_COMMODITY S_CSEP_ADMINISTRATION S_DAILY_METERED_CSEP_ADMINISTRATION S_ECN S_C04 S_LRD S_LRI E_ZCA E_ZCO E_OPTIONAL_LDZ_TARIFF E_CCA E_CFI E_CSEP_LDZ_CAPACITY E_CSEP_LDZ_COMMODITY E_CSEP_ADMINISTRATION E_DAILY_METERED_CSEP_ADMINISTRATION E_ECN E_C04 E_LRD E_LRI E_f F_f hz hj0 hj1 hf hz1 hz2 hz3 hc107 hc114
    · exact rm0_ft l Z a0 hw ws p1 w_ZCA w_ZCO w_OPTIONAL_LDZ_TARIFF w_CCA w_CFI w_CSEP_LDZ_CAPACITY w_CSEP_LDZ_COMMODITY w_CSEP_ADMINISTRATION w_DAILY_METERED_CSEP_ADMINISTRATION w_ECN w_C04 w_LRD w_LRI f sv z h0 n0 Z0 S_ZCA S_ZCO S_OPTIONAL_LDZ_TARIFF S_CCA S_CFI S_CSEP_LDZ_CAPACITY S_CSEP_LDZ_COMMODITY S_CSEP_ADMINISTRATION S_DAILY_METERED_CSEP_ADMINISTRATION S_ECN S_C04 S_LRD S_LRI E_ZCA E_ZCO E_OPTIONAL_LDZ_TARIFF E_CCA E_CFI E_CSEP_LDZ_CAPACITY E_CSEP_LDZ_COMMODITY E_CSEP_ADMINISTRATION E_DAILY_METERED_CSEP_ADMINISTRATION E_ECN E_C04 E_LRD E_LRI E_f F_f hz hj0 hj1 hf hz1 hz2 hz3 hc107 hc114
set_option maxRecDepth 65536 in
set_option maxHeartbeats 40000000 in
theorem comes_1 {Post : Tables → Env → Array Value → State → Outcome → State → Prop} (hpost : ∀ tb e args s v u, (limb_1_1.after args s (.returned v) u = true ∧ limb_1_2.after args s (.returned v) u = true ∧ True) → FrameEnd s (.returned v) u (Jvm.fieldLocs frame_1_writes args s ++ Jvm.arrayLocs frame_1_arrays args s ++ Jvm.staticLocs frame_1_statics s) 16 128 → Post tb e args s (.returned v) u) :
    ArmFor flags0 classFile x code maxLocals ret World_1 tables_1 room_1 Calls_1 rest_1 Pre_1 Post := by
  intro l hfl _ _ p e ha hc hk s m args below hf hA hF happ hP
  obtain ⟨hcalls, hrest, hpre⟩ := hP
  obtain ⟨-, -, -, hnamed, -, -, -, hat⟩ := (Spec.applies_iff hf).mp happ
  obtain ⟨hg, hn⟩ := and_e (Cond.before_iff.mp (show (Jvm.Cond.and given_1 narrow_1).before args s = true from hpre))
  obtain ⟨hg0, hgr0⟩ := and_e hg
  have hg1 := hgr0
  obtain ⟨w0, rfl⟩ : ∃ w0 : Value, args = #[w0] := by
    have hs : args.size = 1 := by simpa [Cond.value, given_1] using hg0
    obtain ⟨L⟩ := args
    match L, hs with
    | [w0], _ => exact ⟨w0, rfl⟩
  have hw := fun d (hd : d ∈ tables_1) => atoms_spec (ws := Jvm.Cond.code x code maxLocals ret :: tables_1) hat d (List.mem_cons_of_mem _ hd)
  have hfit : Fit s := fun {y c} hc i hi => by
    obtain ⟨ha, rfl⟩ := Array.getElem?_eq_some_iff.mp hc
    have q := List.all_eq_true.mp ((Array.all_eq_true_iff_forall_mem.mp hF) _ (Array.getElem_mem ha)) i (List.mem_range.mpr hi)
    simpa [Array.getElem?_eq_getElem hi] using q
  obtain ⟨i0, ei0⟩ := is_v hg1
  obtain rfl : w0 = (.int i0) := Option.some.inj ei0
  obtain ⟨hn0, hnr0⟩ := and_e hn
  obtain ⟨hn1, hnr1⟩ := and_e hnr0
  obtain ⟨hn2, hnr2⟩ := and_e hnr1
  obtain ⟨hn3, hnr3⟩ := and_e hnr2
  obtain ⟨hn4, hnr4⟩ := and_e hnr3
  obtain ⟨hn5, hnr5⟩ := and_e hnr4
  obtain ⟨hn6, hnr6⟩ := and_e hnr5
  obtain ⟨hn7, hnr7⟩ := and_e hnr6
  obtain ⟨hn8, hnr8⟩ := and_e hnr7
  obtain ⟨hn9, hnr9⟩ := and_e hnr8
  obtain ⟨hn10, hnr10⟩ := and_e hnr9
  obtain ⟨hn11, hnr11⟩ := and_e hnr10
  obtain ⟨hn12, hnr12⟩ := and_e hnr11
  obtain ⟨hn13, hnr13⟩ := and_e hnr12
  obtain ⟨hn14, hnr14⟩ := and_e hnr13
  obtain ⟨hn15, hnr15⟩ := and_e hnr14
  obtain ⟨hn16, hnr16⟩ := and_e hnr15
  obtain ⟨hn17, hnr17⟩ := and_e hnr16
  obtain ⟨hn18, hnr18⟩ := and_e hnr17
  obtain ⟨hn19, hnr19⟩ := and_e hnr18
  obtain ⟨hn20, hnr20⟩ := and_e hnr19
  obtain ⟨hn21, hnr21⟩ := and_e hnr20
  obtain ⟨hn22, hnr22⟩ := and_e hnr21
  obtain ⟨hn23, hnr23⟩ := and_e hnr22
  obtain ⟨hn24, hnr24⟩ := and_e hnr23
  obtain ⟨hn25, hnr25⟩ := and_e hnr24
  obtain ⟨hn26, hnr26⟩ := and_e hnr25
  obtain ⟨hn27, hnr27⟩ := and_e hnr26
  obtain ⟨hn28, hnr28⟩ := and_e hnr27
  obtain ⟨hn29, hnr29⟩ := and_e hnr28
  obtain ⟨hn30, hnr30⟩ := and_e hnr29
  obtain ⟨hn31, hnr31⟩ := and_e hnr30
  obtain ⟨hn32, hnr32⟩ := and_e hnr31
  obtain ⟨hn33, hnr33⟩ := and_e hnr32
  obtain ⟨hn34, hnr34⟩ := and_e hnr33
  obtain ⟨hn35, hnr35⟩ := and_e hnr34
  obtain ⟨hn36, hnr36⟩ := and_e hnr35
  obtain ⟨hn37, hnr37⟩ := and_e hnr36
  obtain ⟨hn38, hnr38⟩ := and_e hnr37
  obtain ⟨hn39, hnr39⟩ := and_e hnr38
  have hn40 := hnr39
  obtain ⟨w_ZCA, ev_ZCA⟩ := exa_v hn0
  have S_ZCA := Sta.start ev_ZCA (Or.inr ⟨(hw _ (List.mem_of_getElem? (i := 3) rfl)), (hw _ (List.mem_of_getElem? (i := 4) rfl))⟩)
  have E_ZCA := Exa.start ev_ZCA hn0
  obtain ⟨w_ZCO, ev_ZCO⟩ := exa_v hn1
  have S_ZCO := Sta.start ev_ZCO (Or.inr ⟨(hw _ (List.mem_of_getElem? (i := 3) rfl)), (hw _ (List.mem_of_getElem? (i := 7) rfl))⟩)
  have E_ZCO := Exa.start ev_ZCO hn1
  obtain ⟨w_OPTIONAL_LDZ_TARIFF, ev_OPTIONAL_LDZ_TARIFF⟩ := exa_v hn2
  have S_OPTIONAL_LDZ_TARIFF := Sta.start ev_OPTIONAL_LDZ_TARIFF (Or.inr ⟨(hw _ (List.mem_of_getElem? (i := 3) rfl)), (hw _ (List.mem_of_getElem? (i := 9) rfl))⟩)
  have E_OPTIONAL_LDZ_TARIFF := Exa.start ev_OPTIONAL_LDZ_TARIFF hn2
  obtain ⟨w_CCA, ev_CCA⟩ := exa_v hn3
  have S_CCA := Sta.start ev_CCA (Or.inr ⟨(hw _ (List.mem_of_getElem? (i := 3) rfl)), (hw _ (List.mem_of_getElem? (i := 11) rfl))⟩)
  have E_CCA := Exa.start ev_CCA hn3
  obtain ⟨w_CFI, ev_CFI⟩ := exa_v hn4
  have S_CFI := Sta.start ev_CFI (Or.inr ⟨(hw _ (List.mem_of_getElem? (i := 3) rfl)), (hw _ (List.mem_of_getElem? (i := 13) rfl))⟩)
  have E_CFI := Exa.start ev_CFI hn4
  obtain ⟨w_CSEP_LDZ_CAPACITY, ev_CSEP_LDZ_CAPACITY⟩ := exa_v hn5
  have S_CSEP_LDZ_CAPACITY := Sta.start ev_CSEP_LDZ_CAPACITY (Or.inr ⟨(hw _ (List.mem_of_getElem? (i := 3) rfl)), (hw _ (List.mem_of_getElem? (i := 15) rfl))⟩)
  have E_CSEP_LDZ_CAPACITY := Exa.start ev_CSEP_LDZ_CAPACITY hn5
  obtain ⟨w_CSEP_LDZ_COMMODITY, ev_CSEP_LDZ_COMMODITY⟩ := exa_v hn6
  have S_CSEP_LDZ_COMMODITY := Sta.start ev_CSEP_LDZ_COMMODITY (Or.inr ⟨(hw _ (List.mem_of_getElem? (i := 3) rfl)), (hw _ (List.mem_of_getElem? (i := 17) rfl))⟩)
  have E_CSEP_LDZ_COMMODITY := Exa.start ev_CSEP_LDZ_COMMODITY hn6
  obtain ⟨w_CSEP_ADMINISTRATION, ev_CSEP_ADMINISTRATION⟩ := exa_v hn7
  have S_CSEP_ADMINISTRATION := Sta.start ev_CSEP_ADMINISTRATION (Or.inr ⟨(hw _ (List.mem_of_getElem? (i := 3) rfl)), (hw _ (List.mem_of_getElem? (i := 19) rfl))⟩)
  have E_CSEP_ADMINISTRATION := Exa.start ev_CSEP_ADMINISTRATION hn7
  obtain ⟨w_DAILY_METERED_CSEP_ADMINISTRATION, ev_DAILY_METERED_CSEP_ADMINISTRATION⟩ := exa_v hn8
  have S_DAILY_METERED_CSEP_ADMINISTRATION := Sta.start ev_DAILY_METERED_CSEP_ADMINISTRATION (Or.inr ⟨(hw _ (List.mem_of_getElem? (i := 3) rfl)), (hw _ (List.mem_of_getElem? (i := 21) rfl))⟩)
  have E_DAILY_METERED_CSEP_ADMINISTRATION := Exa.start ev_DAILY_METERED_CSEP_ADMINISTRATION hn8
  obtain ⟨w_ECN, ev_ECN⟩ := exa_v hn9
  have S_ECN := Sta.start ev_ECN (Or.inr ⟨(hw _ (List.mem_of_getElem? (i := 3) rfl)), (hw _ (List.mem_of_getElem? (i := 23) rfl))⟩)
  have E_ECN := Exa.start ev_ECN hn9
  obtain ⟨w_C04, ev_C04⟩ := exa_v hn10
  have S_C04 := Sta.start ev_C04 (Or.inr ⟨(hw _ (List.mem_of_getElem? (i := 3) rfl)), (hw _ (List.mem_of_getElem? (i := 25) rfl))⟩)
  have E_C04 := Exa.start ev_C04 hn10
  obtain ⟨w_LRD, ev_LRD⟩ := exa_v hn11
  have S_LRD := Sta.start ev_LRD (Or.inr ⟨(hw _ (List.mem_of_getElem? (i := 3) rfl)), (hw _ (List.mem_of_getElem? (i := 27) rfl))⟩)
  have E_LRD := Exa.start ev_LRD hn11
  obtain ⟨w_LRI, ev_LRI⟩ := exa_v hn12
  have S_LRI := Sta.start ev_LRI (Or.inr ⟨(hw _ (List.mem_of_getElem? (i := 3) rfl)), (hw _ (List.mem_of_getElem? (i := 29) rfl))⟩)
  have E_LRI := Exa.start ev_LRI hn12
  obtain ⟨w_DOMESTIC, ev_DOMESTIC⟩ := exa_v hn29
  have S_DOMESTIC := Sta.start ev_DOMESTIC (Or.inr ⟨(hw _ (List.mem_of_getElem? (i := 38) rfl)), (hw _ (List.mem_of_getElem? (i := 39) rfl))⟩)
  have E_DOMESTIC := Exa.start ev_DOMESTIC hn29
  obtain ⟨w_INDUSTRIAL_AND_COMMERCIAL, ev_INDUSTRIAL_AND_COMMERCIAL⟩ := exa_v hn37
  have S_INDUSTRIAL_AND_COMMERCIAL := Sta.start ev_INDUSTRIAL_AND_COMMERCIAL (Or.inr ⟨(hw _ (List.mem_of_getElem? (i := 38) rfl)), (hw _ (List.mem_of_getElem? (i := 40) rfl))⟩)
  have E_INDUSTRIAL_AND_COMMERCIAL := Exa.start ev_INDUSTRIAL_AND_COMMERCIAL hn37
  have F_ZCA_ordinal := own_fldI ev_ZCA hn13
  have F_LRD_ordinal := own_fldI ev_LRD hn14
  have F_LRI_ordinal := own_fldI ev_LRI hn15
  have F_CCA_ordinal := own_fldI ev_CCA hn17
  have F_CSEP_LDZ_COMMODITY_ordinal := own_fldI ev_CSEP_LDZ_COMMODITY hn19
  have F_CSEP_LDZ_CAPACITY_ordinal := own_fldI ev_CSEP_LDZ_CAPACITY hn21
  have F_CSEP_ADMINISTRATION_ordinal := own_fldI ev_CSEP_ADMINISTRATION hn23
  have F_ECN_ordinal := own_fldI ev_ECN hn25
  have F_OPTIONAL_LDZ_TARIFF_ordinal := own_fldI ev_OPTIONAL_LDZ_TARIFF hn27
  have F_ZCO_ordinal := own_fldI ev_ZCO hn31
  have F_DAILY_METERED_CSEP_ADMINISTRATION_ordinal := own_fldI ev_DAILY_METERED_CSEP_ADMINISTRATION hn33
  have F_C04_ordinal := own_fldI ev_C04 hn35
  have F_CFI_ordinal := own_fldI ev_CFI hn39
  have F_ZCA_sector := own_fldN ev_ZCA hn16
  have F_ZCO_sector := own_fldN ev_ZCO hn32
  have F_OPTIONAL_LDZ_TARIFF_sector := own_fldN ev_OPTIONAL_LDZ_TARIFF hn28
  have F_CCA_sector := own_fldN ev_CCA hn18
  have F_CFI_sector := own_fldN ev_CFI hn40
  have F_CSEP_LDZ_CAPACITY_sector := own_fldN ev_CSEP_LDZ_CAPACITY hn22
  have F_CSEP_LDZ_COMMODITY_sector := own_fldN ev_CSEP_LDZ_COMMODITY hn20
  have F_CSEP_ADMINISTRATION_sector := own_fldN ev_CSEP_ADMINISTRATION hn24
  have F_DAILY_METERED_CSEP_ADMINISTRATION_sector := own_fldN ev_DAILY_METERED_CSEP_ADMINISTRATION hn34
  have F_ECN_sector := own_fldN ev_ECN hn26
  have F_C04_sector := own_fldN ev_C04 hn36
  have F_LRD_sector := own_fldR ev_LRD ev_DOMESTIC hn30
  have F_LRI_sector := own_fldR ev_LRI ev_INDUSTRIAL_AND_COMMERCIAL hn38
  have ne_ZCA_LRD := own_ne F_ZCA_ordinal F_LRD_ordinal (by decide)
  have ne_ZCA_LRI := own_ne F_ZCA_ordinal F_LRI_ordinal (by decide)
  have ne_ZCO_LRD := own_ne F_ZCO_ordinal F_LRD_ordinal (by decide)
  have ne_ZCO_LRI := own_ne F_ZCO_ordinal F_LRI_ordinal (by decide)
  have ne_OPTIONAL_LDZ_TARIFF_LRD := own_ne F_OPTIONAL_LDZ_TARIFF_ordinal F_LRD_ordinal (by decide)
  have ne_OPTIONAL_LDZ_TARIFF_LRI := own_ne F_OPTIONAL_LDZ_TARIFF_ordinal F_LRI_ordinal (by decide)
  have ne_CCA_LRD := own_ne F_CCA_ordinal F_LRD_ordinal (by decide)
  have ne_CCA_LRI := own_ne F_CCA_ordinal F_LRI_ordinal (by decide)
  have ne_CFI_LRD := own_ne F_CFI_ordinal F_LRD_ordinal (by decide)
  have ne_CFI_LRI := own_ne F_CFI_ordinal F_LRI_ordinal (by decide)
  have ne_CSEP_LDZ_CAPACITY_LRD := own_ne F_CSEP_LDZ_CAPACITY_ordinal F_LRD_ordinal (by decide)
  have ne_CSEP_LDZ_CAPACITY_LRI := own_ne F_CSEP_LDZ_CAPACITY_ordinal F_LRI_ordinal (by decide)
  have ne_CSEP_LDZ_COMMODITY_LRD := own_ne F_CSEP_LDZ_COMMODITY_ordinal F_LRD_ordinal (by decide)
  have ne_CSEP_LDZ_COMMODITY_LRI := own_ne F_CSEP_LDZ_COMMODITY_ordinal F_LRI_ordinal (by decide)
  have ne_CSEP_ADMINISTRATION_LRD := own_ne F_CSEP_ADMINISTRATION_ordinal F_LRD_ordinal (by decide)
  have ne_CSEP_ADMINISTRATION_LRI := own_ne F_CSEP_ADMINISTRATION_ordinal F_LRI_ordinal (by decide)
  have ne_DAILY_METERED_CSEP_ADMINISTRATION_LRD := own_ne F_DAILY_METERED_CSEP_ADMINISTRATION_ordinal F_LRD_ordinal (by decide)
  have ne_DAILY_METERED_CSEP_ADMINISTRATION_LRI := own_ne F_DAILY_METERED_CSEP_ADMINISTRATION_ordinal F_LRI_ordinal (by decide)
  have ne_ECN_LRD := own_ne F_ECN_ordinal F_LRD_ordinal (by decide)
  have ne_ECN_LRI := own_ne F_ECN_ordinal F_LRI_ordinal (by decide)
  have ne_C04_LRD := own_ne F_C04_ordinal F_LRD_ordinal (by decide)
  have ne_C04_LRI := own_ne F_C04_ordinal F_LRI_ordinal (by decide)
  have ne_LRD_LRI := own_ne F_LRD_ordinal F_LRI_ordinal (by decide)
  have ne_LRI_LRD := own_ne F_LRI_ordinal F_LRD_ordinal (by decide)
  rcases own_rem i0 with hv | hv | hv | hv | hv | hv | hv | hv | hv | hv | hv | hv | hv
  · obtain ⟨n, o, h1, h2, h3, _, L, rfl, ⟨rfl, N, -⟩, hq⟩ := rm0 l s _ hw tables_1 i0 w_ZCA w_ZCO w_OPTIONAL_LDZ_TARIFF w_CCA w_CFI w_CSEP_LDZ_CAPACITY w_CSEP_LDZ_COMMODITY w_CSEP_ADMINISTRATION w_DAILY_METERED_CSEP_ADMINISTRATION w_ECN w_C04 w_LRD w_LRI w_ZCA _ (0 : Int32) s.heap s.heap.size (Nat.le_refl _) S_ZCA S_ZCO S_OPTIONAL_LDZ_TARIFF S_CCA S_CFI S_CSEP_LDZ_CAPACITY S_CSEP_LDZ_COMMODITY S_CSEP_ADMINISTRATION S_DAILY_METERED_CSEP_ADMINISTRATION S_ECN S_C04 S_LRD S_LRI E_ZCA E_ZCO E_OPTIONAL_LDZ_TARIFF E_CCA E_CFI E_CSEP_LDZ_CAPACITY E_CSEP_LDZ_COMMODITY E_CSEP_ADMINISTRATION E_DAILY_METERED_CSEP_ADMINISTRATION E_ECN E_C04 E_LRD E_LRI E_ZCA F_ZCA_sector (Or.inl ⟨rfl, rfl⟩) (by rw [hv]; decide) (by rw [hv]; decide) (by rw [hv]; rfl) (fun q => absurd q ne_ZCA_LRD) (fun q => absurd q ne_ZCA_LRI) (fun _ _ => rfl) p e ha hc hk s m _ below hf ((Spec.applies_iff_loose hf).mp happ).1 ⟨rfl, State.Warmed39.refl s, rfl⟩ trivial
    exact ⟨n, _, h1, h2, h3, hpost _ _ _ _ _ _ ⟨Cond.after_iff.mpr rfl, Cond.after_iff.mpr (eq_i res_at (Term.int_eval (1)) rfl), trivial⟩ ⟨hq.1, hq.2.1, (hq.2.2.sift fun y hy => Or.inr (N y hy)).mono (by decide) (by decide)⟩⟩
  · obtain ⟨n, o, h1, h2, h3, _, L, rfl, ⟨rfl, N, -⟩, hq⟩ := rm0 l s _ hw tables_1 i0 w_ZCA w_ZCO w_OPTIONAL_LDZ_TARIFF w_CCA w_CFI w_CSEP_LDZ_CAPACITY w_CSEP_LDZ_COMMODITY w_CSEP_ADMINISTRATION w_DAILY_METERED_CSEP_ADMINISTRATION w_ECN w_C04 w_LRD w_LRI w_ZCO _ (0 : Int32) s.heap s.heap.size (Nat.le_refl _) S_ZCA S_ZCO S_OPTIONAL_LDZ_TARIFF S_CCA S_CFI S_CSEP_LDZ_CAPACITY S_CSEP_LDZ_COMMODITY S_CSEP_ADMINISTRATION S_DAILY_METERED_CSEP_ADMINISTRATION S_ECN S_C04 S_LRD S_LRI E_ZCA E_ZCO E_OPTIONAL_LDZ_TARIFF E_CCA E_CFI E_CSEP_LDZ_CAPACITY E_CSEP_LDZ_COMMODITY E_CSEP_ADMINISTRATION E_DAILY_METERED_CSEP_ADMINISTRATION E_ECN E_C04 E_LRD E_LRI E_ZCO F_ZCO_sector (Or.inl ⟨rfl, rfl⟩) (by rw [hv]; decide) (by rw [hv]; decide) (by rw [hv]; rfl) (fun q => absurd q ne_ZCO_LRD) (fun q => absurd q ne_ZCO_LRI) (fun _ _ => rfl) p e ha hc hk s m _ below hf ((Spec.applies_iff_loose hf).mp happ).1 ⟨rfl, State.Warmed39.refl s, rfl⟩ trivial
    exact ⟨n, _, h1, h2, h3, hpost _ _ _ _ _ _ ⟨Cond.after_iff.mpr rfl, Cond.after_iff.mpr (eq_i res_at (Term.int_eval (1)) rfl), trivial⟩ ⟨hq.1, hq.2.1, (hq.2.2.sift fun y hy => Or.inr (N y hy)).mono (by decide) (by decide)⟩⟩
  · obtain ⟨n, o, h1, h2, h3, _, L, rfl, ⟨rfl, N, -⟩, hq⟩ := rm0 l s _ hw tables_1 i0 w_ZCA w_ZCO w_OPTIONAL_LDZ_TARIFF w_CCA w_CFI w_CSEP_LDZ_CAPACITY w_CSEP_LDZ_COMMODITY w_CSEP_ADMINISTRATION w_DAILY_METERED_CSEP_ADMINISTRATION w_ECN w_C04 w_LRD w_LRI w_OPTIONAL_LDZ_TARIFF _ (0 : Int32) s.heap s.heap.size (Nat.le_refl _) S_ZCA S_ZCO S_OPTIONAL_LDZ_TARIFF S_CCA S_CFI S_CSEP_LDZ_CAPACITY S_CSEP_LDZ_COMMODITY S_CSEP_ADMINISTRATION S_DAILY_METERED_CSEP_ADMINISTRATION S_ECN S_C04 S_LRD S_LRI E_ZCA E_ZCO E_OPTIONAL_LDZ_TARIFF E_CCA E_CFI E_CSEP_LDZ_CAPACITY E_CSEP_LDZ_COMMODITY E_CSEP_ADMINISTRATION E_DAILY_METERED_CSEP_ADMINISTRATION E_ECN E_C04 E_LRD E_LRI E_OPTIONAL_LDZ_TARIFF F_OPTIONAL_LDZ_TARIFF_sector (Or.inl ⟨rfl, rfl⟩) (by rw [hv]; decide) (by rw [hv]; decide) (by rw [hv]; rfl) (fun q => absurd q ne_OPTIONAL_LDZ_TARIFF_LRD) (fun q => absurd q ne_OPTIONAL_LDZ_TARIFF_LRI) (fun _ _ => rfl) p e ha hc hk s m _ below hf ((Spec.applies_iff_loose hf).mp happ).1 ⟨rfl, State.Warmed39.refl s, rfl⟩ trivial
    exact ⟨n, _, h1, h2, h3, hpost _ _ _ _ _ _ ⟨Cond.after_iff.mpr rfl, Cond.after_iff.mpr (eq_i res_at (Term.int_eval (1)) rfl), trivial⟩ ⟨hq.1, hq.2.1, (hq.2.2.sift fun y hy => Or.inr (N y hy)).mono (by decide) (by decide)⟩⟩
  · obtain ⟨n, o, h1, h2, h3, _, L, rfl, ⟨rfl, N, -⟩, hq⟩ := rm0 l s _ hw tables_1 i0 w_ZCA w_ZCO w_OPTIONAL_LDZ_TARIFF w_CCA w_CFI w_CSEP_LDZ_CAPACITY w_CSEP_LDZ_COMMODITY w_CSEP_ADMINISTRATION w_DAILY_METERED_CSEP_ADMINISTRATION w_ECN w_C04 w_LRD w_LRI w_CCA _ (0 : Int32) s.heap s.heap.size (Nat.le_refl _) S_ZCA S_ZCO S_OPTIONAL_LDZ_TARIFF S_CCA S_CFI S_CSEP_LDZ_CAPACITY S_CSEP_LDZ_COMMODITY S_CSEP_ADMINISTRATION S_DAILY_METERED_CSEP_ADMINISTRATION S_ECN S_C04 S_LRD S_LRI E_ZCA E_ZCO E_OPTIONAL_LDZ_TARIFF E_CCA E_CFI E_CSEP_LDZ_CAPACITY E_CSEP_LDZ_COMMODITY E_CSEP_ADMINISTRATION E_DAILY_METERED_CSEP_ADMINISTRATION E_ECN E_C04 E_LRD E_LRI E_CCA F_CCA_sector (Or.inl ⟨rfl, rfl⟩) (by rw [hv]; decide) (by rw [hv]; decide) (by rw [hv]; rfl) (fun q => absurd q ne_CCA_LRD) (fun q => absurd q ne_CCA_LRI) (fun _ _ => rfl) p e ha hc hk s m _ below hf ((Spec.applies_iff_loose hf).mp happ).1 ⟨rfl, State.Warmed39.refl s, rfl⟩ trivial
    exact ⟨n, _, h1, h2, h3, hpost _ _ _ _ _ _ ⟨Cond.after_iff.mpr rfl, Cond.after_iff.mpr (eq_i res_at (Term.int_eval (1)) rfl), trivial⟩ ⟨hq.1, hq.2.1, (hq.2.2.sift fun y hy => Or.inr (N y hy)).mono (by decide) (by decide)⟩⟩
  · obtain ⟨n, o, h1, h2, h3, _, L, rfl, ⟨rfl, N, -⟩, hq⟩ := rm0 l s _ hw tables_1 i0 w_ZCA w_ZCO w_OPTIONAL_LDZ_TARIFF w_CCA w_CFI w_CSEP_LDZ_CAPACITY w_CSEP_LDZ_COMMODITY w_CSEP_ADMINISTRATION w_DAILY_METERED_CSEP_ADMINISTRATION w_ECN w_C04 w_LRD w_LRI w_CFI _ (0 : Int32) s.heap s.heap.size (Nat.le_refl _) S_ZCA S_ZCO S_OPTIONAL_LDZ_TARIFF S_CCA S_CFI S_CSEP_LDZ_CAPACITY S_CSEP_LDZ_COMMODITY S_CSEP_ADMINISTRATION S_DAILY_METERED_CSEP_ADMINISTRATION S_ECN S_C04 S_LRD S_LRI E_ZCA E_ZCO E_OPTIONAL_LDZ_TARIFF E_CCA E_CFI E_CSEP_LDZ_CAPACITY E_CSEP_LDZ_COMMODITY E_CSEP_ADMINISTRATION E_DAILY_METERED_CSEP_ADMINISTRATION E_ECN E_C04 E_LRD E_LRI E_CFI F_CFI_sector (Or.inl ⟨rfl, rfl⟩) (by rw [hv]; decide) (by rw [hv]; decide) (by rw [hv]; rfl) (fun q => absurd q ne_CFI_LRD) (fun q => absurd q ne_CFI_LRI) (fun _ _ => rfl) p e ha hc hk s m _ below hf ((Spec.applies_iff_loose hf).mp happ).1 ⟨rfl, State.Warmed39.refl s, rfl⟩ trivial
    exact ⟨n, _, h1, h2, h3, hpost _ _ _ _ _ _ ⟨Cond.after_iff.mpr rfl, Cond.after_iff.mpr (eq_i res_at (Term.int_eval (1)) rfl), trivial⟩ ⟨hq.1, hq.2.1, (hq.2.2.sift fun y hy => Or.inr (N y hy)).mono (by decide) (by decide)⟩⟩
  · obtain ⟨n, o, h1, h2, h3, _, L, rfl, ⟨rfl, N, -⟩, hq⟩ := rm0 l s _ hw tables_1 i0 w_ZCA w_ZCO w_OPTIONAL_LDZ_TARIFF w_CCA w_CFI w_CSEP_LDZ_CAPACITY w_CSEP_LDZ_COMMODITY w_CSEP_ADMINISTRATION w_DAILY_METERED_CSEP_ADMINISTRATION w_ECN w_C04 w_LRD w_LRI w_CSEP_LDZ_CAPACITY _ (0 : Int32) s.heap s.heap.size (Nat.le_refl _) S_ZCA S_ZCO S_OPTIONAL_LDZ_TARIFF S_CCA S_CFI S_CSEP_LDZ_CAPACITY S_CSEP_LDZ_COMMODITY S_CSEP_ADMINISTRATION S_DAILY_METERED_CSEP_ADMINISTRATION S_ECN S_C04 S_LRD S_LRI E_ZCA E_ZCO E_OPTIONAL_LDZ_TARIFF E_CCA E_CFI E_CSEP_LDZ_CAPACITY E_CSEP_LDZ_COMMODITY E_CSEP_ADMINISTRATION E_DAILY_METERED_CSEP_ADMINISTRATION E_ECN E_C04 E_LRD E_LRI E_CSEP_LDZ_CAPACITY F_CSEP_LDZ_CAPACITY_sector (Or.inl ⟨rfl, rfl⟩) (by rw [hv]; decide) (by rw [hv]; decide) (by rw [hv]; rfl) (fun q => absurd q ne_CSEP_LDZ_CAPACITY_LRD) (fun q => absurd q ne_CSEP_LDZ_CAPACITY_LRI) (fun _ _ => rfl) p e ha hc hk s m _ below hf ((Spec.applies_iff_loose hf).mp happ).1 ⟨rfl, State.Warmed39.refl s, rfl⟩ trivial
    exact ⟨n, _, h1, h2, h3, hpost _ _ _ _ _ _ ⟨Cond.after_iff.mpr rfl, Cond.after_iff.mpr (eq_i res_at (Term.int_eval (1)) rfl), trivial⟩ ⟨hq.1, hq.2.1, (hq.2.2.sift fun y hy => Or.inr (N y hy)).mono (by decide) (by decide)⟩⟩
  · obtain ⟨n, o, h1, h2, h3, _, L, rfl, ⟨rfl, N, -⟩, hq⟩ := rm0 l s _ hw tables_1 i0 w_ZCA w_ZCO w_OPTIONAL_LDZ_TARIFF w_CCA w_CFI w_CSEP_LDZ_CAPACITY w_CSEP_LDZ_COMMODITY w_CSEP_ADMINISTRATION w_DAILY_METERED_CSEP_ADMINISTRATION w_ECN w_C04 w_LRD w_LRI w_CSEP_LDZ_COMMODITY _ (0 : Int32) s.heap s.heap.size (Nat.le_refl _) S_ZCA S_ZCO S_OPTIONAL_LDZ_TARIFF S_CCA S_CFI S_CSEP_LDZ_CAPACITY S_CSEP_LDZ_COMMODITY S_CSEP_ADMINISTRATION S_DAILY_METERED_CSEP_ADMINISTRATION S_ECN S_C04 S_LRD S_LRI E_ZCA E_ZCO E_OPTIONAL_LDZ_TARIFF E_CCA E_CFI E_CSEP_LDZ_CAPACITY E_CSEP_LDZ_COMMODITY E_CSEP_ADMINISTRATION E_DAILY_METERED_CSEP_ADMINISTRATION E_ECN E_C04 E_LRD E_LRI E_CSEP_LDZ_COMMODITY F_CSEP_LDZ_COMMODITY_sector (Or.inl ⟨rfl, rfl⟩) (by rw [hv]; decide) (by rw [hv]; decide) (by rw [hv]; rfl) (fun q => absurd q ne_CSEP_LDZ_COMMODITY_LRD) (fun q => absurd q ne_CSEP_LDZ_COMMODITY_LRI) (fun _ _ => rfl) p e ha hc hk s m _ below hf ((Spec.applies_iff_loose hf).mp happ).1 ⟨rfl, State.Warmed39.refl s, rfl⟩ trivial
    exact ⟨n, _, h1, h2, h3, hpost _ _ _ _ _ _ ⟨Cond.after_iff.mpr rfl, Cond.after_iff.mpr (eq_i res_at (Term.int_eval (1)) rfl), trivial⟩ ⟨hq.1, hq.2.1, (hq.2.2.sift fun y hy => Or.inr (N y hy)).mono (by decide) (by decide)⟩⟩
  · obtain ⟨n, o, h1, h2, h3, _, L, rfl, ⟨rfl, N, -⟩, hq⟩ := rm0 l s _ hw tables_1 i0 w_ZCA w_ZCO w_OPTIONAL_LDZ_TARIFF w_CCA w_CFI w_CSEP_LDZ_CAPACITY w_CSEP_LDZ_COMMODITY w_CSEP_ADMINISTRATION w_DAILY_METERED_CSEP_ADMINISTRATION w_ECN w_C04 w_LRD w_LRI w_CSEP_ADMINISTRATION _ (0 : Int32) s.heap s.heap.size (Nat.le_refl _) S_ZCA S_ZCO S_OPTIONAL_LDZ_TARIFF S_CCA S_CFI S_CSEP_LDZ_CAPACITY S_CSEP_LDZ_COMMODITY S_CSEP_ADMINISTRATION S_DAILY_METERED_CSEP_ADMINISTRATION S_ECN S_C04 S_LRD S_LRI E_ZCA E_ZCO E_OPTIONAL_LDZ_TARIFF E_CCA E_CFI E_CSEP_LDZ_CAPACITY E_CSEP_LDZ_COMMODITY E_CSEP_ADMINISTRATION E_DAILY_METERED_CSEP_ADMINISTRATION E_ECN E_C04 E_LRD E_LRI E_CSEP_ADMINISTRATION F_CSEP_ADMINISTRATION_sector (Or.inl ⟨rfl, rfl⟩) (by rw [hv]; decide) (by rw [hv]; decide) (by rw [hv]; rfl) (fun q => absurd q ne_CSEP_ADMINISTRATION_LRD) (fun q => absurd q ne_CSEP_ADMINISTRATION_LRI) (fun _ _ => rfl) p e ha hc hk s m _ below hf ((Spec.applies_iff_loose hf).mp happ).1 ⟨rfl, State.Warmed39.refl s, rfl⟩ trivial
    exact ⟨n, _, h1, h2, h3, hpost _ _ _ _ _ _ ⟨Cond.after_iff.mpr rfl, Cond.after_iff.mpr (eq_i res_at (Term.int_eval (1)) rfl), trivial⟩ ⟨hq.1, hq.2.1, (hq.2.2.sift fun y hy => Or.inr (N y hy)).mono (by decide) (by decide)⟩⟩
  · obtain ⟨n, o, h1, h2, h3, _, L, rfl, ⟨rfl, N, -⟩, hq⟩ := rm0 l s _ hw tables_1 i0 w_ZCA w_ZCO w_OPTIONAL_LDZ_TARIFF w_CCA w_CFI w_CSEP_LDZ_CAPACITY w_CSEP_LDZ_COMMODITY w_CSEP_ADMINISTRATION w_DAILY_METERED_CSEP_ADMINISTRATION w_ECN w_C04 w_LRD w_LRI w_DAILY_METERED_CSEP_ADMINISTRATION _ (0 : Int32) s.heap s.heap.size (Nat.le_refl _) S_ZCA S_ZCO S_OPTIONAL_LDZ_TARIFF S_CCA S_CFI S_CSEP_LDZ_CAPACITY S_CSEP_LDZ_COMMODITY S_CSEP_ADMINISTRATION S_DAILY_METERED_CSEP_ADMINISTRATION S_ECN S_C04 S_LRD S_LRI E_ZCA E_ZCO E_OPTIONAL_LDZ_TARIFF E_CCA E_CFI E_CSEP_LDZ_CAPACITY E_CSEP_LDZ_COMMODITY E_CSEP_ADMINISTRATION E_DAILY_METERED_CSEP_ADMINISTRATION E_ECN E_C04 E_LRD E_LRI E_DAILY_METERED_CSEP_ADMINISTRATION F_DAILY_METERED_CSEP_ADMINISTRATION_sector (Or.inl ⟨rfl, rfl⟩) (by rw [hv]; decide) (by rw [hv]; decide) (by rw [hv]; rfl) (fun q => absurd q ne_DAILY_METERED_CSEP_ADMINISTRATION_LRD) (fun q => absurd q ne_DAILY_METERED_CSEP_ADMINISTRATION_LRI) (fun _ _ => rfl) p e ha hc hk s m _ below hf ((Spec.applies_iff_loose hf).mp happ).1 ⟨rfl, State.Warmed39.refl s, rfl⟩ trivial
    exact ⟨n, _, h1, h2, h3, hpost _ _ _ _ _ _ ⟨Cond.after_iff.mpr rfl, Cond.after_iff.mpr (eq_i res_at (Term.int_eval (1)) rfl), trivial⟩ ⟨hq.1, hq.2.1, (hq.2.2.sift fun y hy => Or.inr (N y hy)).mono (by decide) (by decide)⟩⟩
  · obtain ⟨n, o, h1, h2, h3, _, L, rfl, ⟨rfl, N, -⟩, hq⟩ := rm0 l s _ hw tables_1 i0 w_ZCA w_ZCO w_OPTIONAL_LDZ_TARIFF w_CCA w_CFI w_CSEP_LDZ_CAPACITY w_CSEP_LDZ_COMMODITY w_CSEP_ADMINISTRATION w_DAILY_METERED_CSEP_ADMINISTRATION w_ECN w_C04 w_LRD w_LRI w_ECN _ (0 : Int32) s.heap s.heap.size (Nat.le_refl _) S_ZCA S_ZCO S_OPTIONAL_LDZ_TARIFF S_CCA S_CFI S_CSEP_LDZ_CAPACITY S_CSEP_LDZ_COMMODITY S_CSEP_ADMINISTRATION S_DAILY_METERED_CSEP_ADMINISTRATION S_ECN S_C04 S_LRD S_LRI E_ZCA E_ZCO E_OPTIONAL_LDZ_TARIFF E_CCA E_CFI E_CSEP_LDZ_CAPACITY E_CSEP_LDZ_COMMODITY E_CSEP_ADMINISTRATION E_DAILY_METERED_CSEP_ADMINISTRATION E_ECN E_C04 E_LRD E_LRI E_ECN F_ECN_sector (Or.inl ⟨rfl, rfl⟩) (by rw [hv]; decide) (by rw [hv]; decide) (by rw [hv]; rfl) (fun q => absurd q ne_ECN_LRD) (fun q => absurd q ne_ECN_LRI) (fun _ _ => rfl) p e ha hc hk s m _ below hf ((Spec.applies_iff_loose hf).mp happ).1 ⟨rfl, State.Warmed39.refl s, rfl⟩ trivial
    exact ⟨n, _, h1, h2, h3, hpost _ _ _ _ _ _ ⟨Cond.after_iff.mpr rfl, Cond.after_iff.mpr (eq_i res_at (Term.int_eval (1)) rfl), trivial⟩ ⟨hq.1, hq.2.1, (hq.2.2.sift fun y hy => Or.inr (N y hy)).mono (by decide) (by decide)⟩⟩
  · obtain ⟨n, o, h1, h2, h3, _, L, rfl, ⟨rfl, N, -⟩, hq⟩ := rm0 l s _ hw tables_1 i0 w_ZCA w_ZCO w_OPTIONAL_LDZ_TARIFF w_CCA w_CFI w_CSEP_LDZ_CAPACITY w_CSEP_LDZ_COMMODITY w_CSEP_ADMINISTRATION w_DAILY_METERED_CSEP_ADMINISTRATION w_ECN w_C04 w_LRD w_LRI w_C04 _ (0 : Int32) s.heap s.heap.size (Nat.le_refl _) S_ZCA S_ZCO S_OPTIONAL_LDZ_TARIFF S_CCA S_CFI S_CSEP_LDZ_CAPACITY S_CSEP_LDZ_COMMODITY S_CSEP_ADMINISTRATION S_DAILY_METERED_CSEP_ADMINISTRATION S_ECN S_C04 S_LRD S_LRI E_ZCA E_ZCO E_OPTIONAL_LDZ_TARIFF E_CCA E_CFI E_CSEP_LDZ_CAPACITY E_CSEP_LDZ_COMMODITY E_CSEP_ADMINISTRATION E_DAILY_METERED_CSEP_ADMINISTRATION E_ECN E_C04 E_LRD E_LRI E_C04 F_C04_sector (Or.inl ⟨rfl, rfl⟩) (by rw [hv]; decide) (by rw [hv]; decide) (by rw [hv]; rfl) (fun q => absurd q ne_C04_LRD) (fun q => absurd q ne_C04_LRI) (fun _ _ => rfl) p e ha hc hk s m _ below hf ((Spec.applies_iff_loose hf).mp happ).1 ⟨rfl, State.Warmed39.refl s, rfl⟩ trivial
    exact ⟨n, _, h1, h2, h3, hpost _ _ _ _ _ _ ⟨Cond.after_iff.mpr rfl, Cond.after_iff.mpr (eq_i res_at (Term.int_eval (1)) rfl), trivial⟩ ⟨hq.1, hq.2.1, (hq.2.2.sift fun y hy => Or.inr (N y hy)).mono (by decide) (by decide)⟩⟩
  · obtain ⟨n, o, h1, h2, h3, _, L, rfl, ⟨rfl, N, -⟩, hq⟩ := rm0 l s _ hw tables_1 i0 w_ZCA w_ZCO w_OPTIONAL_LDZ_TARIFF w_CCA w_CFI w_CSEP_LDZ_CAPACITY w_CSEP_LDZ_COMMODITY w_CSEP_ADMINISTRATION w_DAILY_METERED_CSEP_ADMINISTRATION w_ECN w_C04 w_LRD w_LRI w_LRD _ (1 : Int32) s.heap s.heap.size (Nat.le_refl _) S_ZCA S_ZCO S_OPTIONAL_LDZ_TARIFF S_CCA S_CFI S_CSEP_LDZ_CAPACITY S_CSEP_LDZ_COMMODITY S_CSEP_ADMINISTRATION S_DAILY_METERED_CSEP_ADMINISTRATION S_ECN S_C04 S_LRD S_LRI E_ZCA E_ZCO E_OPTIONAL_LDZ_TARIFF E_CCA E_CFI E_CSEP_LDZ_CAPACITY E_CSEP_LDZ_COMMODITY E_CSEP_ADMINISTRATION E_DAILY_METERED_CSEP_ADMINISTRATION E_ECN E_C04 E_LRD E_LRI E_LRD F_LRD_sector (Or.inr ⟨_, rfl, rfl⟩) (by rw [hv]; decide) (by rw [hv]; decide) (by rw [hv]; rfl) (fun _ => rfl) (fun q => absurd q ne_LRD_LRI) (fun q => absurd rfl q) p e ha hc hk s m _ below hf ((Spec.applies_iff_loose hf).mp happ).1 ⟨rfl, State.Warmed39.refl s, rfl⟩ trivial
    exact ⟨n, _, h1, h2, h3, hpost _ _ _ _ _ _ ⟨Cond.after_iff.mpr rfl, Cond.after_iff.mpr (eq_i res_at (Term.int_eval (1)) rfl), trivial⟩ ⟨hq.1, hq.2.1, (hq.2.2.sift fun y hy => Or.inr (N y hy)).mono (by decide) (by decide)⟩⟩
  · obtain ⟨n, o, h1, h2, h3, _, L, rfl, ⟨rfl, N, -⟩, hq⟩ := rm0 l s _ hw tables_1 i0 w_ZCA w_ZCO w_OPTIONAL_LDZ_TARIFF w_CCA w_CFI w_CSEP_LDZ_CAPACITY w_CSEP_LDZ_COMMODITY w_CSEP_ADMINISTRATION w_DAILY_METERED_CSEP_ADMINISTRATION w_ECN w_C04 w_LRD w_LRI w_LRI _ (1 : Int32) s.heap s.heap.size (Nat.le_refl _) S_ZCA S_ZCO S_OPTIONAL_LDZ_TARIFF S_CCA S_CFI S_CSEP_LDZ_CAPACITY S_CSEP_LDZ_COMMODITY S_CSEP_ADMINISTRATION S_DAILY_METERED_CSEP_ADMINISTRATION S_ECN S_C04 S_LRD S_LRI E_ZCA E_ZCO E_OPTIONAL_LDZ_TARIFF E_CCA E_CFI E_CSEP_LDZ_CAPACITY E_CSEP_LDZ_COMMODITY E_CSEP_ADMINISTRATION E_DAILY_METERED_CSEP_ADMINISTRATION E_ECN E_C04 E_LRD E_LRI E_LRI F_LRI_sector (Or.inr ⟨_, rfl, rfl⟩) (by rw [hv]; decide) (by rw [hv]; decide) (by rw [hv]; rfl) (fun q => absurd q ne_LRI_LRD) (fun _ => rfl) (fun _ q => absurd rfl q) p e ha hc hk s m _ below hf ((Spec.applies_iff_loose hf).mp happ).1 ⟨rfl, State.Warmed39.refl s, rfl⟩ trivial
    exact ⟨n, _, h1, h2, h3, hpost _ _ _ _ _ _ ⟨Cond.after_iff.mpr rfl, Cond.after_iff.mpr (eq_i res_at (Term.int_eval (1)) rfl), trivial⟩ ⟨hq.1, hq.2.1, (hq.2.2.sift fun y hy => Or.inr (N y hy)).mono (by decide) (by decide)⟩⟩
theorem main_1_1 : Claimed_1_1 := comes_1 fun _ _ _ _ _ _ h hF => ⟨h.1, hF⟩
theorem main_1_2 : Claimed_1_2 := comes_1 fun _ _ _ _ _ _ h hF => ⟨h.2.1, hF⟩
end Jvm.Pilot.@@N@@
namespace Jvm.Pilot.@@N@@
open Jvm Jvm.ClassFile Sem Op Lib Jvm.Free Jvm.Stand Jvm.Pilot.@@N@@.Jvm.D
/-! MADE BY PROGRAM (witnessworld.py) out of the Statement's table words and the real class files: 14 classes; the members and pool entries that the words name. The judged class is class 1, her method 1. -/
namespace start1
open Jvm.ClassFile
def u (s : String) : CpInfo := .utf8 (stringToUtf16 s)
/-- a pool by its gaps: so many unusable entries, then the entry; so many at the end -/
def gap : Nat → List CpInfo → List CpInfo
  | 0, r => r
  | n + 1, r => .unusable :: gap n r
def poolList (es : List (Nat × CpInfo)) (last : Nat) : List CpInfo := es.foldr (fun e r => gap e.1 (e.2 :: r)) (gap last [])
def pool (es : List (Nat × CpInfo)) (last : Nat) : Array CpInfo := ⟨poolList es last⟩
def fileOf (pool : Array CpInfo) (this : Nat) (attrs : Array Attribute := #[]) (ms : Array MethodInfo := #[]) (fl : Nat := 33) (sup : Nat := 0) (ifs : Array Nat := #[]) (fds : Array FieldInfo := #[]) : ClassFile where
  minorVersion := 0
  majorVersion := 65
  constantPool := pool
  accessFlags := fl
  thisClass := this
  superClass := sup
  interfaces := ifs
  fields := fds
  methods := ms
  attributes := attrs
def plain (name : String) (sup : Option ClassId) : Class where
  name := name
  kind := .ordinary
  loader := none
  accessFlags := 33
  super := sup
  interfaces := #[]
  cf := none
  fields := #[]
  methods := #[]
  instanceTypes := #[]
  staticTypes := #[]
  resolved := #[]
  callSites := []
  init := .initialized
  statics := none
  mirror := none

def pool0 : Array CpInfo := pool [(5, u "<init>"), (0, u "()V"), (1, .class_ 10), (1, u "java/lang/Object")] 113

def k0m0 : Method := { name := "<init>", desc := "()V", sig := { parameters := [], returnType := none }, accessFlags := 1, code := none }
/-- java/lang/Object -/
def k0 : Class := { plain "java/lang/Object" none with
  accessFlags := 33
  interfaces := #[]
  cf := some (fileOf pool0 8 #[] #[{ accessFlags := 1, nameIndex := 5, descriptorIndex := 6, attributes := #[] }] 33 0 #[] #[])
  fields := #[]
  methods := #[k0m0]
  instanceTypes := #[]
  staticTypes := #[]
  resolved := Array.replicate 124 none
  statics := none }

def pool1 : Array CpInfo := pool [(2, .class_ 4), (1, u "java/lang/Object"), (0, u "<init>"), (0, u "()V"), (0, .class_ 8), (0, u "com/example/aq_to_pence/aqtopence/ChargeCode"), (0, .fieldref 7 10), (0, .nameAndType 11 12), (0, u "ZCA"), (0, u "Lcom/example/aq_to_pence/aqtopence/ChargeCode;"), (0, .fieldref 7 14), (0, .nameAndType 15 12), (0, u "ZCO"), (0, .fieldref 7 17), (0, .nameAndType 18 12), (0, u "OPTIONAL_LDZ_TARIFF"), (0, .fieldref 7 20), (0, .nameAndType 21 12), (0, u "CCA"), (0, .fieldref 7 23), (0, .nameAndType 24 12), (0, u "CFI"), (0, .fieldref 7 26), (0, .nameAndType 27 12), (0, u "CSEP_LDZ_CAPACITY"), (0, .fieldref 7 29), (0, .nameAndType 30 12), (0, u "CSEP_LDZ_COMMODITY"), (0, .fieldref 7 32), (0, .nameAndType 33 12), (0, u "CSEP_ADMINISTRATION"), (0, .fieldref 7 35), (0, .nameAndType 36 12), (0, u "DAILY_METERED_CSEP_ADMINISTRATION"), (0, .fieldref 7 38), (0, .nameAndType 39 12), (0, u "ECN"), (0, .fieldref 7 41), (0, .nameAndType 42 12), (0, u "C04"), (0, .fieldref 7 44), (0, .nameAndType 45 12), (0, u "LRD"), (0, .fieldref 7 47), (0, .nameAndType 48 12), (0, u "LRI"), (0, .integer 2147483647), (0, .methodref 7 51), (0, .nameAndType 52 53), (0, u "bySector"), (0, u "()Z"), (0, .class_ 55), (0, u "com/example/aq_to_pence/aqtopence/ChargeCodeBySectorPinLaw"), (2, u "law"), (0, u "(I)Z")] 5

def k1m0 : Method := { name := "<init>", desc := "()V", sig := { parameters := [], returnType := none }, accessFlags := 2, code := none }
def k1c1 : Code := { maxStack := 4, maxLocals := 5, code := code, exceptionTable := #[], attributes := #[] }
def k1m1 : Method := { name := "law", desc := "(I)Z", sig := { parameters := [.int], returnType := some .boolean }, accessFlags := 9, code := some k1c1 }
/-- com/example/aq_to_pence/aqtopence/ChargeCodeBySectorPinLaw -/
def k1 : Class := { plain "com/example/aq_to_pence/aqtopence/ChargeCodeBySectorPinLaw" (some 0) with
  accessFlags := 49
  interfaces := #[]
  cf := some (fileOf pool1 54 #[] #[{ accessFlags := 2, nameIndex := 5, descriptorIndex := 6, attributes := #[] }, { accessFlags := 9, nameIndex := 58, descriptorIndex := 59, attributes := #[] }] 49 2 #[] #[])
  fields := #[]
  methods := #[k1m0, k1m1]
  instanceTypes := #[]
  staticTypes := #[]
  resolved := Array.replicate 65 none
  statics := none }

def pool2 : Array CpInfo := pool [(1, .class_ 2), (0, u "java/lang/constant/Constable"), (0, .class_ 4), (0, u "java/lang/Object")] 6

/-- java/lang/constant/Constable -/
def k2 : Class := { plain "java/lang/constant/Constable" (some 0) with
  accessFlags := 1537
  interfaces := #[]
  cf := some (fileOf pool2 1 #[] #[] 1537 3 #[] #[])
  fields := #[]
  methods := #[]
  instanceTypes := #[]
  staticTypes := #[]
  resolved := Array.replicate 11 none
  statics := none }

def pool3 : Array CpInfo := pool [(1, .class_ 2), (0, u "java/lang/Comparable"), (0, .class_ 4), (0, u "java/lang/Object")] 7

/-- java/lang/Comparable -/
def k3 : Class := { plain "java/lang/Comparable" (some 0) with
  accessFlags := 1537
  interfaces := #[]
  cf := some (fileOf pool3 1 #[] #[] 1537 3 #[] #[])
  fields := #[]
  methods := #[]
  instanceTypes := #[]
  staticTypes := #[]
  resolved := Array.replicate 12 none
  statics := none }

def pool4 : Array CpInfo := pool [(1, .class_ 2), (0, u "java/io/Serializable"), (0, .class_ 4), (0, u "java/lang/Object")] 2

/-- java/io/Serializable -/
def k4 : Class := { plain "java/io/Serializable" (some 0) with
  accessFlags := 1537
  interfaces := #[]
  cf := some (fileOf pool4 1 #[] #[] 1537 3 #[] #[])
  fields := #[]
  methods := #[]
  instanceTypes := #[]
  staticTypes := #[]
  resolved := Array.replicate 7 none
  statics := none }

def pool5 : Array CpInfo := pool [(2, .class_ 4), (1, u "java/lang/Enum"), (0, u "name"), (0, u "Ljava/lang/String;"), (2, u "ordinal"), (0, u "I"), (1, .class_ 14), (1, u "java/lang/Object"), (4, u "hash"), (86, .class_ 108), (1, u "java/lang/Enum$EnumDesc"), (2, .class_ 112), (0, u "java/lang/constant/Constable"), (0, .class_ 114), (0, u "java/lang/Comparable"), (0, .class_ 116), (0, u "java/io/Serializable")] 87

/-- java/lang/Enum -/
def k5 : Class := { plain "java/lang/Enum" (some 0) with
  accessFlags := 1057
  interfaces := #[2, 3, 4]
  cf := some (fileOf pool5 2 #[.nestMembers #[106]] #[] 1057 12 #[111, 113, 115] #[{ accessFlags := 18, nameIndex := 5, descriptorIndex := 6, attributes := #[] }, { accessFlags := 18, nameIndex := 9, descriptorIndex := 10, attributes := #[] }, { accessFlags := 2, nameIndex := 19, descriptorIndex := 10, attributes := #[] }])
  fields := #[{ name := "name", type := (.object "java/lang/String"), accessFlags := 18, slot := 0, constantValue := 0 }, { name := "ordinal", type := .int, accessFlags := 18, slot := 1, constantValue := 0 }, { name := "hash", type := .int, accessFlags := 2, slot := 2, constantValue := 0 }]
  methods := #[]
  instanceTypes := #[(.object "java/lang/String"), .int, .int]
  staticTypes := #[]
  resolved := Array.replicate 204 none
  statics := none }

def pool6 : Array CpInfo := pool [(1, .class_ 2), (0, u "com/example/aq_to_pence/aqtopence/ChargeCode"), (2, u "ZCA"), (0, u "Lcom/example/aq_to_pence/aqtopence/ChargeCode;"), (2, u "ZCO"), (2, u "OPTIONAL_LDZ_TARIFF"), (2, u "CCA"), (2, u "CFI"), (2, u "CSEP_LDZ_CAPACITY"), (2, u "CSEP_LDZ_COMMODITY"), (2, u "CSEP_ADMINISTRATION"), (2, u "DAILY_METERED_CSEP_ADMINISTRATION"), (2, u "ECN"), (2, u "C04"), (2, u "LRD"), (2, u "LRI"), (2, u "$VALUES"), (0, u "[Lcom/example/aq_to_pence/aqtopence/ChargeCode;"), (6, .class_ 55), (1, u "java/lang/Enum"), (15, u "code"), (0, u "Ljava/lang/String;"), (2, u "basis"), (0, u "Lcom/example/aq_to_pence/aqtopence/ChargeCode$Basis;"), (2, u "connections"), (0, u "Lcom/example/aq_to_pence/aqtopence/ChargeCode$Connections;"), (0, .fieldref 1 82), (0, .nameAndType 83 84), (0, u "sector"), (0, u "Lcom/example/aq_to_pence/aqtopence/Sector;"), (11, .class_ 98), (1, u "com/example/aq_to_pence/aqtopence/ChargeCode$Basis"), (2, .class_ 103), (1, u "com/example/aq_to_pence/aqtopence/ChargeCode$Connections"), (30, u "DAYS_A_YEAR"), (0, u "Ljava/math/BigInteger;"), (112, u "bySector"), (0, u "()Z")] 17

def k6c0 : Code := { maxStack := 1, maxLocals := 1, code := prog_2_method_9_code, exceptionTable := #[], attributes := #[] }
def k6m0 : Method := { name := "bySector", desc := "()Z", sig := { parameters := [], returnType := some .boolean }, accessFlags := 1, code := some k6c0 }
/-- com/example/aq_to_pence/aqtopence/ChargeCode -/
def k6 : Class := { plain "com/example/aq_to_pence/aqtopence/ChargeCode" (some 5) with
  accessFlags := 16433
  interfaces := #[]
  cf := some (fileOf pool6 1 #[.nestMembers #[101, 96]] #[{ accessFlags := 1, nameIndex := 248, descriptorIndex := 249, attributes := #[] }] 16433 53 #[] #[{ accessFlags := 16409, nameIndex := 5, descriptorIndex := 6, attributes := #[] }, { accessFlags := 16409, nameIndex := 9, descriptorIndex := 6, attributes := #[] }, { accessFlags := 16409, nameIndex := 12, descriptorIndex := 6, attributes := #[] }, { accessFlags := 16409, nameIndex := 15, descriptorIndex := 6, attributes := #[] }, { accessFlags := 16409, nameIndex := 18, descriptorIndex := 6, attributes := #[] }, { accessFlags := 16409, nameIndex := 21, descriptorIndex := 6, attributes := #[] }, { accessFlags := 16409, nameIndex := 24, descriptorIndex := 6, attributes := #[] }, { accessFlags := 16409, nameIndex := 27, descriptorIndex := 6, attributes := #[] }, { accessFlags := 16409, nameIndex := 30, descriptorIndex := 6, attributes := #[] }, { accessFlags := 16409, nameIndex := 33, descriptorIndex := 6, attributes := #[] }, { accessFlags := 16409, nameIndex := 36, descriptorIndex := 6, attributes := #[] }, { accessFlags := 16409, nameIndex := 39, descriptorIndex := 6, attributes := #[] }, { accessFlags := 16409, nameIndex := 42, descriptorIndex := 6, attributes := #[] }, { accessFlags := 26, nameIndex := 134, descriptorIndex := 135, attributes := #[] }, { accessFlags := 18, nameIndex := 71, descriptorIndex := 72, attributes := #[] }, { accessFlags := 18, nameIndex := 75, descriptorIndex := 76, attributes := #[] }, { accessFlags := 18, nameIndex := 79, descriptorIndex := 80, attributes := #[] }, { accessFlags := 18, nameIndex := 83, descriptorIndex := 84, attributes := #[] }, { accessFlags := 4122, nameIndex := 45, descriptorIndex := 46, attributes := #[] }])
  fields := #[{ name := "ZCA", type := (.object "com/example/aq_to_pence/aqtopence/ChargeCode"), accessFlags := 16409, slot := 0, constantValue := 0 }, { name := "ZCO", type := (.object "com/example/aq_to_pence/aqtopence/ChargeCode"), accessFlags := 16409, slot := 1, constantValue := 0 }, { name := "OPTIONAL_LDZ_TARIFF", type := (.object "com/example/aq_to_pence/aqtopence/ChargeCode"), accessFlags := 16409, slot := 2, constantValue := 0 }, { name := "CCA", type := (.object "com/example/aq_to_pence/aqtopence/ChargeCode"), accessFlags := 16409, slot := 3, constantValue := 0 }, { name := "CFI", type := (.object "com/example/aq_to_pence/aqtopence/ChargeCode"), accessFlags := 16409, slot := 4, constantValue := 0 }, { name := "CSEP_LDZ_CAPACITY", type := (.object "com/example/aq_to_pence/aqtopence/ChargeCode"), accessFlags := 16409, slot := 5, constantValue := 0 }, { name := "CSEP_LDZ_COMMODITY", type := (.object "com/example/aq_to_pence/aqtopence/ChargeCode"), accessFlags := 16409, slot := 6, constantValue := 0 }, { name := "CSEP_ADMINISTRATION", type := (.object "com/example/aq_to_pence/aqtopence/ChargeCode"), accessFlags := 16409, slot := 7, constantValue := 0 }, { name := "DAILY_METERED_CSEP_ADMINISTRATION", type := (.object "com/example/aq_to_pence/aqtopence/ChargeCode"), accessFlags := 16409, slot := 8, constantValue := 0 }, { name := "ECN", type := (.object "com/example/aq_to_pence/aqtopence/ChargeCode"), accessFlags := 16409, slot := 9, constantValue := 0 }, { name := "C04", type := (.object "com/example/aq_to_pence/aqtopence/ChargeCode"), accessFlags := 16409, slot := 10, constantValue := 0 }, { name := "LRD", type := (.object "com/example/aq_to_pence/aqtopence/ChargeCode"), accessFlags := 16409, slot := 11, constantValue := 0 }, { name := "LRI", type := (.object "com/example/aq_to_pence/aqtopence/ChargeCode"), accessFlags := 16409, slot := 12, constantValue := 0 }, { name := "DAYS_A_YEAR", type := (.object "java/math/BigInteger"), accessFlags := 26, slot := 13, constantValue := 0 }, { name := "code", type := (.object "java/lang/String"), accessFlags := 18, slot := 3, constantValue := 0 }, { name := "basis", type := (.object "com/example/aq_to_pence/aqtopence/ChargeCode$Basis"), accessFlags := 18, slot := 4, constantValue := 0 }, { name := "connections", type := (.object "com/example/aq_to_pence/aqtopence/ChargeCode$Connections"), accessFlags := 18, slot := 5, constantValue := 0 }, { name := "sector", type := (.object "com/example/aq_to_pence/aqtopence/Sector"), accessFlags := 18, slot := 6, constantValue := 0 }, { name := "$VALUES", type := (.array (.object "com/example/aq_to_pence/aqtopence/ChargeCode")), accessFlags := 4122, slot := 14, constantValue := 0 }]
  methods := #[k6m0]
  instanceTypes := #[(.object "java/lang/String"), .int, .int, (.object "java/lang/String"), (.object "com/example/aq_to_pence/aqtopence/ChargeCode$Basis"), (.object "com/example/aq_to_pence/aqtopence/ChargeCode$Connections"), (.object "com/example/aq_to_pence/aqtopence/Sector")]
  staticTypes := #[(.object "com/example/aq_to_pence/aqtopence/ChargeCode"), (.object "com/example/aq_to_pence/aqtopence/ChargeCode"), (.object "com/example/aq_to_pence/aqtopence/ChargeCode"), (.object "com/example/aq_to_pence/aqtopence/ChargeCode"), (.object "com/example/aq_to_pence/aqtopence/ChargeCode"), (.object "com/example/aq_to_pence/aqtopence/ChargeCode"), (.object "com/example/aq_to_pence/aqtopence/ChargeCode"), (.object "com/example/aq_to_pence/aqtopence/ChargeCode"), (.object "com/example/aq_to_pence/aqtopence/ChargeCode"), (.object "com/example/aq_to_pence/aqtopence/ChargeCode"), (.object "com/example/aq_to_pence/aqtopence/ChargeCode"), (.object "com/example/aq_to_pence/aqtopence/ChargeCode"), (.object "com/example/aq_to_pence/aqtopence/ChargeCode"), (.object "java/math/BigInteger"), (.array (.object "com/example/aq_to_pence/aqtopence/ChargeCode"))]
  resolved := Array.replicate 267 none
  statics := some 0 }

def pool7 : Array CpInfo := pool [(1, .class_ 2), (0, u "com/example/aq_to_pence/aqtopence/Sector"), (2, u "DOMESTIC"), (0, u "Lcom/example/aq_to_pence/aqtopence/Sector;"), (2, u "INDUSTRIAL_AND_COMMERCIAL"), (2, u "$VALUES"), (0, u "[Lcom/example/aq_to_pence/aqtopence/Sector;"), (6, .class_ 22), (1, u "java/lang/Enum"), (8, u "code"), (0, u "Ljava/lang/String;")] 82

/-- com/example/aq_to_pence/aqtopence/Sector -/
def k7 : Class := { plain "com/example/aq_to_pence/aqtopence/Sector" (some 5) with
  accessFlags := 16433
  interfaces := #[]
  cf := some (fileOf pool7 1 #[] #[] 16433 20 #[] #[{ accessFlags := 16409, nameIndex := 5, descriptorIndex := 6, attributes := #[] }, { accessFlags := 16409, nameIndex := 9, descriptorIndex := 6, attributes := #[] }, { accessFlags := 18, nameIndex := 31, descriptorIndex := 32, attributes := #[] }, { accessFlags := 4122, nameIndex := 12, descriptorIndex := 13, attributes := #[] }])
  fields := #[{ name := "DOMESTIC", type := (.object "com/example/aq_to_pence/aqtopence/Sector"), accessFlags := 16409, slot := 0, constantValue := 0 }, { name := "INDUSTRIAL_AND_COMMERCIAL", type := (.object "com/example/aq_to_pence/aqtopence/Sector"), accessFlags := 16409, slot := 1, constantValue := 0 }, { name := "code", type := (.object "java/lang/String"), accessFlags := 18, slot := 3, constantValue := 0 }, { name := "$VALUES", type := (.array (.object "com/example/aq_to_pence/aqtopence/Sector")), accessFlags := 4122, slot := 2, constantValue := 0 }]
  methods := #[]
  instanceTypes := #[(.object "java/lang/String"), .int, .int, (.object "java/lang/String")]
  staticTypes := #[(.object "com/example/aq_to_pence/aqtopence/Sector"), (.object "com/example/aq_to_pence/aqtopence/Sector"), (.array (.object "com/example/aq_to_pence/aqtopence/Sector"))]
  resolved := Array.replicate 115 none
  statics := some 1 }

def pool8 : Array CpInfo := pool [(1, u "java/lang/Cloneable"), (0, .class_ 1), (0, u "java/lang/Object"), (0, .class_ 3)] 3

/-- java/lang/Cloneable -/
def k8 : Class := { plain "java/lang/Cloneable" (some 0) with
  accessFlags := 1537
  interfaces := #[]
  cf := some (fileOf pool8 2 #[] #[] 1537 4 #[] #[])
  fields := #[]
  methods := #[]
  instanceTypes := #[]
  staticTypes := #[]
  resolved := Array.replicate 8 none
  statics := none }

/-- the primitive byte -/
def k9 : Class := { plain "byte" none with kind := .primitive 'B', accessFlags := 0x411 }
/-- [B -/
def k10 : Class := { plain "[B" (some 0) with kind := .array 9 .byte, interfaces := #[8, 4], accessFlags := 1041 }

/-- the primitive int -/
def k11 : Class := { plain "int" none with kind := .primitive 'I', accessFlags := 0x411 }
/-- [I -/
def k12 : Class := { plain "[I" (some 0) with kind := .array 11 .int, interfaces := #[8, 4], accessFlags := 1041 }

/-- [Lcom/example/aq_to_pence/aqtopence/ChargeCode; -/
def k13 : Class := { plain "[Lcom/example/aq_to_pence/aqtopence/ChargeCode;" (some 0) with kind := .array 6 (.object "com/example/aq_to_pence/aqtopence/ChargeCode"), interfaces := #[8, 4], accessFlags := 1041 }

def heap : Heap := #[{ cls := 6, slots := #[.ref 4, .ref 5, .ref 6, .ref 7, .ref 8, .ref 9, .ref 10, .ref 11, .ref 12, .ref 13, .ref 14, .ref 15, .ref 16, .null, .null], vm := .statics 6 },
  { cls := 7, slots := #[.ref 2, .ref 3, .null], vm := .statics 7 },
  { cls := 7, slots := #[.null, .int 0, .int 0, .null], vm := .none },
  { cls := 7, slots := #[.null, .int 1, .int 0, .null], vm := .none },
  { cls := 6, slots := #[.null, .int 0, .int 0, .null, .null, .null, .null], vm := .none },
  { cls := 6, slots := #[.null, .int 1, .int 0, .null, .null, .null, .null], vm := .none },
  { cls := 6, slots := #[.null, .int 2, .int 0, .null, .null, .null, .null], vm := .none },
  { cls := 6, slots := #[.null, .int 3, .int 0, .null, .null, .null, .null], vm := .none },
  { cls := 6, slots := #[.null, .int 4, .int 0, .null, .null, .null, .null], vm := .none },
  { cls := 6, slots := #[.null, .int 5, .int 0, .null, .null, .null, .null], vm := .none },
  { cls := 6, slots := #[.null, .int 6, .int 0, .null, .null, .null, .null], vm := .none },
  { cls := 6, slots := #[.null, .int 7, .int 0, .null, .null, .null, .null], vm := .none },
  { cls := 6, slots := #[.null, .int 8, .int 0, .null, .null, .null, .null], vm := .none },
  { cls := 6, slots := #[.null, .int 9, .int 0, .null, .null, .null, .null], vm := .none },
  { cls := 6, slots := #[.null, .int 10, .int 0, .null, .null, .null, .null], vm := .none },
  { cls := 6, slots := #[.null, .int 11, .int 0, .null, .null, .null, .ref 2], vm := .none },
  { cls := 6, slots := #[.null, .int 12, .int 0, .null, .null, .null, .ref 3], vm := .none }]
def classes : Array Class := #[k0, k1, k2, k3, k4, k5, k6, k7, k8, k9, k10, k11, k12, k13]
def interned : List (Array UInt16 × Addr) := []
def slotsUsed : Nat := 117
def theMethod : MethodId := ⟨1, 1⟩
def args0 : Array Value := #[.int 7]
def aboutOver (below : List Frame) : State where
  vm := { classes := classes, interned := interned.toArray }
  heap := heap
  slotsUsed := slotsUsed
  threads := #[{ frames := .invoking theMethod args0 :: below }]
def below0 : List Frame := [.native { method := ⟨0, 0⟩, args := #[] }]
def about1 : State := aboutOver below0
def p0 : Program := .bare "" "" ""
def e0 : Env := launch0.env 0 0 0
theorem w_frames : about1.frames = Frame.invoking theMethod args0 :: below0 := rfl
set_option maxRecDepth 65536 in
theorem w_args : argsFit about1.vm theMethod args0 = true := by decide +kernel
set_option maxRecDepth 65536 in
theorem w_heap : heapFits about1 = true := by decide +kernel
set_option maxRecDepth 65536 in
theorem w_runnable : about1.curStatus? = some .runnable := by decide +kernel
set_option maxRecDepth 65536 in
theorem w_alone : about1.alone = true := by decide +kernel
set_option maxRecDepth 65536 in
theorem w_named : about1.methodNamed? x = some theMethod := by decide +kernel
set_option maxRecDepth 65536 in
theorem w_hears : about1.hears theMethod below0 = true := by decide +kernel
set_option maxRecDepth 65536 in
theorem w_ripe : about1.ripe theMethod args0 below0 = true := by decide +kernel
theorem w_running : about1.status = .running := rfl
set_option maxRecDepth 65536 in
theorem w_room : about1.hasRoom e0.platform room_1 = true :=
  launch0.hasRoom_least _ room_1 (by decide +kernel) (by decide +kernel) (by decide +kernel) (by decide +kernel) (by decide +kernel) (by decide +kernel)
theorem allAtoms_all (ts : List Jvm.Cond) (a : Array Jvm.Value) (st : Jvm.State) : (allAtoms ts).before a st = ts.all (fun c => c.before a st) := by
  induction ts with
  | nil => rfl
  | cons c t ih =>
    show (Jvm.Cond.and c (allAtoms t)).before a st = _
    rw [Jvm.Cond.before_and, ih, List.all_cons]
def words1 : List Jvm.Cond := Jvm.Cond.code x code maxLocals ret :: tables_1
/-- a 'code' word, met by the world's own term for the bytes: nothing is compared byte by byte -/
theorem code_word {y : MethodName} {bytes : ByteArray} {mx : Nat} {rt : Option FieldType} {a : Array Value} {s : State} {m : MethodId} {meth : Method} {c : Code} (h1 : s.methodNamed? y = some m) (h2 : s.vm.method? m = some meth) (h3 : meth.code = some c) (h4 : c.code = bytes)
    (h5 : (c.maxLocals == mx && c.exceptionTable.isEmpty && decide (c.maxStack ≤ mostOperands) && decide (meth.sig.returnType = rt) && !meth.locks && decide (parseMethodDescriptor y.desc = some meth.sig)) = true) : (Jvm.Cond.code y bytes mx rt).before a s = true := by
  simp only [Bool.and_eq_true, beq_iff_eq, Bool.not_eq_true', decide_eq_true_eq] at h5
  obtain ⟨⟨⟨⟨⟨g1, g2⟩, g3⟩, g4⟩, g5⟩, g6⟩ := h5
  simp [Cond.before, Cond.holds, Cond.value, h1, h2, h3, h4, g1, g2, g3, g4, g5, g6]
def isCode : Jvm.Cond → Bool
  | .code _ _ _ _ => true
  | _ => false
theorem all_split {L : List Jvm.Cond} {P : Jvm.Cond → Bool} (h1 : L.all (fun c => isCode c || P c) = true) (h2 : ∀ c ∈ L.filter isCode, P c = true) : L.all P = true := by
  refine List.all_eq_true.mpr fun c hc => ?_
  have h := List.all_eq_true.mp h1 c hc
  rcases Bool.eq_false_or_eq_true (isCode c) with hi | hi
  · exact h2 c (List.mem_filter.mpr ⟨hc, hi⟩)
  · simpa [hi] using h
set_option maxRecDepth 65536 in
theorem w_c0 : (Jvm.Cond.code x code maxLocals ret).before args0 about1 = true := code_word (m := ⟨1, 1⟩) (meth := k1m1) (c := k1c1) (by decide +kernel) rfl rfl rfl (by decide +kernel)
set_option maxRecDepth 65536 in
theorem w_c1 : (Jvm.Cond.code ({ cls := "com/example/aq_to_pence/aqtopence/ChargeCode", name := "bySector", desc := "()Z" } : Jvm.MethodName) prog_2_method_9_code (1 : Nat) (Option.some Jvm.ClassFile.FieldType.boolean)).before args0 about1 = true := code_word (m := ⟨6, 0⟩) (meth := k6m0) (c := k6c0) (by decide +kernel) rfl rfl rfl (by decide +kernel)
def codes1 : List Jvm.Cond := [Jvm.Cond.code x code maxLocals ret, Jvm.Cond.code ({ cls := "com/example/aq_to_pence/aqtopence/ChargeCode", name := "bySector", desc := "()Z" } : Jvm.MethodName) prog_2_method_9_code (1 : Nat) (Option.some Jvm.ClassFile.FieldType.boolean)]
set_option maxRecDepth 65536 in
theorem codes_eq : words1.filter isCode = codes1 := rfl
theorem w_codes : ∀ c ∈ words1.filter isCode, c.before args0 about1 = true := by
  rw [codes_eq]
  intro c hc
  simp only [codes1, List.mem_cons, List.not_mem_nil, or_false] at hc
  rcases hc with rfl | rfl
  · exact w_c0
  · exact w_c1
set_option maxRecDepth 65536 in
theorem w_t1 : (words1.take 24).all (fun c => isCode c || c.before args0 about1) = true := by decide +kernel
set_option maxRecDepth 65536 in
theorem w_t2 : (words1.drop 24).all (fun c => isCode c || c.before args0 about1) = true := by decide +kernel
theorem w_tables : (allAtoms (Jvm.Cond.code x code maxLocals ret :: tables_1)).before args0 about1 = true := by
  rw [allAtoms_all]
  show words1.all (fun c => c.before args0 about1) = true
  refine all_split ?_ w_codes
  rw [← List.take_append_drop 24 words1, List.all_append, w_t1, w_t2]
  rfl
set_option maxRecDepth 65536 in
theorem w_case : (Jvm.Cond.and given_1 narrow_1).before args0 about1 = true := by decide +kernel
theorem w_applies : (headSpec (Jvm.Cond.code x code maxLocals ret :: tables_1) room_1).applies x e0.platform about1 = true :=
  (Spec.applies_iff w_frames).mpr ⟨w_running, w_runnable, w_alone, w_named, w_hears, w_ripe, w_room, w_tables⟩
theorem atStart : AtStart classFile x code maxLocals ret World_1 tables_1 room_1 Calls_1 rest_1 Pre_1 launch0 p0 e0 about1 theMethod args0 below0 :=
  ⟨lists_1, trivial, launch0.admits_env _ _ _, launch0.least_env, fairChoices_fair.cas, fairChoices_fair.clock, w_frames, w_args, w_heap, w_applies, trivial, trivial, w_case⟩
end start1
theorem witness_1 : WitnessClaimed_1 := ⟨start1.p0, start1.e0, start1.about1, start1.theMethod, start1.args0, start1.below0, start1.atStart⟩
end Jvm.Pilot.@@N@@
