import JvmDerived
import JvmDerived.Pilot.@@N@@Statement
import JvmDerived.Pilot.@@N@@Code
set_option linter.unusedVariables false
set_option linter.unusedSimpArgs false
namespace Jvm.RoadKit
open Sem ClassFile Op Lib Jvm.Stand Jvm.Free Jvm.LawKit
section New
variable {p : Program} {l : Launch} {e : Env} {R : Room} {s : State} {m : MethodId} {args : Array Value} {below : List Frame} {meth : Method} {c : Code} {T : State} {locs : List Loc} {cells slots : Nat}
theorem retI (X : Stand p l e R s m args below meth c T locs cells slots) (hx : p.tables.exec = Jvm.exec) {pc : Nat} {Ls : Array Slot} {z : Int32} {rest : List Value} (hret : meth.sig.returnType = some .int) (hd : decode c.code pc = .ok (.ireturn, 1)) {fs : List Frame}
    (hl : ∀ (f : JFrame) (acts : List Action), f.method = m → f.locked = none → f.entered = [] → (doReturn e (T.setTop f) acts (some (.int z))).1 = T.setFrames fs) : Steps p.tables e below (T.setTop (mkF m pc Ls (.int z :: rest))) (T.setFrames fs) := by
  have hm' : T.vm.method? m = some meth := X.method'
  have hn : narrow .int (.int z) = .int z := rfl
  show Steps p.tables e below (T.setTop { method := m, pc := pc, locals := Ls, stack := _ :: rest, locked := none }) _
  jvm_step X.here [X.here.top, hx, hd, hm', hret, hn]
  first | (intro acts; rw [hl _ acts rfl rfl rfl]) | rw [hl _ _ rfl rfl rfl]
  exact Steps.refl _
end New
end Jvm.RoadKit
namespace Jvm.Pilot.@@N@@
open Jvm Jvm.ClassFile Sem Op Lib Jvm.Free Jvm.Stand Jvm.LawKit Jvm.RoadKit Bundle Jvm.Pilot.@@N@@.Jvm.D
/-- what a body leaves that writes nothing: its value, no place of the start's, the heap as it was -/
def QP (r : Value) (h0 : Heap) (n0 : Nat) (v : Option Value) (h : Heap) (L : List Loc) : Prop := v = some r ∧ Fr n0 L ∧ h = h0
/-- the same without the heap -/
def QL (r : Value) (n0 : Nat) (v : Option Value) (h : Heap) (L : List Loc) : Prop := v = some r ∧ Fr n0 L ∧ True
theorem own_ext_refl (h : Heap) : Ext h h := ⟨Nat.le_refl _, fun _ _ q => q⟩
theorem own_ext_trans {h h' h'' : Heap} (E : Ext h h') (E' : Ext h' h'') : Ext h h'' := ⟨Nat.le_trans E.1 E'.1, fun a c q => E'.2 a c (E.2 a c q)⟩
theorem own_extK {h h' h'' : Heap} {b : Addr} (E : Ext h h') (g : b = h.size) (K : Keep h' h'' [b]) : Ext h h'' := ⟨Nat.le_trans E.1 K.1, fun x c q => K.2.1 x c (E.2 x c q) fun z => by
  have e := List.mem_singleton.mp z
  have lt := (Array.getElem?_eq_some_iff.mp q).1
  rw [e, g] at lt
  exact Nat.lt_irrefl _ lt⟩
theorem own_extW {h h' h'' : Heap} {b : Addr} {sl : Nat} {v : Value} (E : Ext h h') (g : b = h.size) (W : Wr h' h'' b sl v) : Ext h h'' := own_extK E g (Keep.of_wr W)
theorem own_fldI {s : State} {args : Array Value} {t : Term} {a : Addr} {C n d : String} {k : Int32} (ev : t.eval args s none [] s = some (.ref a)) (h : (Jvm.Cond.eq (.field t C n d) (.int k)).value args s none s [] = some true) : Fld s s.heap a C n d (.int k) :=
  Fld.start ((fld_at ev).symm.trans (eqv_i (y := k) rfl h))
theorem own_fldJ {s : State} {args : Array Value} {t : Term} {a : Addr} {C n d : String} {k : Int64} (ev : t.eval args s none [] s = some (.ref a)) (h : (Jvm.Cond.eq (.field t C n d) (.long k)).value args s none s [] = some true) : Fld s s.heap a C n d (.long k) :=
  Fld.start ((fld_at ev).symm.trans (eqv_l (y := k) rfl h))
theorem own_ne {Z : State} {h : Heap} {a b : Addr} {C n d : String} {v w : Value} (F : Fld Z h a C n d v) (G : Fld Z h b C n d w) (q : v ≠ w) : a ≠ b := fun e => by
  subst e
  obtain ⟨c1, cf1, k1, i1, f1, h1, h2, -, -, -, -, h7⟩ := F
  obtain ⟨c2, cf2, k2, i2, f2, g1, g2, -, -, -, -, g7⟩ := G
  cases h1.symm.trans g1
  cases h2.symm.trans g2
  exact q (Option.some.inj (h7.symm.trans g7))
/-- what a body leaves that makes a Duration of so many seconds and nanos (or answers one that stands) -/
def QD (Z : State) (qs : Int64) (pn : Int32) (h0 : Heap) (n0 : Nat) (v : Option Value) (h : Heap) (L : List Loc) : Prop := ∃ b : Addr, v = some (.ref b) ∧ Fr n0 L ∧ Ext h0 h ∧ Exa Z h b "java/time/Duration" ∧ Fld Z h b "java/time/Duration" "seconds" "J" (.long qs) ∧ Fld Z h b "java/time/Duration" "nanos" "I" (.int pn)
def QW (Z : State) (q : Int64) (h0 : Heap) (n0 : Nat) (v : Option Value) (h : Heap) (L : List Loc) : Prop := ∃ b : Addr, v = some (.ref b) ∧ Fr n0 L ∧ Ext h0 h ∧ Exa Z h b "com/example/strict_lock/strictlock/Deadline" ∧ Fld Z h b "com/example/strict_lock/strictlock/Deadline" "nanos" "J" (.long q)
def own_fit (x y : Int64) : Prop := ¬ ((x ^^^ (x + y)) &&& (y ^^^ (x + y))) < (0 : Int64)
def own_fdiv (qx qy : Int64) : Int64 := (if (qx ^^^ qy) < (0 : Int64) then (if ((qx / qy) * qy) = qx then (qx / qy) else ((qx / qy) - (1 : Int64))) else (qx / qy))
def own_fmod (qx qy : Int64) : Int64 := (if (qx ^^^ qy) < (0 : Int64) then (if (qx - (qx / qy) * qy) = (0 : Int64) then (qx - (qx / qy) * qy) else ((qx - (qx / qy) * qy) + qy)) else (qx - (qx / qy) * qy))
def own_cmp (qx qy : Int64) : Int32 := (if qx < qy then (-1 : Int32) else (if qx = qy then (0 : Int32) else (1 : Int32)))
def own_abs (qx : Int64) : Int64 := (if qx < (0 : Int64) then (-qx) else qx)
def own_cto (s1 : Int64) (n1 : Int32) : Int32 := (if (own_cmp s1 (9223372036 : Int64)) = (0 : Int32) then (n1 - (854775807 : Int32)) else (own_cmp s1 (9223372036 : Int64)))
def own_s1 (qm : Int64) : Int64 := (qm / (1000 : Int64))
def own_n1 (qm : Int64) : Int32 := (((qm - (qm / (1000 : Int64)) * (1000 : Int64)).toInt32) * (1000000 : Int32))
def own_nn (qm : Int64) : Int64 := (((own_n1 qm).toInt64) + (((1000000 : Int32).toInt64) - (((1000000 : Int32).toInt64) / (1000000000 : Int64)) * (1000000000 : Int64)))
def own_s2 (qm : Int64) : Int64 := (((own_s1 qm) + (0 : Int64)) + (((1000000 : Int32).toInt64) / (1000000000 : Int64)))
def own_s3 (qm : Int64) : Int64 := ((own_s2 qm) + (own_fdiv (own_nn qm) (1000000000 : Int64)))
def own_n3 (qm : Int64) : Int32 := ((own_fmod (own_nn qm) (1000000000 : Int64)).toInt32)
def own_span (qm : Int64) : Int64 := if (9223372036853 : Int64) < qm then (9223372036854775807 : Int64) else ((qm + (1 : Int64)) * (1000000 : Int64))
theorem own_fit_of (x y : Int64) (h1 : -9223372036854775808 ≤ x.toInt + y.toInt) (h2 : x.toInt + y.toInt < 9223372036854775808) : own_fit x y := by
  have hs := c_ladd x y
  have r := rng64 (x + y)
  have e : (x + y).toInt = x.toInt + y.toInt := by omega
  have z : (0 : Int64).toInt = 0 := rfl
  obtain ⟨p1, p2, p3, p4⟩ := c_xorSL x (x + y)
  obtain ⟨q1, q2, q3, q4⟩ := c_xorSL y (x + y)
  obtain ⟨-, a2, a3⟩ := c_andSL (x ^^^ (x + y)) (y ^^^ (x + y))
  unfold own_fit
  rw [Int64.lt_iff_toInt_lt, z]
  by_cases hx : x.toInt < 0 <;> by_cases hy : y.toInt < 0 <;> by_cases hv : (x + y).toInt < 0
  · have := a2 (p1 hx hv); omega
  · omega
  · have := a2 (p1 hx hv); omega
  · have := a3 (q4 (by omega) (by omega)); omega
  · have := a3 (q1 hy hv); omega
  · have := a2 (p4 (by omega) (by omega)); omega
  · omega
  · have := a2 (p4 (by omega) (by omega)); omega
theorem own_or0 {q : Int64} {n : Int32} (h : (q ||| (n.toInt64)) = (0 : Int64)) : q = (0 : Int64) ∧ n = (0 : Int32) := by
  have h1 : q.toBitVec ||| n.toInt64.toBitVec = 0 := by
    have := congrArg Int64.toBitVec h
    simpa using this
  have h2 := BitVec.or_eq_zero_iff.mp h1
  refine ⟨Int64.toBitVec_inj.mp h2.1, ?_⟩
  have h3 : n.toInt64 = 0 := Int64.toBitVec_inj.mp h2.2
  have h4 := congrArg Int64.toInt h3
  rw [c_i2l] at h4
  exact Int32.toInt_inj.mp h4
theorem own_pos {qm : Int64} (hm : ¬ qm < (0 : Int64)) : 0 ≤ qm.toInt := by
  rw [Int64.lt_iff_toInt_lt] at hm
  have z : (0 : Int64).toInt = 0 := rfl
  omega
theorem own_rem_v (qm : Int64) (hm : ¬ qm < (0 : Int64)) : ((qm - (qm / (1000 : Int64)) * (1000 : Int64)).toInt32).toInt = qm.toInt % 1000 := by
  have p := own_pos hm
  have h1 := (c_lrem qm (1000 : Int64) 1000 (by decide)).1 p
  have h2 := c_l2i (qm - (qm / (1000 : Int64)) * (1000 : Int64))
  have r := rng32 ((qm - (qm / (1000 : Int64)) * (1000 : Int64)).toInt32)
  omega
theorem own_hm (qm : Int64) (hm : ¬ qm < (0 : Int64)) : ¬ ((qm - (qm / (1000 : Int64)) * (1000 : Int64)).toInt32) < (0 : Int32) := by
  have h := own_rem_v qm hm
  have z : (0 : Int32).toInt = 0 := rfl
  rw [Int32.lt_iff_toInt_lt, h, z]; omega
theorem own_s1_v (qm : Int64) (hm : ¬ qm < (0 : Int64)) : (own_s1 qm).toInt = qm.toInt / 1000 := (c_ldiv qm (1000 : Int64) 1000 (by decide) (by decide)).1 (own_pos hm)
theorem own_n1_v (qm : Int64) (hm : ¬ qm < (0 : Int64)) : (own_n1 qm).toInt = (qm.toInt % 1000) * 1000000 := by
  have h := own_rem_v qm hm
  have h2 := c_imul ((qm - (qm / (1000 : Int64)) * (1000 : Int64)).toInt32) (1000000 : Int32)
  have k : (1000000 : Int32).toInt = 1000000 := by decide
  rw [h, k] at h2
  have r := rng32 (own_n1 qm)
  unfold own_n1 at r ⊢
  omega
theorem own_s2_v (qm : Int64) (hm : ¬ qm < (0 : Int64)) : (own_s2 qm).toInt = qm.toInt / 1000 := by
  have e : own_s2 qm = own_s1 qm := by
    unfold own_s2
    have k : (((1000000 : Int32).toInt64) / (1000000000 : Int64)) = 0 := by decide
    rw [k]; simp
  rw [e]; exact own_s1_v qm hm
theorem own_nn_v (qm : Int64) (hm : ¬ qm < (0 : Int64)) : (own_nn qm).toInt = (qm.toInt % 1000) * 1000000 + 1000000 := by
  have h := own_n1_v qm hm
  have k : (((1000000 : Int32).toInt64) - (((1000000 : Int32).toInt64) / (1000000000 : Int64)) * (1000000000 : Int64)) = (1000000 : Int64) := by decide
  have k2 : (1000000 : Int64).toInt = 1000000 := by decide
  unfold own_nn
  rw [k]
  have h2 := c_ladd (own_n1 qm).toInt64 (1000000 : Int64)
  rw [c_i2l, h, k2] at h2
  have r := rng64 ((own_n1 qm).toInt64 + (1000000 : Int64))
  omega
theorem own_pos_xor (x : Int64) (h : 0 ≤ x.toInt) : ¬ (x ^^^ (1000000000 : Int64)) < (0 : Int64) := by
  have k : (1000000000 : Int64).toInt = 1000000000 := by decide
  have z : (0 : Int64).toInt = 0 := rfl
  have := (c_xorSL x (1000000000 : Int64)).2.2.2 h (by omega)
  rw [Int64.lt_iff_toInt_lt, z]; omega
theorem own_fdiv_v (x : Int64) (h : 0 ≤ x.toInt) : (own_fdiv x (1000000000 : Int64)).toInt = x.toInt / 1000000000 := by
  unfold own_fdiv
  rw [if_neg (own_pos_xor x h)]
  exact (c_ldiv x (1000000000 : Int64) 1000000000 (by decide) (by decide)).1 h
theorem own_fmod_v (x : Int64) (h : 0 ≤ x.toInt) : (own_fmod x (1000000000 : Int64)).toInt = x.toInt % 1000000000 := by
  unfold own_fmod
  rw [if_neg (own_pos_xor x h)]
  exact (c_lrem x (1000000000 : Int64) 1000000000 (by decide)).1 h
theorem own_s3_v (qm : Int64) (hm : ¬ qm < (0 : Int64)) : (own_s3 qm).toInt = qm.toInt / 1000 + ((qm.toInt % 1000) * 1000000 + 1000000) / 1000000000 := by
  have p := own_pos hm
  have h1 := own_s2_v qm hm
  have h2 := own_nn_v qm hm
  have h3 := own_fdiv_v (own_nn qm) (by omega)
  have h4 := c_ladd (own_s2 qm) (own_fdiv (own_nn qm) (1000000000 : Int64))
  have r := rng64 (own_s3 qm)
  have r2 := rng64 qm
  rw [h1, h3, h2] at h4
  unfold own_s3 at r ⊢
  omega
theorem own_n3_v (qm : Int64) (hm : ¬ qm < (0 : Int64)) : (own_n3 qm).toInt = ((qm.toInt % 1000) * 1000000 + 1000000) % 1000000000 := by
  have h2 := own_nn_v qm hm
  have h3 := own_fmod_v (own_nn qm) (by omega)
  have h4 := c_l2i (own_fmod (own_nn qm) (1000000000 : Int64))
  have r := rng32 (own_n3 qm)
  rw [h3, h2] at h4
  unfold own_n3 at r ⊢
  omega
theorem own_hno1 (qm : Int64) (hm : ¬ qm < (0 : Int64)) : own_fit (own_s1 qm) (0 : Int64) := by
  have z : (0 : Int64).toInt = 0 := rfl
  have r := rng64 (own_s1 qm)
  exact own_fit_of _ _ (by rw [z]; omega) (by rw [z]; omega)
theorem own_hno2 (qm : Int64) (hm : ¬ qm < (0 : Int64)) : own_fit ((own_s1 qm) + (0 : Int64)) (((1000000 : Int32).toInt64) / (1000000000 : Int64)) := by
  have z : (((1000000 : Int32).toInt64) / (1000000000 : Int64)).toInt = 0 := by decide
  have r := rng64 ((own_s1 qm) + (0 : Int64))
  exact own_fit_of _ _ (by rw [z]; omega) (by rw [z]; omega)
theorem own_hno3 (qm : Int64) (hm : ¬ qm < (0 : Int64)) : own_fit (own_s2 qm) (own_fdiv (own_nn qm) (1000000000 : Int64)) := by
  have p := own_pos hm
  have h1 := own_s2_v qm hm
  have h2 := own_nn_v qm hm
  have h3 := own_fdiv_v (own_nn qm) (by omega)
  have r2 := rng64 qm
  exact own_fit_of _ _ (by rw [h1, h3, h2]; omega) (by rw [h1, h3, h2]; omega)
theorem own_hs (qm : Int64) (hm : ¬ qm < (0 : Int64)) : ¬ (own_s3 qm) < (0 : Int64) := by
  have p := own_pos hm
  have h := own_s3_v qm hm
  have z : (0 : Int64).toInt = 0 := rfl
  rw [Int64.lt_iff_toInt_lt, h, z]; omega
theorem own_hmin (qm : Int64) (hm : ¬ qm < (0 : Int64)) : ¬ (own_s3 qm) = (-9223372036854775808 : Int64) := fun e => by
  have p := own_pos hm
  have h := own_s3_v qm hm
  rw [e] at h
  have z : (-9223372036854775808 : Int64).toInt = -9223372036854775808 := by decide
  rw [z] at h
  omega
/-- the comparison with the longest span that can be counted -/
theorem own_cto_v (qm : Int64) (hm : ¬ qm < (0 : Int64)) : (0 : Int32) < own_cto (own_s3 qm) (own_n3 qm) ↔ 9223372036854 ≤ qm.toInt := by
  have p := own_pos hm
  have h1 := own_s3_v qm hm
  have h2 := own_n3_v qm hm
  have kL : (9223372036 : Int64).toInt = 9223372036 := by decide
  have kN : (854775807 : Int32).toInt = 854775807 := by decide
  have z : (0 : Int32).toInt = 0 := rfl
  unfold own_cto own_cmp
  simp only [Int64.lt_iff_toInt_lt, ← Int64.toInt_inj, kL]
  by_cases a : (own_s3 qm).toInt < 9223372036
  · rw [if_pos a]
    rw [if_neg (by decide), Int32.lt_iff_toInt_lt]
    constructor
    · intro q; exact absurd q (by decide)
    · intro q; omega
  · rw [if_neg a]
    by_cases b : (own_s3 qm).toInt = 9223372036
    · rw [if_pos b, if_pos rfl, Int32.lt_iff_toInt_lt, z]
      have h3 := c_isub (own_n3 qm) (854775807 : Int32)
      rw [h2, kN] at h3
      have r := rng32 (own_n3 qm - (854775807 : Int32))
      rw [h1] at b
      generalize (own_n3 qm - (854775807 : Int32)).toInt = y at *
      generalize hM : qm.toInt = M at *
      have d1 := Int.mul_ediv_add_emod M 1000
      have d2 := Int.mul_ediv_add_emod ((M % 1000) * 1000000 + 1000000) 1000000000
      have d3 := Int.emod_nonneg M (b := 1000) (by decide)
      have d4 := Int.emod_lt_of_pos M (b := 1000) (by decide)
      have d5 := Int.emod_nonneg ((M % 1000) * 1000000 + 1000000) (b := 1000000000) (by decide)
      have d6 := Int.emod_lt_of_pos ((M % 1000) * 1000000 + 1000000) (b := 1000000000) (by decide)
      generalize ((M % 1000) * 1000000 + 1000000) % 1000000000 = P at *
      generalize ((M % 1000) * 1000000 + 1000000) / 1000000000 = N at *
      generalize M % 1000 = r1 at *
      generalize M / 1000 = q1 at *
      have ey : y = P - 854775807 := by omega
      subst ey
      omega
    · rw [if_neg b, if_neg (by decide)]
      constructor
      · intro _; omega
      · intro _; decide
theorem own_prod (qm : Int64) (hm : ¬ qm < (0 : Int64)) (hc : ¬ (0 : Int32) < own_cto (own_s3 qm) (own_n3 qm)) : ((own_s3 qm) * (1000000000 : Int64)).toInt = (own_s3 qm).toInt * 1000000000 := by
  have p := own_pos hm
  have h1 := own_s3_v qm hm
  rw [own_cto_v qm hm] at hc
  have k : (1000000000 : Int64).toInt = 1000000000 := by decide
  have h := c_lmul (own_s3 qm) (1000000000 : Int64)
  rw [k] at h
  have r := rng64 ((own_s3 qm) * (1000000000 : Int64))
  omega
theorem own_hq (qm : Int64) (hm : ¬ qm < (0 : Int64)) (hc : ¬ (0 : Int32) < own_cto (own_s3 qm) (own_n3 qm)) : ((own_s3 qm) * (1000000000 : Int64)) / (1000000000 : Int64) = own_s3 qm := by
  have p := own_pos hm
  have h1 := own_s3_v qm hm
  have h := own_prod qm hm hc
  have d := (c_ldiv ((own_s3 qm) * (1000000000 : Int64)) (1000000000 : Int64) 1000000000 (by decide) (by decide)).1 (by omega)
  apply Int64.toInt_inj.mp
  rw [d, h]; omega
theorem own_hno (qm : Int64) (hm : ¬ qm < (0 : Int64)) (hc : ¬ (0 : Int32) < own_cto (own_s3 qm) (own_n3 qm)) : own_fit ((own_s3 qm) * (1000000000 : Int64)) ((own_n3 qm).toInt64) := by
  have p := own_pos hm
  have h1 := own_s3_v qm hm
  have h2 := own_n3_v qm hm
  have h := own_prod qm hm hc
  rw [own_cto_v qm hm] at hc
  exact own_fit_of _ _ (by rw [h, c_i2l]; omega) (by rw [h, c_i2l]; omega)
theorem own_hsp1 (qm : Int64) (hm : ¬ qm < (0 : Int64)) (hc : (0 : Int32) < own_cto (own_s3 qm) (own_n3 qm)) : own_span qm = (9223372036854775807 : Int64) := by
  rw [own_cto_v qm hm] at hc
  unfold own_span
  have k : (9223372036853 : Int64).toInt = 9223372036853 := by decide
  rw [if_pos (by rw [Int64.lt_iff_toInt_lt, k]; omega)]
theorem own_hsp2 (qm : Int64) (hm : ¬ qm < (0 : Int64)) (hc : ¬ (0 : Int32) < own_cto (own_s3 qm) (own_n3 qm)) : own_span qm = (((own_s3 qm) * (1000000000 : Int64)) + ((own_n3 qm).toInt64)) := by
  have p := own_pos hm
  have h1 := own_s3_v qm hm
  have h2 := own_n3_v qm hm
  have h := own_prod qm hm hc
  rw [own_cto_v qm hm] at hc
  have k : (9223372036853 : Int64).toInt = 9223372036853 := by decide
  unfold own_span
  rw [if_neg (by rw [Int64.lt_iff_toInt_lt, k]; omega)]
  apply Int64.toInt_inj.mp
  have a1 := c_ladd ((own_s3 qm) * (1000000000 : Int64)) ((own_n3 qm).toInt64)
  rw [h, c_i2l] at a1
  have r1 := rng64 (((own_s3 qm) * (1000000000 : Int64)) + ((own_n3 qm).toInt64))
  have a2 := c_ladd qm (1 : Int64)
  have k1 : (1 : Int64).toInt = 1 := by decide
  rw [k1] at a2
  have r2 := rng64 (qm + (1 : Int64))
  have a3 := c_lmul (qm + (1 : Int64)) (1000000 : Int64)
  have k2 : (1000000 : Int64).toInt = 1000000 := by decide
  rw [k2] at a3
  have r3 := rng64 ((qm + (1 : Int64)) * (1000000 : Int64))
  have e2 : (qm + (1 : Int64)).toInt = qm.toInt + 1 := by omega
  rw [e2] at a3
  omega
theorem own_same (x : Int64) : ¬ (0 : Int64) < (x - x) := by
  have e : x - x = 0 := by simp
  rw [e]; decide
theorem own_one (x : Int64) : x - (x - (1 : Int64)) = (1 : Int64) := by
  apply Int64.toInt_inj.mp
  have k1 : (1 : Int64).toInt = 1 := by decide
  have a1 := c_lsub x (1 : Int64)
  have a2 := c_lsub x (x - (1 : Int64))
  have r := rng64 (x - (x - (1 : Int64)))
  rw [k1] at *
  omega
theorem own_span_t (mm : Int64) (h : (9223372036853 : Int64) < mm) : (9223372036854775807 : Int64) = own_span mm := (if_pos h).symm
theorem own_span_f (mm : Int64) (h : ¬ (9223372036853 : Int64) < mm) : ((mm + (1 : Int64)) * (1000000 : Int64)) = own_span mm := (if_neg h).symm
theorem own_mpos (x m : Int64) (k : Nat) (hk : k ≤ 63) (hm : m.toBitVec.toNat = 2 ^ k - 1) : 0 ≤ (x &&& m).toInt ∧ (x &&& m).toInt < (2 ^ k : Nat) := by
  have h := c_maskL x m k hk hm
  rw [h]
  exact ⟨Int.emod_nonneg _ (by have := Nat.two_pow_pos k; omega), Int.emod_lt_of_pos _ (by have := Nat.two_pow_pos k; omega)⟩
theorem own_neg0 {x : Int64} (h : 0 ≤ x.toInt) : ¬ x < (0 : Int64) := by
  have z : (0 : Int64).toInt = 0 := rfl
  rw [Int64.lt_iff_toInt_lt, z]; omega
theorem own_m0 (x : Int64) : ¬ (x &&& (9223372036854775807 : Int64)) < (0 : Int64) := own_neg0 (own_mpos x _ 63 (by decide) (by decide)).1
theorem own_m1 (x : Int64) : ¬ (x &&& (17592186044415 : Int64)) < (0 : Int64) := own_neg0 (own_mpos x _ 44 (by decide) (by decide)).1
theorem own_m2 (x : Int64) : ¬ (x &&& (16777215 : Int64)) < (0 : Int64) := own_neg0 (own_mpos x _ 24 (by decide) (by decide)).1
theorem own_m3 (x : Int64) : ¬ ((9223372036852 : Int64) + (x &&& (3 : Int64))) < (0 : Int64) := by
  obtain ⟨h1, h2⟩ := own_mpos x (3 : Int64) 2 (by decide) (by decide)
  apply own_neg0
  have a := c_ladd (9223372036852 : Int64) (x &&& (3 : Int64))
  have k : (9223372036852 : Int64).toInt = 9223372036852 := by decide
  rw [k] at a
  have r := rng64 ((9223372036852 : Int64) + (x &&& (3 : Int64)))
  omega
theorem d4_0 : decode jdk_2316_method_17_code 0 = .ok (.aload_n 0, 1) := by decide +kernel
theorem d4_1 : decode jdk_2316_method_17_code 1 = .ok (.invokespecial 218, 3) := by decide +kernel
theorem d4_4 : decode jdk_2316_method_17_code 4 = .ok (.aload_n 0, 1) := by decide +kernel
theorem d4_5 : decode jdk_2316_method_17_code 5 = .ok (.lload_n 1, 1) := by decide +kernel
theorem d4_6 : decode jdk_2316_method_17_code 6 = .ok (.putfield 221, 3) := by decide +kernel
theorem d4_9 : decode jdk_2316_method_17_code 9 = .ok (.aload_n 0, 1) := by decide +kernel
theorem d4_10 : decode jdk_2316_method_17_code 10 = .ok (.iload_n 3, 1) := by decide +kernel
theorem d4_11 : decode jdk_2316_method_17_code 11 = .ok (.putfield 224, 3) := by decide +kernel
theorem d4_14 : decode jdk_2316_method_17_code 14 = .ok (.return_, 1) := by decide +kernel
theorem pn_4 : plainName "java/time/Duration" = true := by first | (simp [plainName, overriddenIn]; done) | decide +kernel
theorem ef_4 (m : MethodId) (x0 : Addr) (x1 : Int64) (x2 : Int32) : entryFrame m #[(.ref x0), (.long x1), (.int x2)] 4 = mkF m 0 #[.val (.ref x0), .val (.long x1), .second, .val (.int x2)] [] := by first | (simp [entryFrame, mkF, argsToLocals, Value.category]; done) | rfl
def Q4 (Z : State) (a1 : Addr) (q2 : Int64) (p3 : Int32) (u_seconds_a1 : Value) (u_nanos_a1 : Value) (h0 : Heap) (n0 : Nat) (v : Option Value) (h : Heap) (L : List Loc) : Prop := v = none ∧ Fr n0 L ∧ Keep h0 h [a1] ∧ Exa Z h a1 "java/time/Duration" ∧ Fld Z h a1 "java/time/Duration" "seconds" "J" (.long q2) ∧ Fld Z h a1 "java/time/Duration" "nanos" "I" (.int p3)
set_option maxRecDepth 65536 in
set_option maxHeartbeats 40000000 in
theorem rm4 (l : Launch) (Z : State) (a0 : Array Value) (hw : ∀ d ∈ tables_1, d.before a0 Z = true) (ws : List Jvm.Cond) (a1 : Addr) (q2 : Int64) (p3 : Int32) (u_seconds_a1 : Value) (u_nanos_a1 : Value) (h0 : Heap) (n0 : Nat) (Z0 : n0 ≤ h0.size) (E_a1 : Exa Z h0 a1 "java/time/Duration") (F_seconds_a1 : Fld Z h0 a1 "java/time/Duration" "seconds" "J" u_seconds_a1) (g_a1 : n0 ≤ a1) (F_nanos_a1 : Fld Z h0 a1 "java/time/Duration" "nanos" "I" u_nanos_a1) :
    MetFree l (⟨"java/time/Duration", "<init>", "(JI)V"⟩ : MethodName) (head1 (Jvm.Cond.code (⟨"java/time/Duration", "<init>", "(JI)V"⟩ : MethodName) jdk_2316_method_17_code 4 none :: ws) ({ frames := 1, cells := 0, slots := 0, locals := 12 } : Room)) (fun a U => a = #[(.ref a1), (.long q2), (.int p3)] ∧ Z.Warmed39 U.vm ∧ U.heap = h0) (fun _ _ _ _ _ => True) (fun _ U o U' => ∃ v L, o = .returned v ∧ Q4 Z a1 q2 p3 u_seconds_a1 u_nanos_a1 h0 n0 v U'.heap L ∧ FrameEnd U o U' L ({ frames := 1, cells := 0, slots := 0, locals := 12 } : Room).cells ({ frames := 1, cells := 0, slots := 0, locals := 12 } : Room).slots) := by
  refine MetFree.of_bodySF (plainFor_of_name pn_4) hisR ?_
  intro p e s m args below meth c s₁ Bd hml0 hP hK
  obtain ⟨rfl, hZ, hh⟩ := hP
  have hx := Bd.exec
  have hby := Bd.bytes
  have hml : c.maxLocals = 4 := hml0
  have hown : s.vm.findClass "java/time/Duration" = some m.cls := findClass_of_methodNamed Bd.named
  have hnm := (name_of_methodNamed Bd.named Bd.method).1
  have X0 : Stand p l e ({ frames := 1, cells := 0, slots := 0, locals := 12 } : Room) s m #[(.ref a1), (.long q2), (.int p3)] below meth c s₁ [] 0 0 := Stand.of_body Bd
  have e0 : s₁.heap = h0 := by rw [← hh, Bd.state]; rfl
  have N0 := Fr.nil n0
  have pre0 : ∀ t, Steps p.tables e below (s₁.setTop (mkF m 0 #[.val (.ref a1), .val (.long q2), .second, .val (.int p3)] [])) t → Steps p.tables e below (s₁.setTop (entryFrame m #[(.ref a1), (.long q2), (.int p3)] 4)) t := fun t k => castTop (ef_4 m a1 q2 p3) k
  obtain ⟨T4, X4, e4, st4⟩ := initO X0 hx hZ hown (hw _ (List.mem_of_getElem? (i := 22) rfl)) (hw _ (List.mem_of_getElem? (i := 23) rfl)) (hw _ (List.mem_of_getElem? (i := 24) rfl)) e0 (g := (mkF m 1 #[.val (.ref a1), .val (.long q2), .second, .val (.int p3)] [(.ref a1)])) rfl (by rw [hml]; rfl) rfl (hb hby d4_1) (by decide) (W := 0) (by show 2 * 0 + _ ≤ _; exact Nat.le_of_eq rfl) (by decide)
  obtain ⟨T5, h5, X5, e5, W5, st5⟩ := putF X4 hx hZ hown (host := "") (Or.inl (hw _ (List.mem_of_getElem? (i := 25) rfl))) Via.refl e4 F_seconds_a1 E_a1 (Or.inr ⟨(hw _ (List.mem_of_getElem? (i := 26) rfl)), rfl, hnm⟩) (hw _ (List.mem_of_getElem? (i := 17) rfl)) (ty := .long) (by decide) rfl rfl (g := (mkF m 6 #[.val (.ref a1), .val (.long q2), .second, .val (.int p3)] [(.long q2), (.ref a1)])) rfl rfl (hb hby d4_6)
  have Fw5 := F_seconds_a1.same W5
  have K5 : Keep h0 h5 [a1] := (Keep.refl h0 [a1]).wr W5 (Or.inl (List.mem_of_getElem? (i := 0) rfl))
  have N5 := Fr.snoc X5 N0 g_a1
  obtain ⟨T6, h6, X6, e6, W6, st6⟩ := putF X5 hx hZ hown (host := "") (Or.inl (hw _ (List.mem_of_getElem? (i := 27) rfl))) Via.refl e5 (F_nanos_a1.other W5 (Or.inr (slot_ne (Or.inr (hw _ (List.mem_of_getElem? (i := 28) rfl))) (Or.inr (hw _ (List.mem_of_getElem? (i := 26) rfl))) (by decide) (t := .int) (t' := .long) (by decide) (by decide)))) (E_a1.wr W5) (Or.inr ⟨(hw _ (List.mem_of_getElem? (i := 28) rfl)), rfl, hnm⟩) (hw _ (List.mem_of_getElem? (i := 17) rfl)) (ty := .int) (by decide) rfl rfl (g := (mkF m 11 #[.val (.ref a1), .val (.long q2), .second, .val (.int p3)] [(.int p3), (.ref a1)])) rfl rfl (hb hby d4_11)
  have Fw6 := (F_nanos_a1.other W5 (Or.inr (slot_ne (Or.inr (hw _ (List.mem_of_getElem? (i := 28) rfl))) (Or.inr (hw _ (List.mem_of_getElem? (i := 26) rfl))) (by decide) (t := .int) (t' := .long) (by decide) (by decide)))).same W6
  have K6 : Keep h0 h6 [a1] := K5.wr W6 (Or.inl (List.mem_of_getElem? (i := 0) rfl))
  have N6 := Fr.snoc X6 N5 g_a1
  obtain ⟨fs, hr, hrun, hended, hW, hsame⟩ := X6.leave (v := none) (fun _ => rfl)
  refine ⟨_, _, pre0 _ ?_, hrun, hended, _, _, rfl, ?_, ⟨_, rfl⟩, hW, hsame.mono (by decide) (by decide)⟩
  · show Steps p.tables e below (s₁.setTop (mkF m 0 #[.val (.ref a1), .val (.long q2), .second, .val (.int p3)] [])) _
    refine XS.aloadN X0.here hx rfl (hb hby d4_0) rfl rfl ?_
    show Steps p.tables e below (s₁.setTop (mkF m 1 #[.val (.ref a1), .val (.long q2), .second, .val (.int p3)] [(.ref a1)])) _
    refine st4 _ ?_
    show Steps p.tables e below (T4.setTop (mkF m 4 #[.val (.ref a1), .val (.long q2), .second, .val (.int p3)] [])) _
    refine XS.aloadN X4.here hx rfl (hb hby d4_4) rfl rfl ?_
    show Steps p.tables e below (T4.setTop (mkF m 5 #[.val (.ref a1), .val (.long q2), .second, .val (.int p3)] [(.ref a1)])) _
    refine XS.lloadN X4.here hx rfl (hb hby d4_5) rfl ?_
    show Steps p.tables e below (T4.setTop (mkF m 6 #[.val (.ref a1), .val (.long q2), .second, .val (.int p3)] [(.long q2), (.ref a1)])) _
    refine st5 _ ?_
    show Steps p.tables e below (T5.setTop (mkF m 9 #[.val (.ref a1), .val (.long q2), .second, .val (.int p3)] [])) _
    refine XS.aloadN X5.here hx rfl (hb hby d4_9) rfl rfl ?_
    show Steps p.tables e below (T5.setTop (mkF m 10 #[.val (.ref a1), .val (.long q2), .second, .val (.int p3)] [(.ref a1)])) _
    refine XS.iloadN X5.here hx rfl (hb hby d4_10) rfl ?_
    show Steps p.tables e below (T5.setTop (mkF m 11 #[.val (.ref a1), .val (.long q2), .second, .val (.int p3)] [(.int p3), (.ref a1)])) _
    refine st6 _ ?_
    show Steps p.tables e below (T6.setTop (mkF m 14 #[.val (.ref a1), .val (.long q2), .second, .val (.int p3)] [])) _
    exact X6.returnOut hx Bd.returns (hb hby d4_14) hr
  · show Q4 Z a1 q2 p3 u_seconds_a1 u_nanos_a1 h0 n0 _ T6.heap _
    rw [e6]
    exact ⟨rfl, N6, K6, ((E_a1.wr W5).wr W6), (Fw5.other W6 (Or.inr (slot_ne (Or.inr (hw _ (List.mem_of_getElem? (i := 26) rfl))) (Or.inr (hw _ (List.mem_of_getElem? (i := 28) rfl))) (by decide) (t := .long) (t' := .int) (by decide) (by decide)))), Fw6⟩

theorem d20_0 : decode prog_3_method_1_code 0 = .ok (.aload_n 0, 1) := by decide +kernel
theorem d20_1 : decode prog_3_method_1_code 1 = .ok (.invokespecial 1, 3) := by decide +kernel
theorem d20_4 : decode prog_3_method_1_code 4 = .ok (.aload_n 0, 1) := by decide +kernel
theorem d20_5 : decode prog_3_method_1_code 5 = .ok (.lload_n 1, 1) := by decide +kernel
theorem d20_6 : decode prog_3_method_1_code 6 = .ok (.putfield 7, 3) := by decide +kernel
theorem d20_9 : decode prog_3_method_1_code 9 = .ok (.return_, 1) := by decide +kernel
theorem pn_20 : plainName "com/example/strict_lock/strictlock/Deadline" = true := by first | (simp [plainName, overriddenIn]; done) | decide +kernel
theorem ef_20 (m : MethodId) (x0 : Addr) (x1 : Int64) : entryFrame m #[(.ref x0), (.long x1)] 3 = mkF m 0 #[.val (.ref x0), .val (.long x1), .second] [] := by first | (simp [entryFrame, mkF, argsToLocals, Value.category]; done) | rfl
def Q20 (Z : State) (a1 : Addr) (q2 : Int64) (u_nanos_a1 : Value) (h0 : Heap) (n0 : Nat) (v : Option Value) (h : Heap) (L : List Loc) : Prop := v = none ∧ Fr n0 L ∧ Keep h0 h [a1] ∧ Exa Z h a1 "com/example/strict_lock/strictlock/Deadline" ∧ Fld Z h a1 "com/example/strict_lock/strictlock/Deadline" "nanos" "J" (.long q2)
set_option maxRecDepth 65536 in
set_option maxHeartbeats 40000000 in
theorem rm20 (l : Launch) (Z : State) (a0 : Array Value) (hw : ∀ d ∈ tables_1, d.before a0 Z = true) (ws : List Jvm.Cond) (a1 : Addr) (q2 : Int64) (u_nanos_a1 : Value) (h0 : Heap) (n0 : Nat) (Z0 : n0 ≤ h0.size) (E_a1 : Exa Z h0 a1 "com/example/strict_lock/strictlock/Deadline") (F_nanos_a1 : Fld Z h0 a1 "com/example/strict_lock/strictlock/Deadline" "nanos" "J" u_nanos_a1) (g_a1 : n0 ≤ a1) :
    MetFree l (⟨"com/example/strict_lock/strictlock/Deadline", "<init>", "(J)V"⟩ : MethodName) (head1 (Jvm.Cond.code (⟨"com/example/strict_lock/strictlock/Deadline", "<init>", "(J)V"⟩ : MethodName) prog_3_method_1_code 3 none :: ws) ({ frames := 1, cells := 0, slots := 0, locals := 12 } : Room)) (fun a U => a = #[(.ref a1), (.long q2)] ∧ Z.Warmed39 U.vm ∧ U.heap = h0) (fun _ _ _ _ _ => True) (fun _ U o U' => ∃ v L, o = .returned v ∧ Q20 Z a1 q2 u_nanos_a1 h0 n0 v U'.heap L ∧ FrameEnd U o U' L ({ frames := 1, cells := 0, slots := 0, locals := 12 } : Room).cells ({ frames := 1, cells := 0, slots := 0, locals := 12 } : Room).slots) := by
  refine MetFree.of_bodySF (plainFor_of_name pn_20) hisR ?_
  intro p e s m args below meth c s₁ Bd hml0 hP hK
  obtain ⟨rfl, hZ, hh⟩ := hP
  have hx := Bd.exec
  have hby := Bd.bytes
  have hml : c.maxLocals = 3 := hml0
  have hown : s.vm.findClass "com/example/strict_lock/strictlock/Deadline" = some m.cls := findClass_of_methodNamed Bd.named
  have hnm := (name_of_methodNamed Bd.named Bd.method).1
  have X0 : Stand p l e ({ frames := 1, cells := 0, slots := 0, locals := 12 } : Room) s m #[(.ref a1), (.long q2)] below meth c s₁ [] 0 0 := Stand.of_body Bd
  have e0 : s₁.heap = h0 := by rw [← hh, Bd.state]; rfl
  have N0 := Fr.nil n0
  have pre0 : ∀ t, Steps p.tables e below (s₁.setTop (mkF m 0 #[.val (.ref a1), .val (.long q2), .second] [])) t → Steps p.tables e below (s₁.setTop (entryFrame m #[(.ref a1), (.long q2)] 3)) t := fun t k => castTop (ef_20 m a1 q2) k
  obtain ⟨T3, X3, e3, st3⟩ := initO X0 hx hZ hown (hw _ (List.mem_of_getElem? (i := 96) rfl)) (hw _ (List.mem_of_getElem? (i := 23) rfl)) (hw _ (List.mem_of_getElem? (i := 24) rfl)) e0 (g := (mkF m 1 #[.val (.ref a1), .val (.long q2), .second] [(.ref a1)])) rfl (by rw [hml]; rfl) rfl (hb hby d20_1) (by decide) (W := 0) (by show 2 * 0 + _ ≤ _; exact Nat.le_of_eq rfl) (by decide)
  obtain ⟨T4, h4, X4, e4, W4, st4⟩ := putF X3 hx hZ hown (host := "") (Or.inl (hw _ (List.mem_of_getElem? (i := 97) rfl))) Via.refl e3 F_nanos_a1 E_a1 (Or.inr ⟨(hw _ (List.mem_of_getElem? (i := 98) rfl)), rfl, hnm⟩) (hw _ (List.mem_of_getElem? (i := 92) rfl)) (ty := .long) (by decide) rfl rfl (g := (mkF m 6 #[.val (.ref a1), .val (.long q2), .second] [(.long q2), (.ref a1)])) rfl rfl (hb hby d20_6)
  have Fw4 := F_nanos_a1.same W4
  have K4 : Keep h0 h4 [a1] := (Keep.refl h0 [a1]).wr W4 (Or.inl (List.mem_of_getElem? (i := 0) rfl))
  have N4 := Fr.snoc X4 N0 g_a1
  obtain ⟨fs, hr, hrun, hended, hW, hsame⟩ := X4.leave (v := none) (fun _ => rfl)
  refine ⟨_, _, pre0 _ ?_, hrun, hended, _, _, rfl, ?_, ⟨_, rfl⟩, hW, hsame.mono (by decide) (by decide)⟩
  · show Steps p.tables e below (s₁.setTop (mkF m 0 #[.val (.ref a1), .val (.long q2), .second] [])) _
    refine XS.aloadN X0.here hx rfl (hb hby d20_0) rfl rfl ?_
    show Steps p.tables e below (s₁.setTop (mkF m 1 #[.val (.ref a1), .val (.long q2), .second] [(.ref a1)])) _
    refine st3 _ ?_
    show Steps p.tables e below (T3.setTop (mkF m 4 #[.val (.ref a1), .val (.long q2), .second] [])) _
    refine XS.aloadN X3.here hx rfl (hb hby d20_4) rfl rfl ?_
    show Steps p.tables e below (T3.setTop (mkF m 5 #[.val (.ref a1), .val (.long q2), .second] [(.ref a1)])) _
    refine XS.lloadN X3.here hx rfl (hb hby d20_5) rfl ?_
    show Steps p.tables e below (T3.setTop (mkF m 6 #[.val (.ref a1), .val (.long q2), .second] [(.long q2), (.ref a1)])) _
    refine st4 _ ?_
    show Steps p.tables e below (T4.setTop (mkF m 9 #[.val (.ref a1), .val (.long q2), .second] [])) _
    exact X4.returnOut hx Bd.returns (hb hby d20_9) hr
  · show Q20 Z a1 q2 u_nanos_a1 h0 n0 _ T4.heap _
    rw [e4]
    exact ⟨rfl, N4, K4, (E_a1.wr W4), Fw4⟩

theorem d3_0 : decode jdk_2316_method_16_code 0 = .ok (.lload_n 0, 1) := by decide +kernel
theorem d3_1 : decode jdk_2316_method_16_code 1 = .ok (.iload_n 2, 1) := by decide +kernel
theorem d3_2 : decode jdk_2316_method_16_code 2 = .ok (.i2l, 1) := by decide +kernel
theorem d3_3 : decode jdk_2316_method_16_code 3 = .ok (.lor, 1) := by decide +kernel
theorem d3_4 : decode jdk_2316_method_16_code 4 = .ok (.lconst 0, 1) := by decide +kernel
theorem d3_5 : decode jdk_2316_method_16_code 5 = .ok (.lcmp, 1) := by decide +kernel
theorem d3_6 : decode jdk_2316_method_16_code 6 = .ok (.ifCond .ne 7, 3) := by decide +kernel
theorem d3_13 : decode jdk_2316_method_16_code 13 = .ok (.new 11, 3) := by decide +kernel
theorem d3_16 : decode jdk_2316_method_16_code 16 = .ok (.dup, 1) := by decide +kernel
theorem d3_17 : decode jdk_2316_method_16_code 17 = .ok (.lload_n 0, 1) := by decide +kernel
theorem d3_18 : decode jdk_2316_method_16_code 18 = .ok (.iload_n 2, 1) := by decide +kernel
theorem d3_19 : decode jdk_2316_method_16_code 19 = .ok (.invokespecial 215, 3) := by decide +kernel
theorem pdm_0 : parseMethodDescriptor "(JI)V" = some ⟨[.long, .int], none⟩ := by decide +kernel
theorem d3_22 : decode jdk_2316_method_16_code 22 = .ok (.areturn, 1) := by decide +kernel
theorem d3_9 : decode jdk_2316_method_16_code 9 = .ok (.getstatic 32, 3) := by decide +kernel
theorem d3_12 : decode jdk_2316_method_16_code 12 = .ok (.areturn, 1) := by decide +kernel
theorem pnm_0 : plainName "java/time/Duration" = true := by first | (simp [plainName, overriddenIn]; done) | decide +kernel
theorem ef_rm3 (m : MethodId) (qs : Int64) (pn : Int32) : entryFrame m #[(.long qs), (.int pn)] 3 = mkF m 0 #[.val (.long qs), .second, .val (.int pn)] [] := by first | (simp [entryFrame, mkF, argsToLocals, Value.category]; done) | rfl
set_option maxRecDepth 65536 in
set_option maxHeartbeats 40000000 in
theorem rm3_t (l : Launch) (Z : State) (a0 : Array Value) (hw : ∀ d ∈ tables_1, d.before a0 Z = true) (ws : List Jvm.Cond) (qs : Int64) (pn : Int32) (w_Z : Addr) (h0 : Heap) (n0 : Nat) (Z0 : n0 ≤ h0.size) (S_Z : Sta Z h0 "java/time/Duration" "ZERO" "Ljava/time/Duration;" (.ref w_Z)) (E_Z : Exa Z h0 w_Z "java/time/Duration") (F_Zs : Fld Z h0 w_Z "java/time/Duration" "seconds" "J" (.long (0 : Int64))) (F_Zn : Fld Z h0 w_Z "java/time/Duration" "nanos" "I" (.int (0 : Int32))) (hc6 : ¬ ((qs ||| (pn.toInt64)) = (0 : Int64))) :
    MetFree l (⟨"java/time/Duration", "create", "(JI)Ljava/time/Duration;"⟩ : MethodName) (head1 (Jvm.Cond.code (⟨"java/time/Duration", "create", "(JI)Ljava/time/Duration;"⟩ : MethodName) jdk_2316_method_16_code 3 (some (.object "java/time/Duration")) :: ws) ({ frames := 2, cells := 1, slots := 2, locals := 28 } : Room)) (fun a U => a = #[(.long qs), (.int pn)] ∧ Z.Warmed39 U.vm ∧ U.heap = h0) (fun _ _ _ _ _ => True) (fun _ U o U' => ∃ v L, o = .returned v ∧ QD Z qs pn h0 n0 v U'.heap L ∧ FrameEnd U o U' L ({ frames := 2, cells := 1, slots := 2, locals := 28 } : Room).cells ({ frames := 2, cells := 1, slots := 2, locals := 28 } : Room).slots) := by
  refine MetFree.of_bodySF (plainFor_of_name pnm_0) hisR ?_
  intro p e s m args below meth c s₁ Bd hml0 hP hK
  obtain ⟨rfl, hZ, hh⟩ := hP
  have hx := Bd.exec
  have hby := Bd.bytes
  have hml : c.maxLocals = 3 := hml0
  have hown : s.vm.findClass "java/time/Duration" = some m.cls := findClass_of_methodNamed Bd.named
  have hnm := (name_of_methodNamed Bd.named Bd.method).1
  have X0 : Stand p l e ({ frames := 2, cells := 1, slots := 2, locals := 28 } : Room) s m #[(.long qs), (.int pn)] below meth c s₁ [] 0 0 := Stand.of_body Bd
  have e0 : s₁.heap = h0 := by rw [← hh, Bd.state]; rfl
  have N0 := Fr.nil n0
  have pre0 : ∀ t, Steps p.tables e below (s₁.setTop (mkF m 0 #[.val (.long qs), .second, .val (.int pn)] [])) t → Steps p.tables e below (s₁.setTop (entryFrame m #[(.long qs), (.int pn)] 3)) t := fun t k => castTop (ef_rm3 m qs pn) k
  obtain ⟨T1, h1, X1, e1, E1, A1, D1, -, st1⟩ := newO X0 hx hZ hown (hw _ (List.mem_of_getElem? (i := 16) rfl)) (hw _ (List.mem_of_getElem? (i := 17) rfl)) (hw _ (List.mem_of_getElem? (i := 9) rfl)) e0 (g := (mkF m 13 #[.val (.long qs), .second, .val (.int pn)] [])) rfl (hb hby d3_13) (by decide) (by decide)
  obtain ⟨b1, g1⟩ : ∃ z, z = h0.size := ⟨_, rfl⟩
  rw [← g1] at A1 D1 st1
  have gb1 : n0 ≤ b1 := Nat.le_trans Z0 (Nat.le_of_eq g1.symm)
  have F_seconds_b1 : Fld Z h1 b1 "java/time/Duration" "seconds" "J" (.long (0 : Int64)) := D1 (Or.inr (hw _ (List.mem_of_getElem? (i := 26) rfl))) (ty := .long) (by decide)
  have F_nanos_b1 : Fld Z h1 b1 "java/time/Duration" "nanos" "I" (.int (0 : Int32)) := D1 (Or.inr (hw _ (List.mem_of_getElem? (i := 28) rfl))) (ty := .int) (by decide)
  obtain ⟨_, _, ⟨T2, L2, k2, n2⟩, -, X2, ⟨Lc2, hQ2, l2, y2, z2⟩, st2⟩ := X1.specialBack hx (y := (⟨"java/time/Duration", "<init>", "(JI)V"⟩ : MethodName)) rfl hown (mvT hZ (hw _ (List.mem_of_getElem? (i := 18) rfl))) (mvT hZ (hw _ (List.mem_of_getElem? (i := 19) rfl))) (mvT hZ (hw _ (List.mem_of_getElem? (i := 21) rfl))) (by decide) (backOf (W := 1) (rm4 l Z a0 hw [] b1 qs pn _ _ h1 n0 (Nat.le_trans Z0 E1.1) A1 F_seconds_b1 gb1 F_nanos_b1) hZ (hw _ (List.mem_of_getElem? (i := 21) rfl)) (hw _ (List.mem_of_getElem? (i := 9) rfl)) (by decide) (by decide)) (g := (mkF m 19 #[.val (.long qs), .second, .val (.int pn)] [(.int pn), (.long qs), (.ref b1), (.ref b1)])) rfl (by rw [hml]; rfl) (Steps.refl _) (a := b1) (argsL := [(.long qs), (.int pn)]) (rest := [(.ref b1)]) (lenOf pdm_0 rfl) rfl (by show 2 * 0 + _ ≤ _; exact Nat.le_of_eq rfl) (hb hby d3_19) (fun _ _ => ⟨rfl, e1, (by decide : 1 + 0 ≤ _), (by decide : 2 + 0 ≤ _)⟩)
  dsimp only [Pt.U, Pt.locs, Pt.cells, Pt.slots] at X2 l2 y2 z2 st2 hQ2
  subst l2 y2 z2
  obtain ⟨rfl, N2q, K2, A2c, Fs2, Fn2⟩ := hQ2
  have Ec2 := own_extK E1 g1 K2
  have N2 := Fr.app N0 N2q
  obtain ⟨fs, hr, hrun, hended, hW, hsame⟩ := X2.leave (v := some (.ref b1)) (fun h => by rw [Bd.returns] at h; cases h)
  refine ⟨_, _, pre0 _ ?_, hrun, hended, _, _, rfl, ?_, ⟨_, rfl⟩, hW, hsame.mono (by decide) (by decide)⟩
  · show Steps p.tables e below (s₁.setTop (mkF m 0 #[.val (.long qs), .second, .val (.int pn)] [])) _
    refine XS.lloadN X0.here hx rfl (hb hby d3_0) rfl ?_
    show Steps p.tables e below (s₁.setTop (mkF m 1 #[.val (.long qs), .second, .val (.int pn)] [(.long qs)])) _
    refine XS.iloadN X0.here hx rfl (hb hby d3_1) rfl ?_
    show Steps p.tables e below (s₁.setTop (mkF m 2 #[.val (.long qs), .second, .val (.int pn)] [(.int pn), (.long qs)])) _
    refine XS.i2l X0.here hx rfl (hb hby d3_2) rfl ?_
    show Steps p.tables e below (s₁.setTop (mkF m 3 #[.val (.long qs), .second, .val (.int pn)] [(.long (pn.toInt64)), (.long qs)])) _
    refine XS.lor X0.here hx rfl (hb hby d3_3) rfl ?_
    show Steps p.tables e below (s₁.setTop (mkF m 4 #[.val (.long qs), .second, .val (.int pn)] [(.long (qs ||| (pn.toInt64)))])) _
    refine XS.lconst X0.here hx rfl (hb hby d3_4) ?_
    show Steps p.tables e below (s₁.setTop (mkF m 5 #[.val (.long qs), .second, .val (.int pn)] [(.long (0 : Int64)), (.long (qs ||| (pn.toInt64)))])) _
    refine XS.lcmp X0.here hx rfl (hb hby d3_5) rfl ?_
    show Steps p.tables e below (s₁.setTop (mkF m 6 #[.val (.long qs), .second, .val (.int pn)] [(.int (lcmpW (qs ||| (pn.toInt64)) (0 : Int64)))])) _
    refine XS.ifYes X0.here hx rfl (pc0 := 6) (pc' := 13) rfl (hb hby d3_6) rfl ((if0 _ _).trans (feq (fun q => hc6 ((lw_eq (qs ||| (pn.toInt64)) (0 : Int64)).mp q))).2) (by decide) (by decide) ?_
    show Steps p.tables e below (s₁.setTop (mkF m 13 #[.val (.long qs), .second, .val (.int pn)] [])) _
    refine st1 _ ?_
    show Steps p.tables e below (T1.setTop (mkF m 16 #[.val (.long qs), .second, .val (.int pn)] [(.ref b1)])) _
    refine XS.dup X1.here hx rfl (hb hby d3_16) rfl rfl ?_
    show Steps p.tables e below (T1.setTop (mkF m 17 #[.val (.long qs), .second, .val (.int pn)] [(.ref b1), (.ref b1)])) _
    refine XS.lloadN X1.here hx rfl (hb hby d3_17) rfl ?_
    show Steps p.tables e below (T1.setTop (mkF m 18 #[.val (.long qs), .second, .val (.int pn)] [(.long qs), (.ref b1), (.ref b1)])) _
    refine XS.iloadN X1.here hx rfl (hb hby d3_18) rfl ?_
    show Steps p.tables e below (T1.setTop (mkF m 19 #[.val (.long qs), .second, .val (.int pn)] [(.int pn), (.long qs), (.ref b1), (.ref b1)])) _
    refine st2.trans ?_
    show Steps p.tables e below (T2.setTop (mkF m 22 #[.val (.long qs), .second, .val (.int pn)] [(.ref b1)])) _
    exact retOut X2 hx Bd.returns rfl (Or.inr (Or.inr (Or.inr (Or.inr ⟨rfl, rfl, rfl⟩)))) (hb hby d3_22) hr
  · show QD Z qs pn h0 n0 _ T2.heap _
    exact ⟨b1, rfl, N2, Ec2, A2c, Fs2, Fn2⟩
set_option maxRecDepth 65536 in
set_option maxHeartbeats 40000000 in
theorem rm3_f (l : Launch) (Z : State) (a0 : Array Value) (hw : ∀ d ∈ tables_1, d.before a0 Z = true) (ws : List Jvm.Cond) (qs : Int64) (pn : Int32) (w_Z : Addr) (h0 : Heap) (n0 : Nat) (Z0 : n0 ≤ h0.size) (S_Z : Sta Z h0 "java/time/Duration" "ZERO" "Ljava/time/Duration;" (.ref w_Z)) (E_Z : Exa Z h0 w_Z "java/time/Duration") (F_Zs : Fld Z h0 w_Z "java/time/Duration" "seconds" "J" (.long (0 : Int64))) (F_Zn : Fld Z h0 w_Z "java/time/Duration" "nanos" "I" (.int (0 : Int32))) (hc6 : (qs ||| (pn.toInt64)) = (0 : Int64)) :
    MetFree l (⟨"java/time/Duration", "create", "(JI)Ljava/time/Duration;"⟩ : MethodName) (head1 (Jvm.Cond.code (⟨"java/time/Duration", "create", "(JI)Ljava/time/Duration;"⟩ : MethodName) jdk_2316_method_16_code 3 (some (.object "java/time/Duration")) :: ws) ({ frames := 2, cells := 1, slots := 2, locals := 28 } : Room)) (fun a U => a = #[(.long qs), (.int pn)] ∧ Z.Warmed39 U.vm ∧ U.heap = h0) (fun _ _ _ _ _ => True) (fun _ U o U' => ∃ v L, o = .returned v ∧ QD Z qs pn h0 n0 v U'.heap L ∧ FrameEnd U o U' L ({ frames := 2, cells := 1, slots := 2, locals := 28 } : Room).cells ({ frames := 2, cells := 1, slots := 2, locals := 28 } : Room).slots) := by
  refine MetFree.of_bodySF (plainFor_of_name pnm_0) hisR ?_
  intro p e s m args below meth c s₁ Bd hml0 hP hK
  obtain ⟨rfl, hZ, hh⟩ := hP
  have hx := Bd.exec
  have hby := Bd.bytes
  have hml : c.maxLocals = 3 := hml0
  have hown : s.vm.findClass "java/time/Duration" = some m.cls := findClass_of_methodNamed Bd.named
  have hnm := (name_of_methodNamed Bd.named Bd.method).1
  have X0 : Stand p l e ({ frames := 2, cells := 1, slots := 2, locals := 28 } : Room) s m #[(.long qs), (.int pn)] below meth c s₁ [] 0 0 := Stand.of_body Bd
  have e0 : s₁.heap = h0 := by rw [← hh, Bd.state]; rfl
  have N0 := Fr.nil n0
  have pre0 : ∀ t, Steps p.tables e below (s₁.setTop (mkF m 0 #[.val (.long qs), .second, .val (.int pn)] [])) t → Steps p.tables e below (s₁.setTop (entryFrame m #[(.long qs), (.int pn)] 3)) t := fun t k => castTop (ef_rm3 m qs pn) k
  obtain ⟨T1, X1, e1, st1⟩ := getS2 X0 hx hZ hown (host := "") (Or.inl (hw _ (List.mem_of_getElem? (i := 119) rfl))) Via.refl e0 S_Z (g := (mkF m 9 #[.val (.long qs), .second, .val (.int pn)] [])) rfl (hb hby d3_9)
  obtain ⟨fs, hr, hrun, hended, hW, hsame⟩ := X1.leave (v := some (.ref w_Z)) (fun h => by rw [Bd.returns] at h; cases h)
  refine ⟨_, _, pre0 _ ?_, hrun, hended, _, _, rfl, ?_, ⟨_, rfl⟩, hW, hsame.mono (by decide) (by decide)⟩
  · show Steps p.tables e below (s₁.setTop (mkF m 0 #[.val (.long qs), .second, .val (.int pn)] [])) _
    refine XS.lloadN X0.here hx rfl (hb hby d3_0) rfl ?_
    show Steps p.tables e below (s₁.setTop (mkF m 1 #[.val (.long qs), .second, .val (.int pn)] [(.long qs)])) _
    refine XS.iloadN X0.here hx rfl (hb hby d3_1) rfl ?_
    show Steps p.tables e below (s₁.setTop (mkF m 2 #[.val (.long qs), .second, .val (.int pn)] [(.int pn), (.long qs)])) _
    refine XS.i2l X0.here hx rfl (hb hby d3_2) rfl ?_
    show Steps p.tables e below (s₁.setTop (mkF m 3 #[.val (.long qs), .second, .val (.int pn)] [(.long (pn.toInt64)), (.long qs)])) _
    refine XS.lor X0.here hx rfl (hb hby d3_3) rfl ?_
    show Steps p.tables e below (s₁.setTop (mkF m 4 #[.val (.long qs), .second, .val (.int pn)] [(.long (qs ||| (pn.toInt64)))])) _
    refine XS.lconst X0.here hx rfl (hb hby d3_4) ?_
    show Steps p.tables e below (s₁.setTop (mkF m 5 #[.val (.long qs), .second, .val (.int pn)] [(.long (0 : Int64)), (.long (qs ||| (pn.toInt64)))])) _
    refine XS.lcmp X0.here hx rfl (hb hby d3_5) rfl ?_
    show Steps p.tables e below (s₁.setTop (mkF m 6 #[.val (.long qs), .second, .val (.int pn)] [(.int (lcmpW (qs ||| (pn.toInt64)) (0 : Int64)))])) _
    refine XS.ifNo X0.here hx rfl (hb hby d3_6) rfl ((if0 _ _).trans (teq ((lw_eq (qs ||| (pn.toInt64)) (0 : Int64)).mpr hc6)).2) ?_
    show Steps p.tables e below (s₁.setTop (mkF m 9 #[.val (.long qs), .second, .val (.int pn)] [])) _
    refine st1 _ ?_
    show Steps p.tables e below (T1.setTop (mkF m 12 #[.val (.long qs), .second, .val (.int pn)] [(.ref w_Z)])) _
    exact retOut X1 hx Bd.returns rfl (Or.inr (Or.inr (Or.inr (Or.inr ⟨rfl, rfl, rfl⟩)))) (hb hby d3_12) hr
  · show QD Z qs pn h0 n0 _ T1.heap _
    rw [e1]
    obtain ⟨rfl, rfl⟩ := own_or0 hc6
    exact ⟨w_Z, rfl, N0, own_ext_refl h0, E_Z, F_Zs, F_Zn⟩
set_option maxRecDepth 65536 in
set_option maxHeartbeats 40000000 in
theorem rm3 (l : Launch) (Z : State) (a0 : Array Value) (hw : ∀ d ∈ tables_1, d.before a0 Z = true) (ws : List Jvm.Cond) (qs : Int64) (pn : Int32) (w_Z : Addr) (h0 : Heap) (n0 : Nat) (Z0 : n0 ≤ h0.size) (S_Z : Sta Z h0 "java/time/Duration" "ZERO" "Ljava/time/Duration;" (.ref w_Z)) (E_Z : Exa Z h0 w_Z "java/time/Duration") (F_Zs : Fld Z h0 w_Z "java/time/Duration" "seconds" "J" (.long (0 : Int64))) (F_Zn : Fld Z h0 w_Z "java/time/Duration" "nanos" "I" (.int (0 : Int32))) :
    MetFree l (⟨"java/time/Duration", "create", "(JI)Ljava/time/Duration;"⟩ : MethodName) (head1 (Jvm.Cond.code (⟨"java/time/Duration", "create", "(JI)Ljava/time/Duration;"⟩ : MethodName) jdk_2316_method_16_code 3 (some (.object "java/time/Duration")) :: ws) ({ frames := 2, cells := 1, slots := 2, locals := 28 } : Room)) (fun a U => a = #[(.long qs), (.int pn)] ∧ Z.Warmed39 U.vm ∧ U.heap = h0) (fun _ _ _ _ _ => True) (fun _ U o U' => ∃ v L, o = .returned v ∧ QD Z qs pn h0 n0 v U'.heap L ∧ FrameEnd U o U' L ({ frames := 2, cells := 1, slots := 2, locals := 28 } : Room).cells ({ frames := 2, cells := 1, slots := 2, locals := 28 } : Room).slots) := by
  by_cases hc6 : (qs ||| (pn.toInt64)) = (0 : Int64)
  · exact rm3_f l Z a0 hw ws qs pn w_Z h0 n0 Z0 S_Z E_Z F_Zs F_Zn hc6
  · exact rm3_t l Z a0 hw ws qs pn w_Z h0 n0 Z0 S_Z E_Z F_Zs F_Zn hc6
theorem d2_0 : decode jdk_2316_method_6_code 0 = .ok (.lload_n 0, 1) := by decide +kernel
theorem d2_1 : decode jdk_2316_method_6_code 1 = .ok (.ldc2_w 28, 3) := by decide +kernel
theorem d2_4 : decode jdk_2316_method_6_code 4 = .ok (.ldiv, 1) := by decide +kernel
theorem d2_5 : decode jdk_2316_method_6_code 5 = .ok (.lstore_n 2, 1) := by decide +kernel
theorem d2_6 : decode jdk_2316_method_6_code 6 = .ok (.lload_n 0, 1) := by decide +kernel
theorem d2_7 : decode jdk_2316_method_6_code 7 = .ok (.ldc2_w 28, 3) := by decide +kernel
theorem d2_10 : decode jdk_2316_method_6_code 10 = .ok (.lrem, 1) := by decide +kernel
theorem d2_11 : decode jdk_2316_method_6_code 11 = .ok (.l2i, 1) := by decide +kernel
theorem d2_12 : decode jdk_2316_method_6_code 12 = .ok (.istore 4, 2) := by decide +kernel
theorem d2_14 : decode jdk_2316_method_6_code 14 = .ok (.iload 4, 2) := by decide +kernel
theorem d2_16 : decode jdk_2316_method_6_code 16 = .ok (.ifCond .ge 13, 3) := by decide +kernel
theorem d2_29 : decode jdk_2316_method_6_code 29 = .ok (.lload_n 2, 1) := by decide +kernel
theorem d2_30 : decode jdk_2316_method_6_code 30 = .ok (.iload 4, 2) := by decide +kernel
theorem d2_32 : decode jdk_2316_method_6_code 32 = .ok (.ldc 30, 2) := by decide +kernel
theorem d2_34 : decode jdk_2316_method_6_code 34 = .ok (.imul, 1) := by decide +kernel
theorem d2_35 : decode jdk_2316_method_6_code 35 = .ok (.invokestatic 10, 3) := by decide +kernel
theorem pdm_1 : parseMethodDescriptor "(JI)Ljava/time/Duration;" = some ⟨[.long, .int], some (.object "java/time/Duration")⟩ := by decide +kernel
theorem d2_38 : decode jdk_2316_method_6_code 38 = .ok (.areturn, 1) := by decide +kernel
theorem ef_rm2 (m : MethodId) (qk : Int64) : entryFrame m #[(.long qk)] 5 = mkF m 0 #[.val (.long qk), .second, .unset, .unset, .unset] [] := by first | (simp [entryFrame, mkF, argsToLocals, Value.category]; done) | rfl
set_option maxRecDepth 65536 in
set_option maxHeartbeats 40000000 in
theorem rm2 (l : Launch) (Z : State) (a0 : Array Value) (hw : ∀ d ∈ tables_1, d.before a0 Z = true) (ws : List Jvm.Cond) (qk : Int64) (w_Z : Addr) (h0 : Heap) (n0 : Nat) (Z0 : n0 ≤ h0.size) (S_Z : Sta Z h0 "java/time/Duration" "ZERO" "Ljava/time/Duration;" (.ref w_Z)) (E_Z : Exa Z h0 w_Z "java/time/Duration") (F_Zs : Fld Z h0 w_Z "java/time/Duration" "seconds" "J" (.long (0 : Int64))) (F_Zn : Fld Z h0 w_Z "java/time/Duration" "nanos" "I" (.int (0 : Int32))) (hm : ¬ ((qk - (qk / (1000 : Int64)) * (1000 : Int64)).toInt32) < (0 : Int32)) :
    MetFree l (⟨"java/time/Duration", "ofMillis", "(J)Ljava/time/Duration;"⟩ : MethodName) (head1 (Jvm.Cond.code (⟨"java/time/Duration", "ofMillis", "(J)Ljava/time/Duration;"⟩ : MethodName) jdk_2316_method_6_code 5 (some (.object "java/time/Duration")) :: ws) ({ frames := 3, cells := 1, slots := 2, locals := 42 } : Room)) (fun a U => a = #[(.long qk)] ∧ Z.Warmed39 U.vm ∧ U.heap = h0) (fun _ _ _ _ _ => True) (fun _ U o U' => ∃ v L, o = .returned v ∧ QD Z (qk / (1000 : Int64)) (((qk - (qk / (1000 : Int64)) * (1000 : Int64)).toInt32) * (1000000 : Int32)) h0 n0 v U'.heap L ∧ FrameEnd U o U' L ({ frames := 3, cells := 1, slots := 2, locals := 42 } : Room).cells ({ frames := 3, cells := 1, slots := 2, locals := 42 } : Room).slots) := by
  refine MetFree.of_bodySF (plainFor_of_name pnm_0) hisR ?_
  intro p e s m args below meth c s₁ Bd hml0 hP hK
  obtain ⟨rfl, hZ, hh⟩ := hP
  have hx := Bd.exec
  have hby := Bd.bytes
  have hml : c.maxLocals = 5 := hml0
  have hown : s.vm.findClass "java/time/Duration" = some m.cls := findClass_of_methodNamed Bd.named
  have hnm := (name_of_methodNamed Bd.named Bd.method).1
  have X0 : Stand p l e ({ frames := 3, cells := 1, slots := 2, locals := 42 } : Room) s m #[(.long qk)] below meth c s₁ [] 0 0 := Stand.of_body Bd
  have e0 : s₁.heap = h0 := by rw [← hh, Bd.state]; rfl
  have N0 := Fr.nil n0
  have pre0 : ∀ t, Steps p.tables e below (s₁.setTop (mkF m 0 #[.val (.long qk), .second, .unset, .unset, .unset] [])) t → Steps p.tables e below (s₁.setTop (entryFrame m #[(.long qk)] 5)) t := fun t k => castTop (ef_rm2 m qk) k
  obtain ⟨_, _, ⟨T1, L1, k1, n1⟩, -, X1, ⟨Lc1, hQ1, l1, y1, z1⟩, st1⟩ := Jvm.LawKit.callS X0 hx (y := (⟨"java/time/Duration", "create", "(JI)Ljava/time/Duration;"⟩ : MethodName)) hown (mvT hZ (hw _ (List.mem_of_getElem? (i := 13) rfl))) (mvT hZ (hw _ (List.mem_of_getElem? (i := 14) rfl))) (mvT hZ (hw _ (List.mem_of_getElem? (i := 9) rfl))) (mvT hZ (hw _ (List.mem_of_getElem? (i := 15) rfl))) (by decide) (backOf (W := 0) (rm3 l Z a0 hw [] (qk / (1000 : Int64)) (((qk - (qk / (1000 : Int64)) * (1000 : Int64)).toInt32) * (1000000 : Int32)) w_Z h0 n0 Z0 S_Z E_Z F_Zs F_Zn) hZ (hw _ (List.mem_of_getElem? (i := 15) rfl)) (hw _ (List.mem_of_getElem? (i := 9) rfl)) (by decide) (by decide)) (g := (mkF m 35 #[.val (.long qk), .second, .val (.long (qk / (1000 : Int64))), .second, .val (.int ((qk - (qk / (1000 : Int64)) * (1000 : Int64)).toInt32))] [(.int (((qk - (qk / (1000 : Int64)) * (1000 : Int64)).toInt32) * (1000000 : Int32))), (.long (qk / (1000 : Int64)))])) rfl (by rw [hml]; rfl) (argsL := [(.long (qk / (1000 : Int64))), (.int (((qk - (qk / (1000 : Int64)) * (1000 : Int64)).toInt32) * (1000000 : Int32)))]) (rest := []) (lenOf pdm_1 rfl) rfl (by show 2 * 0 + _ ≤ _; exact Nat.le_of_eq rfl) (hb hby d2_35) (fun _ _ => ⟨rfl, e0, (by decide : 0 + 1 ≤ _), (by decide : 0 + 2 ≤ _)⟩)
  dsimp only [Pt.U, Pt.locs, Pt.cells, Pt.slots] at X1 l1 y1 z1 st1 hQ1
  subst l1 y1 z1
  obtain ⟨b1, rfl, N1q, Ex1, A1, Fs1, Fn1⟩ := hQ1
  have N1 := Fr.app N0 N1q
  obtain ⟨fs, hr, hrun, hended, hW, hsame⟩ := X1.leave (v := some (.ref b1)) (fun h => by rw [Bd.returns] at h; cases h)
  refine ⟨_, _, pre0 _ ?_, hrun, hended, _, _, rfl, ?_, ⟨_, rfl⟩, hW, hsame.mono (by decide) (by decide)⟩
  · show Steps p.tables e below (s₁.setTop (mkF m 0 #[.val (.long qk), .second, .unset, .unset, .unset] [])) _
    refine XS.lloadN X0.here hx rfl (hb hby d2_0) rfl ?_
    show Steps p.tables e below (s₁.setTop (mkF m 1 #[.val (.long qk), .second, .unset, .unset, .unset] [(.long qk)])) _
    refine X0.ldc2Long hx hown (mvT hZ (hw _ (List.mem_of_getElem? (i := 11) rfl))) (g := (mkF m 1 #[.val (.long qk), .second, .unset, .unset, .unset] [(.long qk)])) rfl (hb hby d2_1) _ ?_
    show Steps p.tables e below (s₁.setTop (mkF m 4 #[.val (.long qk), .second, .unset, .unset, .unset] [(.long (1000 : Int64)), (.long qk)])) _
    refine XS.ldiv X0.here hx rfl (hb hby d2_4) rfl (by decide) ?_
    show Steps p.tables e below (s₁.setTop (mkF m 5 #[.val (.long qk), .second, .unset, .unset, .unset] [(.long (qk / (1000 : Int64)))])) _
    refine XS.lstoreN X0.here hx rfl (hb hby d2_5) rfl (l' := #[.val (.long qk), .second, .val (.long (qk / (1000 : Int64))), .second, .unset]) rfl ?_
    show Steps p.tables e below (s₁.setTop (mkF m 6 #[.val (.long qk), .second, .val (.long (qk / (1000 : Int64))), .second, .unset] [])) _
    refine XS.lloadN X0.here hx rfl (hb hby d2_6) rfl ?_
    show Steps p.tables e below (s₁.setTop (mkF m 7 #[.val (.long qk), .second, .val (.long (qk / (1000 : Int64))), .second, .unset] [(.long qk)])) _
    refine X0.ldc2Long hx hown (mvT hZ (hw _ (List.mem_of_getElem? (i := 11) rfl))) (g := (mkF m 7 #[.val (.long qk), .second, .val (.long (qk / (1000 : Int64))), .second, .unset] [(.long qk)])) rfl (hb hby d2_7) _ ?_
    show Steps p.tables e below (s₁.setTop (mkF m 10 #[.val (.long qk), .second, .val (.long (qk / (1000 : Int64))), .second, .unset] [(.long (1000 : Int64)), (.long qk)])) _
    refine XS.lrem X0.here hx rfl (hb hby d2_10) rfl (by decide) ?_
    show Steps p.tables e below (s₁.setTop (mkF m 11 #[.val (.long qk), .second, .val (.long (qk / (1000 : Int64))), .second, .unset] [(.long (qk - (qk / (1000 : Int64)) * (1000 : Int64)))])) _
    refine XS.l2i X0.here hx rfl (hb hby d2_11) rfl ?_
    show Steps p.tables e below (s₁.setTop (mkF m 12 #[.val (.long qk), .second, .val (.long (qk / (1000 : Int64))), .second, .unset] [(.int ((qk - (qk / (1000 : Int64)) * (1000 : Int64)).toInt32))])) _
    refine XS.istore X0.here hx rfl (hb hby d2_12) rfl (l' := #[.val (.long qk), .second, .val (.long (qk / (1000 : Int64))), .second, .val (.int ((qk - (qk / (1000 : Int64)) * (1000 : Int64)).toInt32))]) rfl ?_
    show Steps p.tables e below (s₁.setTop (mkF m 14 #[.val (.long qk), .second, .val (.long (qk / (1000 : Int64))), .second, .val (.int ((qk - (qk / (1000 : Int64)) * (1000 : Int64)).toInt32))] [])) _
    refine XS.iload X0.here hx rfl (hb hby d2_14) rfl ?_
    show Steps p.tables e below (s₁.setTop (mkF m 16 #[.val (.long qk), .second, .val (.long (qk / (1000 : Int64))), .second, .val (.int ((qk - (qk / (1000 : Int64)) * (1000 : Int64)).toInt32))] [(.int ((qk - (qk / (1000 : Int64)) * (1000 : Int64)).toInt32))])) _
    refine XS.ifYes X0.here hx rfl (pc0 := 16) (pc' := 29) rfl (hb hby d2_16) rfl ((if0 _ _).trans (flt (hm)).2.1) (by decide) (by decide) ?_
    show Steps p.tables e below (s₁.setTop (mkF m 29 #[.val (.long qk), .second, .val (.long (qk / (1000 : Int64))), .second, .val (.int ((qk - (qk / (1000 : Int64)) * (1000 : Int64)).toInt32))] [])) _
    refine XS.lloadN X0.here hx rfl (hb hby d2_29) rfl ?_
    show Steps p.tables e below (s₁.setTop (mkF m 30 #[.val (.long qk), .second, .val (.long (qk / (1000 : Int64))), .second, .val (.int ((qk - (qk / (1000 : Int64)) * (1000 : Int64)).toInt32))] [(.long (qk / (1000 : Int64)))])) _
    refine XS.iload X0.here hx rfl (hb hby d2_30) rfl ?_
    show Steps p.tables e below (s₁.setTop (mkF m 32 #[.val (.long qk), .second, .val (.long (qk / (1000 : Int64))), .second, .val (.int ((qk - (qk / (1000 : Int64)) * (1000 : Int64)).toInt32))] [(.int ((qk - (qk / (1000 : Int64)) * (1000 : Int64)).toInt32)), (.long (qk / (1000 : Int64)))])) _
    refine X0.ldcInt hx hown (mvT hZ (hw _ (List.mem_of_getElem? (i := 12) rfl))) (g := (mkF m 32 #[.val (.long qk), .second, .val (.long (qk / (1000 : Int64))), .second, .val (.int ((qk - (qk / (1000 : Int64)) * (1000 : Int64)).toInt32))] [(.int ((qk - (qk / (1000 : Int64)) * (1000 : Int64)).toInt32)), (.long (qk / (1000 : Int64)))])) rfl (hb hby d2_32) _ ?_
    show Steps p.tables e below (s₁.setTop (mkF m 34 #[.val (.long qk), .second, .val (.long (qk / (1000 : Int64))), .second, .val (.int ((qk - (qk / (1000 : Int64)) * (1000 : Int64)).toInt32))] [(.int (1000000 : Int32)), (.int ((qk - (qk / (1000 : Int64)) * (1000 : Int64)).toInt32)), (.long (qk / (1000 : Int64)))])) _
    refine XS.imul X0.here hx rfl (hb hby d2_34) rfl ?_
    show Steps p.tables e below (s₁.setTop (mkF m 35 #[.val (.long qk), .second, .val (.long (qk / (1000 : Int64))), .second, .val (.int ((qk - (qk / (1000 : Int64)) * (1000 : Int64)).toInt32))] [(.int (((qk - (qk / (1000 : Int64)) * (1000 : Int64)).toInt32) * (1000000 : Int32))), (.long (qk / (1000 : Int64)))])) _
    refine st1 _ ?_
    show Steps p.tables e below (T1.setTop (mkF m 38 #[.val (.long qk), .second, .val (.long (qk / (1000 : Int64))), .second, .val (.int ((qk - (qk / (1000 : Int64)) * (1000 : Int64)).toInt32))] [(.ref b1)])) _
    exact retOut X1 hx Bd.returns rfl (Or.inr (Or.inr (Or.inr (Or.inr ⟨rfl, rfl, rfl⟩)))) (hb hby d2_38) hr
  · show QD Z (qk / (1000 : Int64)) (((qk - (qk / (1000 : Int64)) * (1000 : Int64)).toInt32) * (1000000 : Int32)) h0 n0 _ T1.heap _
    exact ⟨b1, rfl, N1, Ex1, A1, Fs1, Fn1⟩
theorem d23_0 : decode jdk_2316_method_7_code 0 = .ok (.lload_n 0, 1) := by decide +kernel
theorem d23_1 : decode jdk_2316_method_7_code 1 = .ok (.ldc2_w 16, 3) := by decide +kernel
theorem d23_4 : decode jdk_2316_method_7_code 4 = .ok (.ldiv, 1) := by decide +kernel
theorem d23_5 : decode jdk_2316_method_7_code 5 = .ok (.lstore_n 2, 1) := by decide +kernel
theorem d23_6 : decode jdk_2316_method_7_code 6 = .ok (.lload_n 0, 1) := by decide +kernel
theorem d23_7 : decode jdk_2316_method_7_code 7 = .ok (.ldc2_w 16, 3) := by decide +kernel
theorem d23_10 : decode jdk_2316_method_7_code 10 = .ok (.lrem, 1) := by decide +kernel
theorem d23_11 : decode jdk_2316_method_7_code 11 = .ok (.l2i, 1) := by decide +kernel
theorem d23_12 : decode jdk_2316_method_7_code 12 = .ok (.istore 4, 2) := by decide +kernel
theorem d23_14 : decode jdk_2316_method_7_code 14 = .ok (.iload 4, 2) := by decide +kernel
theorem d23_16 : decode jdk_2316_method_7_code 16 = .ok (.ifCond .ge 14, 3) := by decide +kernel
theorem d23_30 : decode jdk_2316_method_7_code 30 = .ok (.lload_n 2, 1) := by decide +kernel
theorem d23_31 : decode jdk_2316_method_7_code 31 = .ok (.iload 4, 2) := by decide +kernel
theorem d23_33 : decode jdk_2316_method_7_code 33 = .ok (.invokestatic 10, 3) := by decide +kernel
theorem d23_36 : decode jdk_2316_method_7_code 36 = .ok (.areturn, 1) := by decide +kernel
theorem ef_rm23 (m : MethodId) (qk : Int64) : entryFrame m #[(.long qk)] 5 = mkF m 0 #[.val (.long qk), .second, .unset, .unset, .unset] [] := by first | (simp [entryFrame, mkF, argsToLocals, Value.category]; done) | rfl
set_option maxRecDepth 65536 in
set_option maxHeartbeats 40000000 in
theorem rm23 (l : Launch) (Z : State) (a0 : Array Value) (hw : ∀ d ∈ tables_1, d.before a0 Z = true) (ws : List Jvm.Cond) (qk : Int64) (w_Z : Addr) (h0 : Heap) (n0 : Nat) (Z0 : n0 ≤ h0.size) (S_Z : Sta Z h0 "java/time/Duration" "ZERO" "Ljava/time/Duration;" (.ref w_Z)) (E_Z : Exa Z h0 w_Z "java/time/Duration") (F_Zs : Fld Z h0 w_Z "java/time/Duration" "seconds" "J" (.long (0 : Int64))) (F_Zn : Fld Z h0 w_Z "java/time/Duration" "nanos" "I" (.int (0 : Int32))) (hm : ¬ ((qk - (qk / (1000000000 : Int64)) * (1000000000 : Int64)).toInt32) < (0 : Int32)) :
    MetFree l (⟨"java/time/Duration", "ofNanos", "(J)Ljava/time/Duration;"⟩ : MethodName) (head1 (Jvm.Cond.code (⟨"java/time/Duration", "ofNanos", "(J)Ljava/time/Duration;"⟩ : MethodName) jdk_2316_method_7_code 5 (some (.object "java/time/Duration")) :: ws) ({ frames := 3, cells := 1, slots := 2, locals := 42 } : Room)) (fun a U => a = #[(.long qk)] ∧ Z.Warmed39 U.vm ∧ U.heap = h0) (fun _ _ _ _ _ => True) (fun _ U o U' => ∃ v L, o = .returned v ∧ QD Z (qk / (1000000000 : Int64)) ((qk - (qk / (1000000000 : Int64)) * (1000000000 : Int64)).toInt32) h0 n0 v U'.heap L ∧ FrameEnd U o U' L ({ frames := 3, cells := 1, slots := 2, locals := 42 } : Room).cells ({ frames := 3, cells := 1, slots := 2, locals := 42 } : Room).slots) := by
  refine MetFree.of_bodySF (plainFor_of_name pnm_0) hisR ?_
  intro p e s m args below meth c s₁ Bd hml0 hP hK
  obtain ⟨rfl, hZ, hh⟩ := hP
  have hx := Bd.exec
  have hby := Bd.bytes
  have hml : c.maxLocals = 5 := hml0
  have hown : s.vm.findClass "java/time/Duration" = some m.cls := findClass_of_methodNamed Bd.named
  have hnm := (name_of_methodNamed Bd.named Bd.method).1
  have X0 : Stand p l e ({ frames := 3, cells := 1, slots := 2, locals := 42 } : Room) s m #[(.long qk)] below meth c s₁ [] 0 0 := Stand.of_body Bd
  have e0 : s₁.heap = h0 := by rw [← hh, Bd.state]; rfl
  have N0 := Fr.nil n0
  have pre0 : ∀ t, Steps p.tables e below (s₁.setTop (mkF m 0 #[.val (.long qk), .second, .unset, .unset, .unset] [])) t → Steps p.tables e below (s₁.setTop (entryFrame m #[(.long qk)] 5)) t := fun t k => castTop (ef_rm23 m qk) k
  obtain ⟨_, _, ⟨T1, L1, k1, n1⟩, -, X1, ⟨Lc1, hQ1, l1, y1, z1⟩, st1⟩ := Jvm.LawKit.callS X0 hx (y := (⟨"java/time/Duration", "create", "(JI)Ljava/time/Duration;"⟩ : MethodName)) hown (mvT hZ (hw _ (List.mem_of_getElem? (i := 13) rfl))) (mvT hZ (hw _ (List.mem_of_getElem? (i := 14) rfl))) (mvT hZ (hw _ (List.mem_of_getElem? (i := 9) rfl))) (mvT hZ (hw _ (List.mem_of_getElem? (i := 15) rfl))) (by decide) (backOf (W := 0) (rm3 l Z a0 hw [] (qk / (1000000000 : Int64)) ((qk - (qk / (1000000000 : Int64)) * (1000000000 : Int64)).toInt32) w_Z h0 n0 Z0 S_Z E_Z F_Zs F_Zn) hZ (hw _ (List.mem_of_getElem? (i := 15) rfl)) (hw _ (List.mem_of_getElem? (i := 9) rfl)) (by decide) (by decide)) (g := (mkF m 33 #[.val (.long qk), .second, .val (.long (qk / (1000000000 : Int64))), .second, .val (.int ((qk - (qk / (1000000000 : Int64)) * (1000000000 : Int64)).toInt32))] [(.int ((qk - (qk / (1000000000 : Int64)) * (1000000000 : Int64)).toInt32)), (.long (qk / (1000000000 : Int64)))])) rfl (by rw [hml]; rfl) (argsL := [(.long (qk / (1000000000 : Int64))), (.int ((qk - (qk / (1000000000 : Int64)) * (1000000000 : Int64)).toInt32))]) (rest := []) (lenOf pdm_1 rfl) rfl (by show 2 * 0 + _ ≤ _; exact Nat.le_of_eq rfl) (hb hby d23_33) (fun _ _ => ⟨rfl, e0, (by decide : 0 + 1 ≤ _), (by decide : 0 + 2 ≤ _)⟩)
  dsimp only [Pt.U, Pt.locs, Pt.cells, Pt.slots] at X1 l1 y1 z1 st1 hQ1
  subst l1 y1 z1
  obtain ⟨b1, rfl, N1q, Ex1, A1, Fs1, Fn1⟩ := hQ1
  have N1 := Fr.app N0 N1q
  obtain ⟨fs, hr, hrun, hended, hW, hsame⟩ := X1.leave (v := some (.ref b1)) (fun h => by rw [Bd.returns] at h; cases h)
  refine ⟨_, _, pre0 _ ?_, hrun, hended, _, _, rfl, ?_, ⟨_, rfl⟩, hW, hsame.mono (by decide) (by decide)⟩
  · show Steps p.tables e below (s₁.setTop (mkF m 0 #[.val (.long qk), .second, .unset, .unset, .unset] [])) _
    refine XS.lloadN X0.here hx rfl (hb hby d23_0) rfl ?_
    show Steps p.tables e below (s₁.setTop (mkF m 1 #[.val (.long qk), .second, .unset, .unset, .unset] [(.long qk)])) _
    refine X0.ldc2Long hx hown (mvT hZ (hw _ (List.mem_of_getElem? (i := 55) rfl))) (g := (mkF m 1 #[.val (.long qk), .second, .unset, .unset, .unset] [(.long qk)])) rfl (hb hby d23_1) _ ?_
    show Steps p.tables e below (s₁.setTop (mkF m 4 #[.val (.long qk), .second, .unset, .unset, .unset] [(.long (1000000000 : Int64)), (.long qk)])) _
    refine XS.ldiv X0.here hx rfl (hb hby d23_4) rfl (by decide) ?_
    show Steps p.tables e below (s₁.setTop (mkF m 5 #[.val (.long qk), .second, .unset, .unset, .unset] [(.long (qk / (1000000000 : Int64)))])) _
    refine XS.lstoreN X0.here hx rfl (hb hby d23_5) rfl (l' := #[.val (.long qk), .second, .val (.long (qk / (1000000000 : Int64))), .second, .unset]) rfl ?_
    show Steps p.tables e below (s₁.setTop (mkF m 6 #[.val (.long qk), .second, .val (.long (qk / (1000000000 : Int64))), .second, .unset] [])) _
    refine XS.lloadN X0.here hx rfl (hb hby d23_6) rfl ?_
    show Steps p.tables e below (s₁.setTop (mkF m 7 #[.val (.long qk), .second, .val (.long (qk / (1000000000 : Int64))), .second, .unset] [(.long qk)])) _
    refine X0.ldc2Long hx hown (mvT hZ (hw _ (List.mem_of_getElem? (i := 55) rfl))) (g := (mkF m 7 #[.val (.long qk), .second, .val (.long (qk / (1000000000 : Int64))), .second, .unset] [(.long qk)])) rfl (hb hby d23_7) _ ?_
    show Steps p.tables e below (s₁.setTop (mkF m 10 #[.val (.long qk), .second, .val (.long (qk / (1000000000 : Int64))), .second, .unset] [(.long (1000000000 : Int64)), (.long qk)])) _
    refine XS.lrem X0.here hx rfl (hb hby d23_10) rfl (by decide) ?_
    show Steps p.tables e below (s₁.setTop (mkF m 11 #[.val (.long qk), .second, .val (.long (qk / (1000000000 : Int64))), .second, .unset] [(.long (qk - (qk / (1000000000 : Int64)) * (1000000000 : Int64)))])) _
    refine XS.l2i X0.here hx rfl (hb hby d23_11) rfl ?_
    show Steps p.tables e below (s₁.setTop (mkF m 12 #[.val (.long qk), .second, .val (.long (qk / (1000000000 : Int64))), .second, .unset] [(.int ((qk - (qk / (1000000000 : Int64)) * (1000000000 : Int64)).toInt32))])) _
    refine XS.istore X0.here hx rfl (hb hby d23_12) rfl (l' := #[.val (.long qk), .second, .val (.long (qk / (1000000000 : Int64))), .second, .val (.int ((qk - (qk / (1000000000 : Int64)) * (1000000000 : Int64)).toInt32))]) rfl ?_
    show Steps p.tables e below (s₁.setTop (mkF m 14 #[.val (.long qk), .second, .val (.long (qk / (1000000000 : Int64))), .second, .val (.int ((qk - (qk / (1000000000 : Int64)) * (1000000000 : Int64)).toInt32))] [])) _
    refine XS.iload X0.here hx rfl (hb hby d23_14) rfl ?_
    show Steps p.tables e below (s₁.setTop (mkF m 16 #[.val (.long qk), .second, .val (.long (qk / (1000000000 : Int64))), .second, .val (.int ((qk - (qk / (1000000000 : Int64)) * (1000000000 : Int64)).toInt32))] [(.int ((qk - (qk / (1000000000 : Int64)) * (1000000000 : Int64)).toInt32))])) _
    refine XS.ifYes X0.here hx rfl (pc0 := 16) (pc' := 30) rfl (hb hby d23_16) rfl ((if0 _ _).trans (flt (hm)).2.1) (by decide) (by decide) ?_
    show Steps p.tables e below (s₁.setTop (mkF m 30 #[.val (.long qk), .second, .val (.long (qk / (1000000000 : Int64))), .second, .val (.int ((qk - (qk / (1000000000 : Int64)) * (1000000000 : Int64)).toInt32))] [])) _
    refine XS.lloadN X0.here hx rfl (hb hby d23_30) rfl ?_
    show Steps p.tables e below (s₁.setTop (mkF m 31 #[.val (.long qk), .second, .val (.long (qk / (1000000000 : Int64))), .second, .val (.int ((qk - (qk / (1000000000 : Int64)) * (1000000000 : Int64)).toInt32))] [(.long (qk / (1000000000 : Int64)))])) _
    refine XS.iload X0.here hx rfl (hb hby d23_31) rfl ?_
    show Steps p.tables e below (s₁.setTop (mkF m 33 #[.val (.long qk), .second, .val (.long (qk / (1000000000 : Int64))), .second, .val (.int ((qk - (qk / (1000000000 : Int64)) * (1000000000 : Int64)).toInt32))] [(.int ((qk - (qk / (1000000000 : Int64)) * (1000000000 : Int64)).toInt32)), (.long (qk / (1000000000 : Int64)))])) _
    refine st1 _ ?_
    show Steps p.tables e below (T1.setTop (mkF m 36 #[.val (.long qk), .second, .val (.long (qk / (1000000000 : Int64))), .second, .val (.int ((qk - (qk / (1000000000 : Int64)) * (1000000000 : Int64)).toInt32))] [(.ref b1)])) _
    exact retOut X1 hx Bd.returns rfl (Or.inr (Or.inr (Or.inr (Or.inr ⟨rfl, rfl, rfl⟩)))) (hb hby d23_36) hr
  · show QD Z (qk / (1000000000 : Int64)) ((qk - (qk / (1000000000 : Int64)) * (1000000000 : Int64)).toInt32) h0 n0 _ T1.heap _
    exact ⟨b1, rfl, N1, Ex1, A1, Fs1, Fn1⟩
theorem d7_0 : decode jdk_2316_method_23_code 0 = .ok (.aload_n 0, 1) := by decide +kernel
theorem d7_1 : decode jdk_2316_method_23_code 1 = .ok (.getfield 221, 3) := by decide +kernel
theorem d7_4 : decode jdk_2316_method_23_code 4 = .ok (.lreturn, 1) := by decide +kernel
theorem ef_rm7 (m : MethodId) (ak : Addr) : entryFrame m #[(.ref ak)] 1 = mkF m 0 #[.val (.ref ak)] [] := by first | (simp [entryFrame, mkF, argsToLocals, Value.category]; done) | rfl
set_option maxRecDepth 65536 in
set_option maxHeartbeats 40000000 in
theorem rm7 (l : Launch) (Z : State) (a0 : Array Value) (hw : ∀ d ∈ tables_1, d.before a0 Z = true) (ws : List Jvm.Cond) (ak : Addr) (qv : Int64) (h0 : Heap) (n0 : Nat) (Z0 : n0 ≤ h0.size) (F_s : Fld Z h0 ak "java/time/Duration" "seconds" "J" (.long qv)) (r : Int64) (hr0 : r = qv) :
    MetFree l (⟨"java/time/Duration", "getSeconds", "()J"⟩ : MethodName) (head1 (Jvm.Cond.code (⟨"java/time/Duration", "getSeconds", "()J"⟩ : MethodName) jdk_2316_method_23_code 1 (some .long) :: ws) ({ frames := 0, cells := 0, slots := 0, locals := 0 } : Room)) (fun a U => a = #[(.ref ak)] ∧ Z.Warmed39 U.vm ∧ U.heap = h0) (fun _ _ _ _ _ => True) (fun _ U o U' => ∃ v L, o = .returned v ∧ QP (.long r) h0 n0 v U'.heap L ∧ FrameEnd U o U' L ({ frames := 0, cells := 0, slots := 0, locals := 0 } : Room).cells ({ frames := 0, cells := 0, slots := 0, locals := 0 } : Room).slots) := by
  rw [hr0]
  refine MetFree.of_bodySF (plainFor_of_name pnm_0) hisR ?_
  intro p e s m args below meth c s₁ Bd hml0 hP hK
  obtain ⟨rfl, hZ, hh⟩ := hP
  have hx := Bd.exec
  have hby := Bd.bytes
  have hml : c.maxLocals = 1 := hml0
  have hown : s.vm.findClass "java/time/Duration" = some m.cls := findClass_of_methodNamed Bd.named
  have hnm := (name_of_methodNamed Bd.named Bd.method).1
  have X0 : Stand p l e ({ frames := 0, cells := 0, slots := 0, locals := 0 } : Room) s m #[(.ref ak)] below meth c s₁ [] 0 0 := Stand.of_body Bd
  have e0 : s₁.heap = h0 := by rw [← hh, Bd.state]; rfl
  have N0 := Fr.nil n0
  have pre0 : ∀ t, Steps p.tables e below (s₁.setTop (mkF m 0 #[.val (.ref ak)] [])) t → Steps p.tables e below (s₁.setTop (entryFrame m #[(.ref ak)] 1)) t := fun t k => castTop (ef_rm7 m ak) k
  obtain ⟨T1, X1, e1, st1⟩ := getF X0 hx hZ hown (host := "") (Or.inl (hw _ (List.mem_of_getElem? (i := 25) rfl))) Via.refl e0 F_s (g := (mkF m 1 #[.val (.ref ak)] [(.ref ak)])) rfl rfl (hb hby d7_1)
  obtain ⟨fs, hr, hrun, hended, hW, hsame⟩ := X1.leave (v := some (.long qv)) (fun h => by rw [Bd.returns] at h; cases h)
  refine ⟨_, _, pre0 _ ?_, hrun, hended, _, _, rfl, ?_, ⟨_, rfl⟩, hW, hsame.mono (by decide) (by decide)⟩
  · show Steps p.tables e below (s₁.setTop (mkF m 0 #[.val (.ref ak)] [])) _
    refine XS.aloadN X0.here hx rfl (hb hby d7_0) rfl rfl ?_
    show Steps p.tables e below (s₁.setTop (mkF m 1 #[.val (.ref ak)] [(.ref ak)])) _
    refine st1 _ ?_
    show Steps p.tables e below (T1.setTop (mkF m 4 #[.val (.ref ak)] [(.long qv)])) _
    exact retOut X1 hx Bd.returns rfl (Or.inr (Or.inl ⟨rfl, rfl, _, rfl⟩)) (hb hby d7_4) hr
  · show QP (.long qv) h0 n0 _ T1.heap _
    rw [e1]
    exact ⟨rfl, N0, rfl⟩
theorem d8_0 : decode jdk_2316_method_24_code 0 = .ok (.aload_n 0, 1) := by decide +kernel
theorem d8_1 : decode jdk_2316_method_24_code 1 = .ok (.getfield 224, 3) := by decide +kernel
theorem d8_4 : decode jdk_2316_method_24_code 4 = .ok (.ireturn, 1) := by decide +kernel
theorem ef_rm8 (m : MethodId) (ak : Addr) : entryFrame m #[(.ref ak)] 1 = mkF m 0 #[.val (.ref ak)] [] := by first | (simp [entryFrame, mkF, argsToLocals, Value.category]; done) | rfl
set_option maxRecDepth 65536 in
set_option maxHeartbeats 40000000 in
theorem rm8 (l : Launch) (Z : State) (a0 : Array Value) (hw : ∀ d ∈ tables_1, d.before a0 Z = true) (ws : List Jvm.Cond) (ak : Addr) (pv : Int32) (h0 : Heap) (n0 : Nat) (Z0 : n0 ≤ h0.size) (F_n : Fld Z h0 ak "java/time/Duration" "nanos" "I" (.int pv)) (r : Int32) (hr0 : r = pv) :
    MetFree l (⟨"java/time/Duration", "getNano", "()I"⟩ : MethodName) (head1 (Jvm.Cond.code (⟨"java/time/Duration", "getNano", "()I"⟩ : MethodName) jdk_2316_method_24_code 1 (some .int) :: ws) ({ frames := 0, cells := 0, slots := 0, locals := 0 } : Room)) (fun a U => a = #[(.ref ak)] ∧ Z.Warmed39 U.vm ∧ U.heap = h0) (fun _ _ _ _ _ => True) (fun _ U o U' => ∃ v L, o = .returned v ∧ QP (.int r) h0 n0 v U'.heap L ∧ FrameEnd U o U' L ({ frames := 0, cells := 0, slots := 0, locals := 0 } : Room).cells ({ frames := 0, cells := 0, slots := 0, locals := 0 } : Room).slots) := by
  rw [hr0]
  refine MetFree.of_bodySF (plainFor_of_name pnm_0) hisR ?_
  intro p e s m args below meth c s₁ Bd hml0 hP hK
  obtain ⟨rfl, hZ, hh⟩ := hP
  have hx := Bd.exec
  have hby := Bd.bytes
  have hml : c.maxLocals = 1 := hml0
  have hown : s.vm.findClass "java/time/Duration" = some m.cls := findClass_of_methodNamed Bd.named
  have hnm := (name_of_methodNamed Bd.named Bd.method).1
  have X0 : Stand p l e ({ frames := 0, cells := 0, slots := 0, locals := 0 } : Room) s m #[(.ref ak)] below meth c s₁ [] 0 0 := Stand.of_body Bd
  have e0 : s₁.heap = h0 := by rw [← hh, Bd.state]; rfl
  have N0 := Fr.nil n0
  have pre0 : ∀ t, Steps p.tables e below (s₁.setTop (mkF m 0 #[.val (.ref ak)] [])) t → Steps p.tables e below (s₁.setTop (entryFrame m #[(.ref ak)] 1)) t := fun t k => castTop (ef_rm8 m ak) k
  obtain ⟨T1, X1, e1, st1⟩ := getF X0 hx hZ hown (host := "") (Or.inl (hw _ (List.mem_of_getElem? (i := 27) rfl))) Via.refl e0 F_n (g := (mkF m 1 #[.val (.ref ak)] [(.ref ak)])) rfl rfl (hb hby d8_1)
  obtain ⟨fs, hr, hrun, hended, hW, hsame⟩ := X1.leave (v := some (.int pv)) (fun h => by rw [Bd.returns] at h; cases h)
  refine ⟨_, _, pre0 _ ?_, hrun, hended, _, _, rfl, ?_, ⟨_, rfl⟩, hW, hsame.mono (by decide) (by decide)⟩
  · show Steps p.tables e below (s₁.setTop (mkF m 0 #[.val (.ref ak)] [])) _
    refine XS.aloadN X0.here hx rfl (hb hby d8_0) rfl rfl ?_
    show Steps p.tables e below (s₁.setTop (mkF m 1 #[.val (.ref ak)] [(.ref ak)])) _
    refine st1 _ ?_
    show Steps p.tables e below (T1.setTop (mkF m 4 #[.val (.ref ak)] [(.int pv)])) _
    exact retI X1 hx Bd.returns (hb hby d8_4) hr
  · show QP (.int pv) h0 n0 _ T1.heap _
    rw [e1]
    exact ⟨rfl, N0, rfl⟩
theorem d10_0 : decode jdk_29_method_25_code 0 = .ok (.lload_n 0, 1) := by decide +kernel
theorem d10_1 : decode jdk_29_method_25_code 1 = .ok (.lload_n 2, 1) := by decide +kernel
theorem d10_2 : decode jdk_29_method_25_code 2 = .ok (.ladd, 1) := by decide +kernel
theorem d10_3 : decode jdk_29_method_25_code 3 = .ok (.lstore 4, 2) := by decide +kernel
theorem d10_5 : decode jdk_29_method_25_code 5 = .ok (.lload_n 0, 1) := by decide +kernel
theorem d10_6 : decode jdk_29_method_25_code 6 = .ok (.lload 4, 2) := by decide +kernel
theorem d10_8 : decode jdk_29_method_25_code 8 = .ok (.lxor, 1) := by decide +kernel
theorem d10_9 : decode jdk_29_method_25_code 9 = .ok (.lload_n 2, 1) := by decide +kernel
theorem d10_10 : decode jdk_29_method_25_code 10 = .ok (.lload 4, 2) := by decide +kernel
theorem d10_12 : decode jdk_29_method_25_code 12 = .ok (.lxor, 1) := by decide +kernel
theorem d10_13 : decode jdk_29_method_25_code 13 = .ok (.land, 1) := by decide +kernel
theorem d10_14 : decode jdk_29_method_25_code 14 = .ok (.lconst 0, 1) := by decide +kernel
theorem d10_15 : decode jdk_29_method_25_code 15 = .ok (.lcmp, 1) := by decide +kernel
theorem d10_16 : decode jdk_29_method_25_code 16 = .ok (.ifCond .ge 13, 3) := by decide +kernel
theorem d10_29 : decode jdk_29_method_25_code 29 = .ok (.lload 4, 2) := by decide +kernel
theorem d10_31 : decode jdk_29_method_25_code 31 = .ok (.lreturn, 1) := by decide +kernel
theorem ef_rm10 (m : MethodId) (qx : Int64) (qy : Int64) : entryFrame m #[(.long qx), (.long qy)] 6 = mkF m 0 #[.val (.long qx), .second, .val (.long qy), .second, .unset, .unset] [] := by first | (simp [entryFrame, mkF, argsToLocals, Value.category]; done) | rfl
set_option maxRecDepth 65536 in
set_option maxHeartbeats 40000000 in
theorem rm10 (l : Launch) (Z : State) (a0 : Array Value) (hw : ∀ d ∈ tables_1, d.before a0 Z = true) (ws : List Jvm.Cond) (qx : Int64) (qy : Int64) (h0 : Heap) (n0 : Nat) (Z0 : n0 ≤ h0.size) (hno : own_fit qx qy) (r : Int64) (hr0 : r = (qx + qy)) :
    MetFree l (⟨"java/lang/Math", "addExact", "(JJ)J"⟩ : MethodName) (head1 (Jvm.Cond.code (⟨"java/lang/Math", "addExact", "(JJ)J"⟩ : MethodName) jdk_29_method_25_code 6 (some .long) :: ws) ({ frames := 0, cells := 0, slots := 0, locals := 0 } : Room)) (fun a U => a = #[(.long qx), (.long qy)] ∧ Z.Warmed39 U.vm ∧ U.heap = h0) (fun _ _ _ _ _ => True) (fun _ U o U' => ∃ v L, o = .returned v ∧ QP (.long r) h0 n0 v U'.heap L ∧ FrameEnd U o U' L ({ frames := 0, cells := 0, slots := 0, locals := 0 } : Room).cells ({ frames := 0, cells := 0, slots := 0, locals := 0 } : Room).slots) := by
  rw [hr0]
  refine MetFree.of_bodySF (Jvm.Free.JP.mathPlain rfl (by decide +kernel)) hisR ?_
  intro p e s m args below meth c s₁ Bd hml0 hP hK
  obtain ⟨rfl, hZ, hh⟩ := hP
  have hx := Bd.exec
  have hby := Bd.bytes
  have hml : c.maxLocals = 6 := hml0
  have hown : s.vm.findClass "java/lang/Math" = some m.cls := findClass_of_methodNamed Bd.named
  have hnm := (name_of_methodNamed Bd.named Bd.method).1
  have X0 : Stand p l e ({ frames := 0, cells := 0, slots := 0, locals := 0 } : Room) s m #[(.long qx), (.long qy)] below meth c s₁ [] 0 0 := Stand.of_body Bd
  have e0 : s₁.heap = h0 := by rw [← hh, Bd.state]; rfl
  have N0 := Fr.nil n0
  have pre0 : ∀ t, Steps p.tables e below (s₁.setTop (mkF m 0 #[.val (.long qx), .second, .val (.long qy), .second, .unset, .unset] [])) t → Steps p.tables e below (s₁.setTop (entryFrame m #[(.long qx), (.long qy)] 6)) t := fun t k => castTop (ef_rm10 m qx qy) k
  obtain ⟨fs, hr, hrun, hended, hW, hsame⟩ := X0.leave (v := some (.long (qx + qy))) (fun h => by rw [Bd.returns] at h; cases h)
  refine ⟨_, _, pre0 _ ?_, hrun, hended, _, _, rfl, ?_, ⟨_, rfl⟩, hW, hsame.mono (by decide) (by decide)⟩
  · show Steps p.tables e below (s₁.setTop (mkF m 0 #[.val (.long qx), .second, .val (.long qy), .second, .unset, .unset] [])) _
    refine XS.lloadN X0.here hx rfl (hb hby d10_0) rfl ?_
    show Steps p.tables e below (s₁.setTop (mkF m 1 #[.val (.long qx), .second, .val (.long qy), .second, .unset, .unset] [(.long qx)])) _
    refine XS.lloadN X0.here hx rfl (hb hby d10_1) rfl ?_
    show Steps p.tables e below (s₁.setTop (mkF m 2 #[.val (.long qx), .second, .val (.long qy), .second, .unset, .unset] [(.long qy), (.long qx)])) _
    refine XS.ladd X0.here hx rfl (hb hby d10_2) rfl ?_
    show Steps p.tables e below (s₁.setTop (mkF m 3 #[.val (.long qx), .second, .val (.long qy), .second, .unset, .unset] [(.long (qx + qy))])) _
    refine XS.lstore X0.here hx rfl (hb hby d10_3) rfl (l' := #[.val (.long qx), .second, .val (.long qy), .second, .val (.long (qx + qy)), .second]) rfl ?_
    show Steps p.tables e below (s₁.setTop (mkF m 5 #[.val (.long qx), .second, .val (.long qy), .second, .val (.long (qx + qy)), .second] [])) _
    refine XS.lloadN X0.here hx rfl (hb hby d10_5) rfl ?_
    show Steps p.tables e below (s₁.setTop (mkF m 6 #[.val (.long qx), .second, .val (.long qy), .second, .val (.long (qx + qy)), .second] [(.long qx)])) _
    refine XS.lload X0.here hx rfl (hb hby d10_6) rfl ?_
    show Steps p.tables e below (s₁.setTop (mkF m 8 #[.val (.long qx), .second, .val (.long qy), .second, .val (.long (qx + qy)), .second] [(.long (qx + qy)), (.long qx)])) _
    refine XS.lxor X0.here hx rfl (hb hby d10_8) rfl ?_
    show Steps p.tables e below (s₁.setTop (mkF m 9 #[.val (.long qx), .second, .val (.long qy), .second, .val (.long (qx + qy)), .second] [(.long (qx ^^^ (qx + qy)))])) _
    refine XS.lloadN X0.here hx rfl (hb hby d10_9) rfl ?_
    show Steps p.tables e below (s₁.setTop (mkF m 10 #[.val (.long qx), .second, .val (.long qy), .second, .val (.long (qx + qy)), .second] [(.long qy), (.long (qx ^^^ (qx + qy)))])) _
    refine XS.lload X0.here hx rfl (hb hby d10_10) rfl ?_
    show Steps p.tables e below (s₁.setTop (mkF m 12 #[.val (.long qx), .second, .val (.long qy), .second, .val (.long (qx + qy)), .second] [(.long (qx + qy)), (.long qy), (.long (qx ^^^ (qx + qy)))])) _
    refine XS.lxor X0.here hx rfl (hb hby d10_12) rfl ?_
    show Steps p.tables e below (s₁.setTop (mkF m 13 #[.val (.long qx), .second, .val (.long qy), .second, .val (.long (qx + qy)), .second] [(.long (qy ^^^ (qx + qy))), (.long (qx ^^^ (qx + qy)))])) _
    refine XS.land X0.here hx rfl (hb hby d10_13) rfl ?_
    show Steps p.tables e below (s₁.setTop (mkF m 14 #[.val (.long qx), .second, .val (.long qy), .second, .val (.long (qx + qy)), .second] [(.long ((qx ^^^ (qx + qy)) &&& (qy ^^^ (qx + qy))))])) _
    refine XS.lconst X0.here hx rfl (hb hby d10_14) ?_
    show Steps p.tables e below (s₁.setTop (mkF m 15 #[.val (.long qx), .second, .val (.long qy), .second, .val (.long (qx + qy)), .second] [(.long (0 : Int64)), (.long ((qx ^^^ (qx + qy)) &&& (qy ^^^ (qx + qy))))])) _
    refine XS.lcmp X0.here hx rfl (hb hby d10_15) rfl ?_
    show Steps p.tables e below (s₁.setTop (mkF m 16 #[.val (.long qx), .second, .val (.long qy), .second, .val (.long (qx + qy)), .second] [(.int (lcmpW ((qx ^^^ (qx + qy)) &&& (qy ^^^ (qx + qy))) (0 : Int64)))])) _
    refine XS.ifYes X0.here hx rfl (pc0 := 16) (pc' := 29) rfl (hb hby d10_16) rfl ((if0 _ _).trans (flt (fun q => (hno) ((lw_lt ((qx ^^^ (qx + qy)) &&& (qy ^^^ (qx + qy))) (0 : Int64)).mp q))).2.1) (by decide) (by decide) ?_
    show Steps p.tables e below (s₁.setTop (mkF m 29 #[.val (.long qx), .second, .val (.long qy), .second, .val (.long (qx + qy)), .second] [])) _
    refine XS.lload X0.here hx rfl (hb hby d10_29) rfl ?_
    show Steps p.tables e below (s₁.setTop (mkF m 31 #[.val (.long qx), .second, .val (.long qy), .second, .val (.long (qx + qy)), .second] [(.long (qx + qy))])) _
    exact retOut X0 hx Bd.returns rfl (Or.inr (Or.inl ⟨rfl, rfl, _, rfl⟩)) (hb hby d10_31) hr
  · show QP (.long (qx + qy)) h0 n0 _ s₁.heap _
    rw [e0]
    exact ⟨rfl, N0, rfl⟩
theorem d12_0 : decode jdk_29_method_49_code 0 = .ok (.lload_n 0, 1) := by decide +kernel
theorem d12_1 : decode jdk_29_method_49_code 1 = .ok (.lload_n 2, 1) := by decide +kernel
theorem d12_2 : decode jdk_29_method_49_code 2 = .ok (.ldiv, 1) := by decide +kernel
theorem d12_3 : decode jdk_29_method_49_code 3 = .ok (.lstore 4, 2) := by decide +kernel
theorem d12_5 : decode jdk_29_method_49_code 5 = .ok (.lload_n 0, 1) := by decide +kernel
theorem d12_6 : decode jdk_29_method_49_code 6 = .ok (.lload_n 2, 1) := by decide +kernel
theorem d12_7 : decode jdk_29_method_49_code 7 = .ok (.lxor, 1) := by decide +kernel
theorem d12_8 : decode jdk_29_method_49_code 8 = .ok (.lconst 0, 1) := by decide +kernel
theorem d12_9 : decode jdk_29_method_49_code 9 = .ok (.lcmp, 1) := by decide +kernel
theorem d12_10 : decode jdk_29_method_49_code 10 = .ok (.ifCond .ge 17, 3) := by decide +kernel
theorem d12_27 : decode jdk_29_method_49_code 27 = .ok (.lload 4, 2) := by decide +kernel
theorem d12_29 : decode jdk_29_method_49_code 29 = .ok (.lreturn, 1) := by decide +kernel
theorem d12_13 : decode jdk_29_method_49_code 13 = .ok (.lload 4, 2) := by decide +kernel
theorem d12_15 : decode jdk_29_method_49_code 15 = .ok (.lload_n 2, 1) := by decide +kernel
theorem d12_16 : decode jdk_29_method_49_code 16 = .ok (.lmul, 1) := by decide +kernel
theorem d12_17 : decode jdk_29_method_49_code 17 = .ok (.lload_n 0, 1) := by decide +kernel
theorem d12_18 : decode jdk_29_method_49_code 18 = .ok (.lcmp, 1) := by decide +kernel
theorem d12_19 : decode jdk_29_method_49_code 19 = .ok (.ifCond .eq 8, 3) := by decide +kernel
theorem d12_22 : decode jdk_29_method_49_code 22 = .ok (.lload 4, 2) := by decide +kernel
theorem d12_24 : decode jdk_29_method_49_code 24 = .ok (.lconst 1, 1) := by decide +kernel
theorem d12_25 : decode jdk_29_method_49_code 25 = .ok (.lsub, 1) := by decide +kernel
theorem d12_26 : decode jdk_29_method_49_code 26 = .ok (.lreturn, 1) := by decide +kernel
theorem ef_rm12 (m : MethodId) (qx : Int64) (qy : Int64) : entryFrame m #[(.long qx), (.long qy)] 6 = mkF m 0 #[.val (.long qx), .second, .val (.long qy), .second, .unset, .unset] [] := by first | (simp [entryFrame, mkF, argsToLocals, Value.category]; done) | rfl
set_option maxRecDepth 65536 in
set_option maxHeartbeats 40000000 in
theorem rm12_t (l : Launch) (Z : State) (a0 : Array Value) (hw : ∀ d ∈ tables_1, d.before a0 Z = true) (ws : List Jvm.Cond) (qx : Int64) (qy : Int64) (h0 : Heap) (n0 : Nat) (Z0 : n0 ≤ h0.size) (hy : qy ≠ (0 : Int64)) (r : Int64) (hr0 : r = (qx / qy)) (hc10 : ¬ ((qx ^^^ qy) < (0 : Int64))) :
    MetFree l (⟨"java/lang/Math", "floorDiv", "(JJ)J"⟩ : MethodName) (head1 (Jvm.Cond.code (⟨"java/lang/Math", "floorDiv", "(JJ)J"⟩ : MethodName) jdk_29_method_49_code 6 (some .long) :: ws) ({ frames := 0, cells := 0, slots := 0, locals := 0 } : Room)) (fun a U => a = #[(.long qx), (.long qy)] ∧ Z.Warmed39 U.vm ∧ U.heap = h0) (fun _ _ _ _ _ => True) (fun _ U o U' => ∃ v L, o = .returned v ∧ QP (.long r) h0 n0 v U'.heap L ∧ FrameEnd U o U' L ({ frames := 0, cells := 0, slots := 0, locals := 0 } : Room).cells ({ frames := 0, cells := 0, slots := 0, locals := 0 } : Room).slots) := by
  rw [hr0]
  refine MetFree.of_bodySF (Jvm.Free.JP.mathPlain rfl (by decide +kernel)) hisR ?_
  intro p e s m args below meth c s₁ Bd hml0 hP hK
  obtain ⟨rfl, hZ, hh⟩ := hP
  have hx := Bd.exec
  have hby := Bd.bytes
  have hml : c.maxLocals = 6 := hml0
  have hown : s.vm.findClass "java/lang/Math" = some m.cls := findClass_of_methodNamed Bd.named
  have hnm := (name_of_methodNamed Bd.named Bd.method).1
  have X0 : Stand p l e ({ frames := 0, cells := 0, slots := 0, locals := 0 } : Room) s m #[(.long qx), (.long qy)] below meth c s₁ [] 0 0 := Stand.of_body Bd
  have e0 : s₁.heap = h0 := by rw [← hh, Bd.state]; rfl
  have N0 := Fr.nil n0
  have pre0 : ∀ t, Steps p.tables e below (s₁.setTop (mkF m 0 #[.val (.long qx), .second, .val (.long qy), .second, .unset, .unset] [])) t → Steps p.tables e below (s₁.setTop (entryFrame m #[(.long qx), (.long qy)] 6)) t := fun t k => castTop (ef_rm12 m qx qy) k
  obtain ⟨fs, hr, hrun, hended, hW, hsame⟩ := X0.leave (v := some (.long (qx / qy))) (fun h => by rw [Bd.returns] at h; cases h)
  refine ⟨_, _, pre0 _ ?_, hrun, hended, _, _, rfl, ?_, ⟨_, rfl⟩, hW, hsame.mono (by decide) (by decide)⟩
  · show Steps p.tables e below (s₁.setTop (mkF m 0 #[.val (.long qx), .second, .val (.long qy), .second, .unset, .unset] [])) _
    refine XS.lloadN X0.here hx rfl (hb hby d12_0) rfl ?_
    show Steps p.tables e below (s₁.setTop (mkF m 1 #[.val (.long qx), .second, .val (.long qy), .second, .unset, .unset] [(.long qx)])) _
    refine XS.lloadN X0.here hx rfl (hb hby d12_1) rfl ?_
    show Steps p.tables e below (s₁.setTop (mkF m 2 #[.val (.long qx), .second, .val (.long qy), .second, .unset, .unset] [(.long qy), (.long qx)])) _
    refine XS.ldiv X0.here hx rfl (hb hby d12_2) rfl hy ?_
    show Steps p.tables e below (s₁.setTop (mkF m 3 #[.val (.long qx), .second, .val (.long qy), .second, .unset, .unset] [(.long (qx / qy))])) _
    refine XS.lstore X0.here hx rfl (hb hby d12_3) rfl (l' := #[.val (.long qx), .second, .val (.long qy), .second, .val (.long (qx / qy)), .second]) rfl ?_
    show Steps p.tables e below (s₁.setTop (mkF m 5 #[.val (.long qx), .second, .val (.long qy), .second, .val (.long (qx / qy)), .second] [])) _
    refine XS.lloadN X0.here hx rfl (hb hby d12_5) rfl ?_
    show Steps p.tables e below (s₁.setTop (mkF m 6 #[.val (.long qx), .second, .val (.long qy), .second, .val (.long (qx / qy)), .second] [(.long qx)])) _
    refine XS.lloadN X0.here hx rfl (hb hby d12_6) rfl ?_
    show Steps p.tables e below (s₁.setTop (mkF m 7 #[.val (.long qx), .second, .val (.long qy), .second, .val (.long (qx / qy)), .second] [(.long qy), (.long qx)])) _
    refine XS.lxor X0.here hx rfl (hb hby d12_7) rfl ?_
    show Steps p.tables e below (s₁.setTop (mkF m 8 #[.val (.long qx), .second, .val (.long qy), .second, .val (.long (qx / qy)), .second] [(.long (qx ^^^ qy))])) _
    refine XS.lconst X0.here hx rfl (hb hby d12_8) ?_
    show Steps p.tables e below (s₁.setTop (mkF m 9 #[.val (.long qx), .second, .val (.long qy), .second, .val (.long (qx / qy)), .second] [(.long (0 : Int64)), (.long (qx ^^^ qy))])) _
    refine XS.lcmp X0.here hx rfl (hb hby d12_9) rfl ?_
    show Steps p.tables e below (s₁.setTop (mkF m 10 #[.val (.long qx), .second, .val (.long qy), .second, .val (.long (qx / qy)), .second] [(.int (lcmpW (qx ^^^ qy) (0 : Int64)))])) _
    refine XS.ifYes X0.here hx rfl (pc0 := 10) (pc' := 27) rfl (hb hby d12_10) rfl ((if0 _ _).trans (flt (fun q => hc10 ((lw_lt (qx ^^^ qy) (0 : Int64)).mp q))).2.1) (by decide) (by decide) ?_
    show Steps p.tables e below (s₁.setTop (mkF m 27 #[.val (.long qx), .second, .val (.long qy), .second, .val (.long (qx / qy)), .second] [])) _
    refine XS.lload X0.here hx rfl (hb hby d12_27) rfl ?_
    show Steps p.tables e below (s₁.setTop (mkF m 29 #[.val (.long qx), .second, .val (.long qy), .second, .val (.long (qx / qy)), .second] [(.long (qx / qy))])) _
    exact retOut X0 hx Bd.returns rfl (Or.inr (Or.inl ⟨rfl, rfl, _, rfl⟩)) (hb hby d12_29) hr
  · show QP (.long (qx / qy)) h0 n0 _ s₁.heap _
    rw [e0]
    exact ⟨rfl, N0, rfl⟩
set_option maxRecDepth 65536 in
set_option maxHeartbeats 40000000 in
theorem rm12_ft (l : Launch) (Z : State) (a0 : Array Value) (hw : ∀ d ∈ tables_1, d.before a0 Z = true) (ws : List Jvm.Cond) (qx : Int64) (qy : Int64) (h0 : Heap) (n0 : Nat) (Z0 : n0 ≤ h0.size) (hy : qy ≠ (0 : Int64)) (r : Int64) (hr0 : r = (qx / qy)) (hc10 : (qx ^^^ qy) < (0 : Int64)) (hc19 : ((qx / qy) * qy) = qx) :
    MetFree l (⟨"java/lang/Math", "floorDiv", "(JJ)J"⟩ : MethodName) (head1 (Jvm.Cond.code (⟨"java/lang/Math", "floorDiv", "(JJ)J"⟩ : MethodName) jdk_29_method_49_code 6 (some .long) :: ws) ({ frames := 0, cells := 0, slots := 0, locals := 0 } : Room)) (fun a U => a = #[(.long qx), (.long qy)] ∧ Z.Warmed39 U.vm ∧ U.heap = h0) (fun _ _ _ _ _ => True) (fun _ U o U' => ∃ v L, o = .returned v ∧ QP (.long r) h0 n0 v U'.heap L ∧ FrameEnd U o U' L ({ frames := 0, cells := 0, slots := 0, locals := 0 } : Room).cells ({ frames := 0, cells := 0, slots := 0, locals := 0 } : Room).slots) := by
  rw [hr0]
  refine MetFree.of_bodySF (Jvm.Free.JP.mathPlain rfl (by decide +kernel)) hisR ?_
  intro p e s m args below meth c s₁ Bd hml0 hP hK
  obtain ⟨rfl, hZ, hh⟩ := hP
  have hx := Bd.exec
  have hby := Bd.bytes
  have hml : c.maxLocals = 6 := hml0
  have hown : s.vm.findClass "java/lang/Math" = some m.cls := findClass_of_methodNamed Bd.named
  have hnm := (name_of_methodNamed Bd.named Bd.method).1
  have X0 : Stand p l e ({ frames := 0, cells := 0, slots := 0, locals := 0 } : Room) s m #[(.long qx), (.long qy)] below meth c s₁ [] 0 0 := Stand.of_body Bd
  have e0 : s₁.heap = h0 := by rw [← hh, Bd.state]; rfl
  have N0 := Fr.nil n0
  have pre0 : ∀ t, Steps p.tables e below (s₁.setTop (mkF m 0 #[.val (.long qx), .second, .val (.long qy), .second, .unset, .unset] [])) t → Steps p.tables e below (s₁.setTop (entryFrame m #[(.long qx), (.long qy)] 6)) t := fun t k => castTop (ef_rm12 m qx qy) k
  obtain ⟨fs, hr, hrun, hended, hW, hsame⟩ := X0.leave (v := some (.long (qx / qy))) (fun h => by rw [Bd.returns] at h; cases h)
  refine ⟨_, _, pre0 _ ?_, hrun, hended, _, _, rfl, ?_, ⟨_, rfl⟩, hW, hsame.mono (by decide) (by decide)⟩
  · show Steps p.tables e below (s₁.setTop (mkF m 0 #[.val (.long qx), .second, .val (.long qy), .second, .unset, .unset] [])) _
    refine XS.lloadN X0.here hx rfl (hb hby d12_0) rfl ?_
    show Steps p.tables e below (s₁.setTop (mkF m 1 #[.val (.long qx), .second, .val (.long qy), .second, .unset, .unset] [(.long qx)])) _
    refine XS.lloadN X0.here hx rfl (hb hby d12_1) rfl ?_
    show Steps p.tables e below (s₁.setTop (mkF m 2 #[.val (.long qx), .second, .val (.long qy), .second, .unset, .unset] [(.long qy), (.long qx)])) _
    refine XS.ldiv X0.here hx rfl (hb hby d12_2) rfl hy ?_
    show Steps p.tables e below (s₁.setTop (mkF m 3 #[.val (.long qx), .second, .val (.long qy), .second, .unset, .unset] [(.long (qx / qy))])) _
    refine XS.lstore X0.here hx rfl (hb hby d12_3) rfl (l' := #[.val (.long qx), .second, .val (.long qy), .second, .val (.long (qx / qy)), .second]) rfl ?_
    show Steps p.tables e below (s₁.setTop (mkF m 5 #[.val (.long qx), .second, .val (.long qy), .second, .val (.long (qx / qy)), .second] [])) _
    refine XS.lloadN X0.here hx rfl (hb hby d12_5) rfl ?_
    show Steps p.tables e below (s₁.setTop (mkF m 6 #[.val (.long qx), .second, .val (.long qy), .second, .val (.long (qx / qy)), .second] [(.long qx)])) _
    refine XS.lloadN X0.here hx rfl (hb hby d12_6) rfl ?_
    show Steps p.tables e below (s₁.setTop (mkF m 7 #[.val (.long qx), .second, .val (.long qy), .second, .val (.long (qx / qy)), .second] [(.long qy), (.long qx)])) _
    refine XS.lxor X0.here hx rfl (hb hby d12_7) rfl ?_
    show Steps p.tables e below (s₁.setTop (mkF m 8 #[.val (.long qx), .second, .val (.long qy), .second, .val (.long (qx / qy)), .second] [(.long (qx ^^^ qy))])) _
    refine XS.lconst X0.here hx rfl (hb hby d12_8) ?_
    show Steps p.tables e below (s₁.setTop (mkF m 9 #[.val (.long qx), .second, .val (.long qy), .second, .val (.long (qx / qy)), .second] [(.long (0 : Int64)), (.long (qx ^^^ qy))])) _
    refine XS.lcmp X0.here hx rfl (hb hby d12_9) rfl ?_
    show Steps p.tables e below (s₁.setTop (mkF m 10 #[.val (.long qx), .second, .val (.long qy), .second, .val (.long (qx / qy)), .second] [(.int (lcmpW (qx ^^^ qy) (0 : Int64)))])) _
    refine XS.ifNo X0.here hx rfl (hb hby d12_10) rfl ((if0 _ _).trans (tlt ((lw_lt (qx ^^^ qy) (0 : Int64)).mpr hc10)).2.1) ?_
    show Steps p.tables e below (s₁.setTop (mkF m 13 #[.val (.long qx), .second, .val (.long qy), .second, .val (.long (qx / qy)), .second] [])) _
    refine XS.lload X0.here hx rfl (hb hby d12_13) rfl ?_
    show Steps p.tables e below (s₁.setTop (mkF m 15 #[.val (.long qx), .second, .val (.long qy), .second, .val (.long (qx / qy)), .second] [(.long (qx / qy))])) _
    refine XS.lloadN X0.here hx rfl (hb hby d12_15) rfl ?_
    show Steps p.tables e below (s₁.setTop (mkF m 16 #[.val (.long qx), .second, .val (.long qy), .second, .val (.long (qx / qy)), .second] [(.long qy), (.long (qx / qy))])) _
    refine XS.lmul X0.here hx rfl (hb hby d12_16) rfl ?_
    show Steps p.tables e below (s₁.setTop (mkF m 17 #[.val (.long qx), .second, .val (.long qy), .second, .val (.long (qx / qy)), .second] [(.long ((qx / qy) * qy))])) _
    refine XS.lloadN X0.here hx rfl (hb hby d12_17) rfl ?_
    show Steps p.tables e below (s₁.setTop (mkF m 18 #[.val (.long qx), .second, .val (.long qy), .second, .val (.long (qx / qy)), .second] [(.long qx), (.long ((qx / qy) * qy))])) _
    refine XS.lcmp X0.here hx rfl (hb hby d12_18) rfl ?_
    show Steps p.tables e below (s₁.setTop (mkF m 19 #[.val (.long qx), .second, .val (.long qy), .second, .val (.long (qx / qy)), .second] [(.int (lcmpW ((qx / qy) * qy) qx))])) _
    refine XS.ifYes X0.here hx rfl (pc0 := 19) (pc' := 27) rfl (hb hby d12_19) rfl ((if0 _ _).trans (teq ((lw_eq ((qx / qy) * qy) qx).mpr hc19)).1) (by decide) (by decide) ?_
    show Steps p.tables e below (s₁.setTop (mkF m 27 #[.val (.long qx), .second, .val (.long qy), .second, .val (.long (qx / qy)), .second] [])) _
    refine XS.lload X0.here hx rfl (hb hby d12_27) rfl ?_
    show Steps p.tables e below (s₁.setTop (mkF m 29 #[.val (.long qx), .second, .val (.long qy), .second, .val (.long (qx / qy)), .second] [(.long (qx / qy))])) _
    exact retOut X0 hx Bd.returns rfl (Or.inr (Or.inl ⟨rfl, rfl, _, rfl⟩)) (hb hby d12_29) hr
  · show QP (.long (qx / qy)) h0 n0 _ s₁.heap _
    rw [e0]
    exact ⟨rfl, N0, rfl⟩
set_option maxRecDepth 65536 in
set_option maxHeartbeats 40000000 in
theorem rm12_ff (l : Launch) (Z : State) (a0 : Array Value) (hw : ∀ d ∈ tables_1, d.before a0 Z = true) (ws : List Jvm.Cond) (qx : Int64) (qy : Int64) (h0 : Heap) (n0 : Nat) (Z0 : n0 ≤ h0.size) (hy : qy ≠ (0 : Int64)) (r : Int64) (hr0 : r = ((qx / qy) - (1 : Int64))) (hc10 : (qx ^^^ qy) < (0 : Int64)) (hc19 : ¬ (((qx / qy) * qy) = qx)) :
    MetFree l (⟨"java/lang/Math", "floorDiv", "(JJ)J"⟩ : MethodName) (head1 (Jvm.Cond.code (⟨"java/lang/Math", "floorDiv", "(JJ)J"⟩ : MethodName) jdk_29_method_49_code 6 (some .long) :: ws) ({ frames := 0, cells := 0, slots := 0, locals := 0 } : Room)) (fun a U => a = #[(.long qx), (.long qy)] ∧ Z.Warmed39 U.vm ∧ U.heap = h0) (fun _ _ _ _ _ => True) (fun _ U o U' => ∃ v L, o = .returned v ∧ QP (.long r) h0 n0 v U'.heap L ∧ FrameEnd U o U' L ({ frames := 0, cells := 0, slots := 0, locals := 0 } : Room).cells ({ frames := 0, cells := 0, slots := 0, locals := 0 } : Room).slots) := by
  rw [hr0]
  refine MetFree.of_bodySF (Jvm.Free.JP.mathPlain rfl (by decide +kernel)) hisR ?_
  intro p e s m args below meth c s₁ Bd hml0 hP hK
  obtain ⟨rfl, hZ, hh⟩ := hP
  have hx := Bd.exec
  have hby := Bd.bytes
  have hml : c.maxLocals = 6 := hml0
  have hown : s.vm.findClass "java/lang/Math" = some m.cls := findClass_of_methodNamed Bd.named
  have hnm := (name_of_methodNamed Bd.named Bd.method).1
  have X0 : Stand p l e ({ frames := 0, cells := 0, slots := 0, locals := 0 } : Room) s m #[(.long qx), (.long qy)] below meth c s₁ [] 0 0 := Stand.of_body Bd
  have e0 : s₁.heap = h0 := by rw [← hh, Bd.state]; rfl
  have N0 := Fr.nil n0
  have pre0 : ∀ t, Steps p.tables e below (s₁.setTop (mkF m 0 #[.val (.long qx), .second, .val (.long qy), .second, .unset, .unset] [])) t → Steps p.tables e below (s₁.setTop (entryFrame m #[(.long qx), (.long qy)] 6)) t := fun t k => castTop (ef_rm12 m qx qy) k
  obtain ⟨fs, hr, hrun, hended, hW, hsame⟩ := X0.leave (v := some (.long ((qx / qy) - (1 : Int64)))) (fun h => by rw [Bd.returns] at h; cases h)
  refine ⟨_, _, pre0 _ ?_, hrun, hended, _, _, rfl, ?_, ⟨_, rfl⟩, hW, hsame.mono (by decide) (by decide)⟩
  · show Steps p.tables e below (s₁.setTop (mkF m 0 #[.val (.long qx), .second, .val (.long qy), .second, .unset, .unset] [])) _
    refine XS.lloadN X0.here hx rfl (hb hby d12_0) rfl ?_
    show Steps p.tables e below (s₁.setTop (mkF m 1 #[.val (.long qx), .second, .val (.long qy), .second, .unset, .unset] [(.long qx)])) _
    refine XS.lloadN X0.here hx rfl (hb hby d12_1) rfl ?_
    show Steps p.tables e below (s₁.setTop (mkF m 2 #[.val (.long qx), .second, .val (.long qy), .second, .unset, .unset] [(.long qy), (.long qx)])) _
    refine XS.ldiv X0.here hx rfl (hb hby d12_2) rfl hy ?_
    show Steps p.tables e below (s₁.setTop (mkF m 3 #[.val (.long qx), .second, .val (.long qy), .second, .unset, .unset] [(.long (qx / qy))])) _
    refine XS.lstore X0.here hx rfl (hb hby d12_3) rfl (l' := #[.val (.long qx), .second, .val (.long qy), .second, .val (.long (qx / qy)), .second]) rfl ?_
    show Steps p.tables e below (s₁.setTop (mkF m 5 #[.val (.long qx), .second, .val (.long qy), .second, .val (.long (qx / qy)), .second] [])) _
    refine XS.lloadN X0.here hx rfl (hb hby d12_5) rfl ?_
    show Steps p.tables e below (s₁.setTop (mkF m 6 #[.val (.long qx), .second, .val (.long qy), .second, .val (.long (qx / qy)), .second] [(.long qx)])) _
    refine XS.lloadN X0.here hx rfl (hb hby d12_6) rfl ?_
    show Steps p.tables e below (s₁.setTop (mkF m 7 #[.val (.long qx), .second, .val (.long qy), .second, .val (.long (qx / qy)), .second] [(.long qy), (.long qx)])) _
    refine XS.lxor X0.here hx rfl (hb hby d12_7) rfl ?_
    show Steps p.tables e below (s₁.setTop (mkF m 8 #[.val (.long qx), .second, .val (.long qy), .second, .val (.long (qx / qy)), .second] [(.long (qx ^^^ qy))])) _
    refine XS.lconst X0.here hx rfl (hb hby d12_8) ?_
    show Steps p.tables e below (s₁.setTop (mkF m 9 #[.val (.long qx), .second, .val (.long qy), .second, .val (.long (qx / qy)), .second] [(.long (0 : Int64)), (.long (qx ^^^ qy))])) _
    refine XS.lcmp X0.here hx rfl (hb hby d12_9) rfl ?_
    show Steps p.tables e below (s₁.setTop (mkF m 10 #[.val (.long qx), .second, .val (.long qy), .second, .val (.long (qx / qy)), .second] [(.int (lcmpW (qx ^^^ qy) (0 : Int64)))])) _
    refine XS.ifNo X0.here hx rfl (hb hby d12_10) rfl ((if0 _ _).trans (tlt ((lw_lt (qx ^^^ qy) (0 : Int64)).mpr hc10)).2.1) ?_
    show Steps p.tables e below (s₁.setTop (mkF m 13 #[.val (.long qx), .second, .val (.long qy), .second, .val (.long (qx / qy)), .second] [])) _
    refine XS.lload X0.here hx rfl (hb hby d12_13) rfl ?_
    show Steps p.tables e below (s₁.setTop (mkF m 15 #[.val (.long qx), .second, .val (.long qy), .second, .val (.long (qx / qy)), .second] [(.long (qx / qy))])) _
    refine XS.lloadN X0.here hx rfl (hb hby d12_15) rfl ?_
    show Steps p.tables e below (s₁.setTop (mkF m 16 #[.val (.long qx), .second, .val (.long qy), .second, .val (.long (qx / qy)), .second] [(.long qy), (.long (qx / qy))])) _
    refine XS.lmul X0.here hx rfl (hb hby d12_16) rfl ?_
    show Steps p.tables e below (s₁.setTop (mkF m 17 #[.val (.long qx), .second, .val (.long qy), .second, .val (.long (qx / qy)), .second] [(.long ((qx / qy) * qy))])) _
    refine XS.lloadN X0.here hx rfl (hb hby d12_17) rfl ?_
    show Steps p.tables e below (s₁.setTop (mkF m 18 #[.val (.long qx), .second, .val (.long qy), .second, .val (.long (qx / qy)), .second] [(.long qx), (.long ((qx / qy) * qy))])) _
    refine XS.lcmp X0.here hx rfl (hb hby d12_18) rfl ?_
    show Steps p.tables e below (s₁.setTop (mkF m 19 #[.val (.long qx), .second, .val (.long qy), .second, .val (.long (qx / qy)), .second] [(.int (lcmpW ((qx / qy) * qy) qx))])) _
    refine XS.ifNo X0.here hx rfl (hb hby d12_19) rfl ((if0 _ _).trans (feq (fun q => hc19 ((lw_eq ((qx / qy) * qy) qx).mp q))).1) ?_
    show Steps p.tables e below (s₁.setTop (mkF m 22 #[.val (.long qx), .second, .val (.long qy), .second, .val (.long (qx / qy)), .second] [])) _
    refine XS.lload X0.here hx rfl (hb hby d12_22) rfl ?_
    show Steps p.tables e below (s₁.setTop (mkF m 24 #[.val (.long qx), .second, .val (.long qy), .second, .val (.long (qx / qy)), .second] [(.long (qx / qy))])) _
    refine XS.lconst X0.here hx rfl (hb hby d12_24) ?_
    show Steps p.tables e below (s₁.setTop (mkF m 25 #[.val (.long qx), .second, .val (.long qy), .second, .val (.long (qx / qy)), .second] [(.long (1 : Int64)), (.long (qx / qy))])) _
    refine XS.lsub X0.here hx rfl (hb hby d12_25) rfl ?_
    show Steps p.tables e below (s₁.setTop (mkF m 26 #[.val (.long qx), .second, .val (.long qy), .second, .val (.long (qx / qy)), .second] [(.long ((qx / qy) - (1 : Int64)))])) _
    exact retOut X0 hx Bd.returns rfl (Or.inr (Or.inl ⟨rfl, rfl, _, rfl⟩)) (hb hby d12_26) hr
  · show QP (.long ((qx / qy) - (1 : Int64))) h0 n0 _ s₁.heap _
    rw [e0]
    exact ⟨rfl, N0, rfl⟩
set_option maxRecDepth 65536 in
set_option maxHeartbeats 40000000 in
theorem rm12 (l : Launch) (Z : State) (a0 : Array Value) (hw : ∀ d ∈ tables_1, d.before a0 Z = true) (ws : List Jvm.Cond) (qx : Int64) (qy : Int64) (h0 : Heap) (n0 : Nat) (Z0 : n0 ≤ h0.size) (hy : qy ≠ (0 : Int64)) (r : Int64) (hr0 : r = (if (qx ^^^ qy) < (0 : Int64) then (if ((qx / qy) * qy) = qx then (qx / qy) else ((qx / qy) - (1 : Int64))) else (qx / qy))) :
    MetFree l (⟨"java/lang/Math", "floorDiv", "(JJ)J"⟩ : MethodName) (head1 (Jvm.Cond.code (⟨"java/lang/Math", "floorDiv", "(JJ)J"⟩ : MethodName) jdk_29_method_49_code 6 (some .long) :: ws) ({ frames := 0, cells := 0, slots := 0, locals := 0 } : Room)) (fun a U => a = #[(.long qx), (.long qy)] ∧ Z.Warmed39 U.vm ∧ U.heap = h0) (fun _ _ _ _ _ => True) (fun _ U o U' => ∃ v L, o = .returned v ∧ QP (.long r) h0 n0 v U'.heap L ∧ FrameEnd U o U' L ({ frames := 0, cells := 0, slots := 0, locals := 0 } : Room).cells ({ frames := 0, cells := 0, slots := 0, locals := 0 } : Room).slots) := by
  by_cases hc10 : (qx ^^^ qy) < (0 : Int64)
  · by_cases hc19 : ((qx / qy) * qy) = qx
    · exact rm12_ft l Z a0 hw ws qx qy h0 n0 Z0 hy r ((hr0.trans (if_pos hc10)).trans (if_pos hc19)) hc10 hc19
    · exact rm12_ff l Z a0 hw ws qx qy h0 n0 Z0 hy r ((hr0.trans (if_pos hc10)).trans (if_neg hc19)) hc10 hc19
  · exact rm12_t l Z a0 hw ws qx qy h0 n0 Z0 hy r (hr0.trans (if_neg hc10)) hc10
theorem d13_0 : decode jdk_29_method_52_code 0 = .ok (.lload_n 0, 1) := by decide +kernel
theorem d13_1 : decode jdk_29_method_52_code 1 = .ok (.lload_n 2, 1) := by decide +kernel
theorem d13_2 : decode jdk_29_method_52_code 2 = .ok (.lrem, 1) := by decide +kernel
theorem d13_3 : decode jdk_29_method_52_code 3 = .ok (.lstore 4, 2) := by decide +kernel
theorem d13_5 : decode jdk_29_method_52_code 5 = .ok (.lload_n 0, 1) := by decide +kernel
theorem d13_6 : decode jdk_29_method_52_code 6 = .ok (.lload_n 2, 1) := by decide +kernel
theorem d13_7 : decode jdk_29_method_52_code 7 = .ok (.lxor, 1) := by decide +kernel
theorem d13_8 : decode jdk_29_method_52_code 8 = .ok (.lconst 0, 1) := by decide +kernel
theorem d13_9 : decode jdk_29_method_52_code 9 = .ok (.lcmp, 1) := by decide +kernel
theorem d13_10 : decode jdk_29_method_52_code 10 = .ok (.ifCond .ge 15, 3) := by decide +kernel
theorem d13_25 : decode jdk_29_method_52_code 25 = .ok (.lload 4, 2) := by decide +kernel
theorem d13_27 : decode jdk_29_method_52_code 27 = .ok (.lreturn, 1) := by decide +kernel
theorem d13_13 : decode jdk_29_method_52_code 13 = .ok (.lload 4, 2) := by decide +kernel
theorem d13_15 : decode jdk_29_method_52_code 15 = .ok (.lconst 0, 1) := by decide +kernel
theorem d13_16 : decode jdk_29_method_52_code 16 = .ok (.lcmp, 1) := by decide +kernel
theorem d13_17 : decode jdk_29_method_52_code 17 = .ok (.ifCond .eq 8, 3) := by decide +kernel
theorem d13_20 : decode jdk_29_method_52_code 20 = .ok (.lload 4, 2) := by decide +kernel
theorem d13_22 : decode jdk_29_method_52_code 22 = .ok (.lload_n 2, 1) := by decide +kernel
theorem d13_23 : decode jdk_29_method_52_code 23 = .ok (.ladd, 1) := by decide +kernel
theorem d13_24 : decode jdk_29_method_52_code 24 = .ok (.lreturn, 1) := by decide +kernel
theorem ef_rm13 (m : MethodId) (qx : Int64) (qy : Int64) : entryFrame m #[(.long qx), (.long qy)] 6 = mkF m 0 #[.val (.long qx), .second, .val (.long qy), .second, .unset, .unset] [] := by first | (simp [entryFrame, mkF, argsToLocals, Value.category]; done) | rfl
set_option maxRecDepth 65536 in
set_option maxHeartbeats 40000000 in
theorem rm13_t (l : Launch) (Z : State) (a0 : Array Value) (hw : ∀ d ∈ tables_1, d.before a0 Z = true) (ws : List Jvm.Cond) (qx : Int64) (qy : Int64) (h0 : Heap) (n0 : Nat) (Z0 : n0 ≤ h0.size) (hy : qy ≠ (0 : Int64)) (r : Int64) (hr0 : r = (qx - (qx / qy) * qy)) (hc10 : ¬ ((qx ^^^ qy) < (0 : Int64))) :
    MetFree l (⟨"java/lang/Math", "floorMod", "(JJ)J"⟩ : MethodName) (head1 (Jvm.Cond.code (⟨"java/lang/Math", "floorMod", "(JJ)J"⟩ : MethodName) jdk_29_method_52_code 6 (some .long) :: ws) ({ frames := 0, cells := 0, slots := 0, locals := 0 } : Room)) (fun a U => a = #[(.long qx), (.long qy)] ∧ Z.Warmed39 U.vm ∧ U.heap = h0) (fun _ _ _ _ _ => True) (fun _ U o U' => ∃ v L, o = .returned v ∧ QP (.long r) h0 n0 v U'.heap L ∧ FrameEnd U o U' L ({ frames := 0, cells := 0, slots := 0, locals := 0 } : Room).cells ({ frames := 0, cells := 0, slots := 0, locals := 0 } : Room).slots) := by
  rw [hr0]
  refine MetFree.of_bodySF (Jvm.Free.JP.mathPlain rfl (by decide +kernel)) hisR ?_
  intro p e s m args below meth c s₁ Bd hml0 hP hK
  obtain ⟨rfl, hZ, hh⟩ := hP
  have hx := Bd.exec
  have hby := Bd.bytes
  have hml : c.maxLocals = 6 := hml0
  have hown : s.vm.findClass "java/lang/Math" = some m.cls := findClass_of_methodNamed Bd.named
  have hnm := (name_of_methodNamed Bd.named Bd.method).1
  have X0 : Stand p l e ({ frames := 0, cells := 0, slots := 0, locals := 0 } : Room) s m #[(.long qx), (.long qy)] below meth c s₁ [] 0 0 := Stand.of_body Bd
  have e0 : s₁.heap = h0 := by rw [← hh, Bd.state]; rfl
  have N0 := Fr.nil n0
  have pre0 : ∀ t, Steps p.tables e below (s₁.setTop (mkF m 0 #[.val (.long qx), .second, .val (.long qy), .second, .unset, .unset] [])) t → Steps p.tables e below (s₁.setTop (entryFrame m #[(.long qx), (.long qy)] 6)) t := fun t k => castTop (ef_rm13 m qx qy) k
  obtain ⟨fs, hr, hrun, hended, hW, hsame⟩ := X0.leave (v := some (.long (qx - (qx / qy) * qy))) (fun h => by rw [Bd.returns] at h; cases h)
  refine ⟨_, _, pre0 _ ?_, hrun, hended, _, _, rfl, ?_, ⟨_, rfl⟩, hW, hsame.mono (by decide) (by decide)⟩
  · show Steps p.tables e below (s₁.setTop (mkF m 0 #[.val (.long qx), .second, .val (.long qy), .second, .unset, .unset] [])) _
    refine XS.lloadN X0.here hx rfl (hb hby d13_0) rfl ?_
    show Steps p.tables e below (s₁.setTop (mkF m 1 #[.val (.long qx), .second, .val (.long qy), .second, .unset, .unset] [(.long qx)])) _
    refine XS.lloadN X0.here hx rfl (hb hby d13_1) rfl ?_
    show Steps p.tables e below (s₁.setTop (mkF m 2 #[.val (.long qx), .second, .val (.long qy), .second, .unset, .unset] [(.long qy), (.long qx)])) _
    refine XS.lrem X0.here hx rfl (hb hby d13_2) rfl hy ?_
    show Steps p.tables e below (s₁.setTop (mkF m 3 #[.val (.long qx), .second, .val (.long qy), .second, .unset, .unset] [(.long (qx - (qx / qy) * qy))])) _
    refine XS.lstore X0.here hx rfl (hb hby d13_3) rfl (l' := #[.val (.long qx), .second, .val (.long qy), .second, .val (.long (qx - (qx / qy) * qy)), .second]) rfl ?_
    show Steps p.tables e below (s₁.setTop (mkF m 5 #[.val (.long qx), .second, .val (.long qy), .second, .val (.long (qx - (qx / qy) * qy)), .second] [])) _
    refine XS.lloadN X0.here hx rfl (hb hby d13_5) rfl ?_
    show Steps p.tables e below (s₁.setTop (mkF m 6 #[.val (.long qx), .second, .val (.long qy), .second, .val (.long (qx - (qx / qy) * qy)), .second] [(.long qx)])) _
    refine XS.lloadN X0.here hx rfl (hb hby d13_6) rfl ?_
    show Steps p.tables e below (s₁.setTop (mkF m 7 #[.val (.long qx), .second, .val (.long qy), .second, .val (.long (qx - (qx / qy) * qy)), .second] [(.long qy), (.long qx)])) _
    refine XS.lxor X0.here hx rfl (hb hby d13_7) rfl ?_
    show Steps p.tables e below (s₁.setTop (mkF m 8 #[.val (.long qx), .second, .val (.long qy), .second, .val (.long (qx - (qx / qy) * qy)), .second] [(.long (qx ^^^ qy))])) _
    refine XS.lconst X0.here hx rfl (hb hby d13_8) ?_
    show Steps p.tables e below (s₁.setTop (mkF m 9 #[.val (.long qx), .second, .val (.long qy), .second, .val (.long (qx - (qx / qy) * qy)), .second] [(.long (0 : Int64)), (.long (qx ^^^ qy))])) _
    refine XS.lcmp X0.here hx rfl (hb hby d13_9) rfl ?_
    show Steps p.tables e below (s₁.setTop (mkF m 10 #[.val (.long qx), .second, .val (.long qy), .second, .val (.long (qx - (qx / qy) * qy)), .second] [(.int (lcmpW (qx ^^^ qy) (0 : Int64)))])) _
    refine XS.ifYes X0.here hx rfl (pc0 := 10) (pc' := 25) rfl (hb hby d13_10) rfl ((if0 _ _).trans (flt (fun q => hc10 ((lw_lt (qx ^^^ qy) (0 : Int64)).mp q))).2.1) (by decide) (by decide) ?_
    show Steps p.tables e below (s₁.setTop (mkF m 25 #[.val (.long qx), .second, .val (.long qy), .second, .val (.long (qx - (qx / qy) * qy)), .second] [])) _
    refine XS.lload X0.here hx rfl (hb hby d13_25) rfl ?_
    show Steps p.tables e below (s₁.setTop (mkF m 27 #[.val (.long qx), .second, .val (.long qy), .second, .val (.long (qx - (qx / qy) * qy)), .second] [(.long (qx - (qx / qy) * qy))])) _
    exact retOut X0 hx Bd.returns rfl (Or.inr (Or.inl ⟨rfl, rfl, _, rfl⟩)) (hb hby d13_27) hr
  · show QP (.long (qx - (qx / qy) * qy)) h0 n0 _ s₁.heap _
    rw [e0]
    exact ⟨rfl, N0, rfl⟩
set_option maxRecDepth 65536 in
set_option maxHeartbeats 40000000 in
theorem rm13_ft (l : Launch) (Z : State) (a0 : Array Value) (hw : ∀ d ∈ tables_1, d.before a0 Z = true) (ws : List Jvm.Cond) (qx : Int64) (qy : Int64) (h0 : Heap) (n0 : Nat) (Z0 : n0 ≤ h0.size) (hy : qy ≠ (0 : Int64)) (r : Int64) (hr0 : r = (qx - (qx / qy) * qy)) (hc10 : (qx ^^^ qy) < (0 : Int64)) (hc17 : (qx - (qx / qy) * qy) = (0 : Int64)) :
    MetFree l (⟨"java/lang/Math", "floorMod", "(JJ)J"⟩ : MethodName) (head1 (Jvm.Cond.code (⟨"java/lang/Math", "floorMod", "(JJ)J"⟩ : MethodName) jdk_29_method_52_code 6 (some .long) :: ws) ({ frames := 0, cells := 0, slots := 0, locals := 0 } : Room)) (fun a U => a = #[(.long qx), (.long qy)] ∧ Z.Warmed39 U.vm ∧ U.heap = h0) (fun _ _ _ _ _ => True) (fun _ U o U' => ∃ v L, o = .returned v ∧ QP (.long r) h0 n0 v U'.heap L ∧ FrameEnd U o U' L ({ frames := 0, cells := 0, slots := 0, locals := 0 } : Room).cells ({ frames := 0, cells := 0, slots := 0, locals := 0 } : Room).slots) := by
  rw [hr0]
  refine MetFree.of_bodySF (Jvm.Free.JP.mathPlain rfl (by decide +kernel)) hisR ?_
  intro p e s m args below meth c s₁ Bd hml0 hP hK
  obtain ⟨rfl, hZ, hh⟩ := hP
  have hx := Bd.exec
  have hby := Bd.bytes
  have hml : c.maxLocals = 6 := hml0
  have hown : s.vm.findClass "java/lang/Math" = some m.cls := findClass_of_methodNamed Bd.named
  have hnm := (name_of_methodNamed Bd.named Bd.method).1
  have X0 : Stand p l e ({ frames := 0, cells := 0, slots := 0, locals := 0 } : Room) s m #[(.long qx), (.long qy)] below meth c s₁ [] 0 0 := Stand.of_body Bd
  have e0 : s₁.heap = h0 := by rw [← hh, Bd.state]; rfl
  have N0 := Fr.nil n0
  have pre0 : ∀ t, Steps p.tables e below (s₁.setTop (mkF m 0 #[.val (.long qx), .second, .val (.long qy), .second, .unset, .unset] [])) t → Steps p.tables e below (s₁.setTop (entryFrame m #[(.long qx), (.long qy)] 6)) t := fun t k => castTop (ef_rm13 m qx qy) k
  obtain ⟨fs, hr, hrun, hended, hW, hsame⟩ := X0.leave (v := some (.long (qx - (qx / qy) * qy))) (fun h => by rw [Bd.returns] at h; cases h)
  refine ⟨_, _, pre0 _ ?_, hrun, hended, _, _, rfl, ?_, ⟨_, rfl⟩, hW, hsame.mono (by decide) (by decide)⟩
  · show Steps p.tables e below (s₁.setTop (mkF m 0 #[.val (.long qx), .second, .val (.long qy), .second, .unset, .unset] [])) _
    refine XS.lloadN X0.here hx rfl (hb hby d13_0) rfl ?_
    show Steps p.tables e below (s₁.setTop (mkF m 1 #[.val (.long qx), .second, .val (.long qy), .second, .unset, .unset] [(.long qx)])) _
    refine XS.lloadN X0.here hx rfl (hb hby d13_1) rfl ?_
    show Steps p.tables e below (s₁.setTop (mkF m 2 #[.val (.long qx), .second, .val (.long qy), .second, .unset, .unset] [(.long qy), (.long qx)])) _
    refine XS.lrem X0.here hx rfl (hb hby d13_2) rfl hy ?_
    show Steps p.tables e below (s₁.setTop (mkF m 3 #[.val (.long qx), .second, .val (.long qy), .second, .unset, .unset] [(.long (qx - (qx / qy) * qy))])) _
    refine XS.lstore X0.here hx rfl (hb hby d13_3) rfl (l' := #[.val (.long qx), .second, .val (.long qy), .second, .val (.long (qx - (qx / qy) * qy)), .second]) rfl ?_
    show Steps p.tables e below (s₁.setTop (mkF m 5 #[.val (.long qx), .second, .val (.long qy), .second, .val (.long (qx - (qx / qy) * qy)), .second] [])) _
    refine XS.lloadN X0.here hx rfl (hb hby d13_5) rfl ?_
    show Steps p.tables e below (s₁.setTop (mkF m 6 #[.val (.long qx), .second, .val (.long qy), .second, .val (.long (qx - (qx / qy) * qy)), .second] [(.long qx)])) _
    refine XS.lloadN X0.here hx rfl (hb hby d13_6) rfl ?_
    show Steps p.tables e below (s₁.setTop (mkF m 7 #[.val (.long qx), .second, .val (.long qy), .second, .val (.long (qx - (qx / qy) * qy)), .second] [(.long qy), (.long qx)])) _
    refine XS.lxor X0.here hx rfl (hb hby d13_7) rfl ?_
    show Steps p.tables e below (s₁.setTop (mkF m 8 #[.val (.long qx), .second, .val (.long qy), .second, .val (.long (qx - (qx / qy) * qy)), .second] [(.long (qx ^^^ qy))])) _
    refine XS.lconst X0.here hx rfl (hb hby d13_8) ?_
    show Steps p.tables e below (s₁.setTop (mkF m 9 #[.val (.long qx), .second, .val (.long qy), .second, .val (.long (qx - (qx / qy) * qy)), .second] [(.long (0 : Int64)), (.long (qx ^^^ qy))])) _
    refine XS.lcmp X0.here hx rfl (hb hby d13_9) rfl ?_
    show Steps p.tables e below (s₁.setTop (mkF m 10 #[.val (.long qx), .second, .val (.long qy), .second, .val (.long (qx - (qx / qy) * qy)), .second] [(.int (lcmpW (qx ^^^ qy) (0 : Int64)))])) _
    refine XS.ifNo X0.here hx rfl (hb hby d13_10) rfl ((if0 _ _).trans (tlt ((lw_lt (qx ^^^ qy) (0 : Int64)).mpr hc10)).2.1) ?_
    show Steps p.tables e below (s₁.setTop (mkF m 13 #[.val (.long qx), .second, .val (.long qy), .second, .val (.long (qx - (qx / qy) * qy)), .second] [])) _
    refine XS.lload X0.here hx rfl (hb hby d13_13) rfl ?_
    show Steps p.tables e below (s₁.setTop (mkF m 15 #[.val (.long qx), .second, .val (.long qy), .second, .val (.long (qx - (qx / qy) * qy)), .second] [(.long (qx - (qx / qy) * qy))])) _
    refine XS.lconst X0.here hx rfl (hb hby d13_15) ?_
    show Steps p.tables e below (s₁.setTop (mkF m 16 #[.val (.long qx), .second, .val (.long qy), .second, .val (.long (qx - (qx / qy) * qy)), .second] [(.long (0 : Int64)), (.long (qx - (qx / qy) * qy))])) _
    refine XS.lcmp X0.here hx rfl (hb hby d13_16) rfl ?_
    show Steps p.tables e below (s₁.setTop (mkF m 17 #[.val (.long qx), .second, .val (.long qy), .second, .val (.long (qx - (qx / qy) * qy)), .second] [(.int (lcmpW (qx - (qx / qy) * qy) (0 : Int64)))])) _
    refine XS.ifYes X0.here hx rfl (pc0 := 17) (pc' := 25) rfl (hb hby d13_17) rfl ((if0 _ _).trans (teq ((lw_eq (qx - (qx / qy) * qy) (0 : Int64)).mpr hc17)).1) (by decide) (by decide) ?_
    show Steps p.tables e below (s₁.setTop (mkF m 25 #[.val (.long qx), .second, .val (.long qy), .second, .val (.long (qx - (qx / qy) * qy)), .second] [])) _
    refine XS.lload X0.here hx rfl (hb hby d13_25) rfl ?_
    show Steps p.tables e below (s₁.setTop (mkF m 27 #[.val (.long qx), .second, .val (.long qy), .second, .val (.long (qx - (qx / qy) * qy)), .second] [(.long (qx - (qx / qy) * qy))])) _
    exact retOut X0 hx Bd.returns rfl (Or.inr (Or.inl ⟨rfl, rfl, _, rfl⟩)) (hb hby d13_27) hr
  · show QP (.long (qx - (qx / qy) * qy)) h0 n0 _ s₁.heap _
    rw [e0]
    exact ⟨rfl, N0, rfl⟩
set_option maxRecDepth 65536 in
set_option maxHeartbeats 40000000 in
theorem rm13_ff (l : Launch) (Z : State) (a0 : Array Value) (hw : ∀ d ∈ tables_1, d.before a0 Z = true) (ws : List Jvm.Cond) (qx : Int64) (qy : Int64) (h0 : Heap) (n0 : Nat) (Z0 : n0 ≤ h0.size) (hy : qy ≠ (0 : Int64)) (r : Int64) (hr0 : r = ((qx - (qx / qy) * qy) + qy)) (hc10 : (qx ^^^ qy) < (0 : Int64)) (hc17 : ¬ ((qx - (qx / qy) * qy) = (0 : Int64))) :
    MetFree l (⟨"java/lang/Math", "floorMod", "(JJ)J"⟩ : MethodName) (head1 (Jvm.Cond.code (⟨"java/lang/Math", "floorMod", "(JJ)J"⟩ : MethodName) jdk_29_method_52_code 6 (some .long) :: ws) ({ frames := 0, cells := 0, slots := 0, locals := 0 } : Room)) (fun a U => a = #[(.long qx), (.long qy)] ∧ Z.Warmed39 U.vm ∧ U.heap = h0) (fun _ _ _ _ _ => True) (fun _ U o U' => ∃ v L, o = .returned v ∧ QP (.long r) h0 n0 v U'.heap L ∧ FrameEnd U o U' L ({ frames := 0, cells := 0, slots := 0, locals := 0 } : Room).cells ({ frames := 0, cells := 0, slots := 0, locals := 0 } : Room).slots) := by
  rw [hr0]
  refine MetFree.of_bodySF (Jvm.Free.JP.mathPlain rfl (by decide +kernel)) hisR ?_
  intro p e s m args below meth c s₁ Bd hml0 hP hK
  obtain ⟨rfl, hZ, hh⟩ := hP
  have hx := Bd.exec
  have hby := Bd.bytes
  have hml : c.maxLocals = 6 := hml0
  have hown : s.vm.findClass "java/lang/Math" = some m.cls := findClass_of_methodNamed Bd.named
  have hnm := (name_of_methodNamed Bd.named Bd.method).1
  have X0 : Stand p l e ({ frames := 0, cells := 0, slots := 0, locals := 0 } : Room) s m #[(.long qx), (.long qy)] below meth c s₁ [] 0 0 := Stand.of_body Bd
  have e0 : s₁.heap = h0 := by rw [← hh, Bd.state]; rfl
  have N0 := Fr.nil n0
  have pre0 : ∀ t, Steps p.tables e below (s₁.setTop (mkF m 0 #[.val (.long qx), .second, .val (.long qy), .second, .unset, .unset] [])) t → Steps p.tables e below (s₁.setTop (entryFrame m #[(.long qx), (.long qy)] 6)) t := fun t k => castTop (ef_rm13 m qx qy) k
  obtain ⟨fs, hr, hrun, hended, hW, hsame⟩ := X0.leave (v := some (.long ((qx - (qx / qy) * qy) + qy))) (fun h => by rw [Bd.returns] at h; cases h)
  refine ⟨_, _, pre0 _ ?_, hrun, hended, _, _, rfl, ?_, ⟨_, rfl⟩, hW, hsame.mono (by decide) (by decide)⟩
  · show Steps p.tables e below (s₁.setTop (mkF m 0 #[.val (.long qx), .second, .val (.long qy), .second, .unset, .unset] [])) _
    refine XS.lloadN X0.here hx rfl (hb hby d13_0) rfl ?_
    show Steps p.tables e below (s₁.setTop (mkF m 1 #[.val (.long qx), .second, .val (.long qy), .second, .unset, .unset] [(.long qx)])) _
    refine XS.lloadN X0.here hx rfl (hb hby d13_1) rfl ?_
    show Steps p.tables e below (s₁.setTop (mkF m 2 #[.val (.long qx), .second, .val (.long qy), .second, .unset, .unset] [(.long qy), (.long qx)])) _
    refine XS.lrem X0.here hx rfl (hb hby d13_2) rfl hy ?_
    show Steps p.tables e below (s₁.setTop (mkF m 3 #[.val (.long qx), .second, .val (.long qy), .second, .unset, .unset] [(.long (qx - (qx / qy) * qy))])) _
    refine XS.lstore X0.here hx rfl (hb hby d13_3) rfl (l' := #[.val (.long qx), .second, .val (.long qy), .second, .val (.long (qx - (qx / qy) * qy)), .second]) rfl ?_
    show Steps p.tables e below (s₁.setTop (mkF m 5 #[.val (.long qx), .second, .val (.long qy), .second, .val (.long (qx - (qx / qy) * qy)), .second] [])) _
    refine XS.lloadN X0.here hx rfl (hb hby d13_5) rfl ?_
    show Steps p.tables e below (s₁.setTop (mkF m 6 #[.val (.long qx), .second, .val (.long qy), .second, .val (.long (qx - (qx / qy) * qy)), .second] [(.long qx)])) _
    refine XS.lloadN X0.here hx rfl (hb hby d13_6) rfl ?_
    show Steps p.tables e below (s₁.setTop (mkF m 7 #[.val (.long qx), .second, .val (.long qy), .second, .val (.long (qx - (qx / qy) * qy)), .second] [(.long qy), (.long qx)])) _
    refine XS.lxor X0.here hx rfl (hb hby d13_7) rfl ?_
    show Steps p.tables e below (s₁.setTop (mkF m 8 #[.val (.long qx), .second, .val (.long qy), .second, .val (.long (qx - (qx / qy) * qy)), .second] [(.long (qx ^^^ qy))])) _
    refine XS.lconst X0.here hx rfl (hb hby d13_8) ?_
    show Steps p.tables e below (s₁.setTop (mkF m 9 #[.val (.long qx), .second, .val (.long qy), .second, .val (.long (qx - (qx / qy) * qy)), .second] [(.long (0 : Int64)), (.long (qx ^^^ qy))])) _
    refine XS.lcmp X0.here hx rfl (hb hby d13_9) rfl ?_
    show Steps p.tables e below (s₁.setTop (mkF m 10 #[.val (.long qx), .second, .val (.long qy), .second, .val (.long (qx - (qx / qy) * qy)), .second] [(.int (lcmpW (qx ^^^ qy) (0 : Int64)))])) _
    refine XS.ifNo X0.here hx rfl (hb hby d13_10) rfl ((if0 _ _).trans (tlt ((lw_lt (qx ^^^ qy) (0 : Int64)).mpr hc10)).2.1) ?_
    show Steps p.tables e below (s₁.setTop (mkF m 13 #[.val (.long qx), .second, .val (.long qy), .second, .val (.long (qx - (qx / qy) * qy)), .second] [])) _
    refine XS.lload X0.here hx rfl (hb hby d13_13) rfl ?_
    show Steps p.tables e below (s₁.setTop (mkF m 15 #[.val (.long qx), .second, .val (.long qy), .second, .val (.long (qx - (qx / qy) * qy)), .second] [(.long (qx - (qx / qy) * qy))])) _
    refine XS.lconst X0.here hx rfl (hb hby d13_15) ?_
    show Steps p.tables e below (s₁.setTop (mkF m 16 #[.val (.long qx), .second, .val (.long qy), .second, .val (.long (qx - (qx / qy) * qy)), .second] [(.long (0 : Int64)), (.long (qx - (qx / qy) * qy))])) _
    refine XS.lcmp X0.here hx rfl (hb hby d13_16) rfl ?_
    show Steps p.tables e below (s₁.setTop (mkF m 17 #[.val (.long qx), .second, .val (.long qy), .second, .val (.long (qx - (qx / qy) * qy)), .second] [(.int (lcmpW (qx - (qx / qy) * qy) (0 : Int64)))])) _
    refine XS.ifNo X0.here hx rfl (hb hby d13_17) rfl ((if0 _ _).trans (feq (fun q => hc17 ((lw_eq (qx - (qx / qy) * qy) (0 : Int64)).mp q))).1) ?_
    show Steps p.tables e below (s₁.setTop (mkF m 20 #[.val (.long qx), .second, .val (.long qy), .second, .val (.long (qx - (qx / qy) * qy)), .second] [])) _
    refine XS.lload X0.here hx rfl (hb hby d13_20) rfl ?_
    show Steps p.tables e below (s₁.setTop (mkF m 22 #[.val (.long qx), .second, .val (.long qy), .second, .val (.long (qx - (qx / qy) * qy)), .second] [(.long (qx - (qx / qy) * qy))])) _
    refine XS.lloadN X0.here hx rfl (hb hby d13_22) rfl ?_
    show Steps p.tables e below (s₁.setTop (mkF m 23 #[.val (.long qx), .second, .val (.long qy), .second, .val (.long (qx - (qx / qy) * qy)), .second] [(.long qy), (.long (qx - (qx / qy) * qy))])) _
    refine XS.ladd X0.here hx rfl (hb hby d13_23) rfl ?_
    show Steps p.tables e below (s₁.setTop (mkF m 24 #[.val (.long qx), .second, .val (.long qy), .second, .val (.long (qx - (qx / qy) * qy)), .second] [(.long ((qx - (qx / qy) * qy) + qy))])) _
    exact retOut X0 hx Bd.returns rfl (Or.inr (Or.inl ⟨rfl, rfl, _, rfl⟩)) (hb hby d13_24) hr
  · show QP (.long ((qx - (qx / qy) * qy) + qy)) h0 n0 _ s₁.heap _
    rw [e0]
    exact ⟨rfl, N0, rfl⟩
set_option maxRecDepth 65536 in
set_option maxHeartbeats 40000000 in
theorem rm13 (l : Launch) (Z : State) (a0 : Array Value) (hw : ∀ d ∈ tables_1, d.before a0 Z = true) (ws : List Jvm.Cond) (qx : Int64) (qy : Int64) (h0 : Heap) (n0 : Nat) (Z0 : n0 ≤ h0.size) (hy : qy ≠ (0 : Int64)) (r : Int64) (hr0 : r = (if (qx ^^^ qy) < (0 : Int64) then (if (qx - (qx / qy) * qy) = (0 : Int64) then (qx - (qx / qy) * qy) else ((qx - (qx / qy) * qy) + qy)) else (qx - (qx / qy) * qy))) :
    MetFree l (⟨"java/lang/Math", "floorMod", "(JJ)J"⟩ : MethodName) (head1 (Jvm.Cond.code (⟨"java/lang/Math", "floorMod", "(JJ)J"⟩ : MethodName) jdk_29_method_52_code 6 (some .long) :: ws) ({ frames := 0, cells := 0, slots := 0, locals := 0 } : Room)) (fun a U => a = #[(.long qx), (.long qy)] ∧ Z.Warmed39 U.vm ∧ U.heap = h0) (fun _ _ _ _ _ => True) (fun _ U o U' => ∃ v L, o = .returned v ∧ QP (.long r) h0 n0 v U'.heap L ∧ FrameEnd U o U' L ({ frames := 0, cells := 0, slots := 0, locals := 0 } : Room).cells ({ frames := 0, cells := 0, slots := 0, locals := 0 } : Room).slots) := by
  by_cases hc10 : (qx ^^^ qy) < (0 : Int64)
  · by_cases hc17 : (qx - (qx / qy) * qy) = (0 : Int64)
    · exact rm13_ft l Z a0 hw ws qx qy h0 n0 Z0 hy r ((hr0.trans (if_pos hc10)).trans (if_pos hc17)) hc10 hc17
    · exact rm13_ff l Z a0 hw ws qx qy h0 n0 Z0 hy r ((hr0.trans (if_pos hc10)).trans (if_neg hc17)) hc10 hc17
  · exact rm13_t l Z a0 hw ws qx qy h0 n0 Z0 hy r (hr0.trans (if_neg hc10)) hc10
theorem d16_0 : decode jdk_35_method_42_code 0 = .ok (.lload_n 0, 1) := by decide +kernel
theorem d16_1 : decode jdk_35_method_42_code 1 = .ok (.lload_n 2, 1) := by decide +kernel
theorem d16_2 : decode jdk_35_method_42_code 2 = .ok (.lcmp, 1) := by decide +kernel
theorem d16_3 : decode jdk_35_method_42_code 3 = .ok (.ifCond .ge 7, 3) := by decide +kernel
theorem d16_10 : decode jdk_35_method_42_code 10 = .ok (.lload_n 0, 1) := by decide +kernel
theorem d16_11 : decode jdk_35_method_42_code 11 = .ok (.lload_n 2, 1) := by decide +kernel
theorem d16_12 : decode jdk_35_method_42_code 12 = .ok (.lcmp, 1) := by decide +kernel
theorem d16_13 : decode jdk_35_method_42_code 13 = .ok (.ifCond .ne 7, 3) := by decide +kernel
theorem d16_20 : decode jdk_35_method_42_code 20 = .ok (.iconst 1, 1) := by decide +kernel
theorem d16_21 : decode jdk_35_method_42_code 21 = .ok (.ireturn, 1) := by decide +kernel
theorem d16_16 : decode jdk_35_method_42_code 16 = .ok (.iconst 0, 1) := by decide +kernel
theorem d16_17 : decode jdk_35_method_42_code 17 = .ok (.goto 4, 3) := by decide +kernel
theorem d16_6 : decode jdk_35_method_42_code 6 = .ok (.iconst (-1), 1) := by decide +kernel
theorem d16_7 : decode jdk_35_method_42_code 7 = .ok (.goto 14, 3) := by decide +kernel
theorem pnm_1 : plainName "java/lang/Long" = true := by first | (simp [plainName, overriddenIn]; done) | decide +kernel
theorem ef_rm16 (m : MethodId) (qx : Int64) (qy : Int64) : entryFrame m #[(.long qx), (.long qy)] 4 = mkF m 0 #[.val (.long qx), .second, .val (.long qy), .second] [] := by first | (simp [entryFrame, mkF, argsToLocals, Value.category]; done) | rfl
set_option maxRecDepth 65536 in
set_option maxHeartbeats 40000000 in
theorem rm16_tt (l : Launch) (Z : State) (a0 : Array Value) (hw : ∀ d ∈ tables_1, d.before a0 Z = true) (ws : List Jvm.Cond) (qx : Int64) (qy : Int64) (h0 : Heap) (n0 : Nat) (Z0 : n0 ≤ h0.size) (r : Int32) (hr0 : r = (1 : Int32)) (hc3 : ¬ (qx < qy)) (hc13 : ¬ (qx = qy)) :
    MetFree l (⟨"java/lang/Long", "compare", "(JJ)I"⟩ : MethodName) (head1 (Jvm.Cond.code (⟨"java/lang/Long", "compare", "(JJ)I"⟩ : MethodName) jdk_35_method_42_code 4 (some .int) :: ws) ({ frames := 0, cells := 0, slots := 0, locals := 0 } : Room)) (fun a U => a = #[(.long qx), (.long qy)] ∧ Z.Warmed39 U.vm ∧ U.heap = h0) (fun _ _ _ _ _ => True) (fun _ U o U' => ∃ v L, o = .returned v ∧ QP (.int r) h0 n0 v U'.heap L ∧ FrameEnd U o U' L ({ frames := 0, cells := 0, slots := 0, locals := 0 } : Room).cells ({ frames := 0, cells := 0, slots := 0, locals := 0 } : Room).slots) := by
  rw [hr0]
  refine MetFree.of_bodySF (plainFor_of_name pnm_1) hisR ?_
  intro p e s m args below meth c s₁ Bd hml0 hP hK
  obtain ⟨rfl, hZ, hh⟩ := hP
  have hx := Bd.exec
  have hby := Bd.bytes
  have hml : c.maxLocals = 4 := hml0
  have hown : s.vm.findClass "java/lang/Long" = some m.cls := findClass_of_methodNamed Bd.named
  have hnm := (name_of_methodNamed Bd.named Bd.method).1
  have X0 : Stand p l e ({ frames := 0, cells := 0, slots := 0, locals := 0 } : Room) s m #[(.long qx), (.long qy)] below meth c s₁ [] 0 0 := Stand.of_body Bd
  have e0 : s₁.heap = h0 := by rw [← hh, Bd.state]; rfl
  have N0 := Fr.nil n0
  have pre0 : ∀ t, Steps p.tables e below (s₁.setTop (mkF m 0 #[.val (.long qx), .second, .val (.long qy), .second] [])) t → Steps p.tables e below (s₁.setTop (entryFrame m #[(.long qx), (.long qy)] 4)) t := fun t k => castTop (ef_rm16 m qx qy) k
  obtain ⟨fs, hr, hrun, hended, hW, hsame⟩ := X0.leave (v := some (.int (1 : Int32))) (fun h => by rw [Bd.returns] at h; cases h)
  refine ⟨_, _, pre0 _ ?_, hrun, hended, _, _, rfl, ?_, ⟨_, rfl⟩, hW, hsame.mono (by decide) (by decide)⟩
  · show Steps p.tables e below (s₁.setTop (mkF m 0 #[.val (.long qx), .second, .val (.long qy), .second] [])) _
    refine XS.lloadN X0.here hx rfl (hb hby d16_0) rfl ?_
    show Steps p.tables e below (s₁.setTop (mkF m 1 #[.val (.long qx), .second, .val (.long qy), .second] [(.long qx)])) _
    refine XS.lloadN X0.here hx rfl (hb hby d16_1) rfl ?_
    show Steps p.tables e below (s₁.setTop (mkF m 2 #[.val (.long qx), .second, .val (.long qy), .second] [(.long qy), (.long qx)])) _
    refine XS.lcmp X0.here hx rfl (hb hby d16_2) rfl ?_
    show Steps p.tables e below (s₁.setTop (mkF m 3 #[.val (.long qx), .second, .val (.long qy), .second] [(.int (lcmpW qx qy))])) _
    refine XS.ifYes X0.here hx rfl (pc0 := 3) (pc' := 10) rfl (hb hby d16_3) rfl ((if0 _ _).trans (flt (fun q => hc3 ((lw_lt qx qy).mp q))).2.1) (by decide) (by decide) ?_
    show Steps p.tables e below (s₁.setTop (mkF m 10 #[.val (.long qx), .second, .val (.long qy), .second] [])) _
    refine XS.lloadN X0.here hx rfl (hb hby d16_10) rfl ?_
    show Steps p.tables e below (s₁.setTop (mkF m 11 #[.val (.long qx), .second, .val (.long qy), .second] [(.long qx)])) _
    refine XS.lloadN X0.here hx rfl (hb hby d16_11) rfl ?_
    show Steps p.tables e below (s₁.setTop (mkF m 12 #[.val (.long qx), .second, .val (.long qy), .second] [(.long qy), (.long qx)])) _
    refine XS.lcmp X0.here hx rfl (hb hby d16_12) rfl ?_
    show Steps p.tables e below (s₁.setTop (mkF m 13 #[.val (.long qx), .second, .val (.long qy), .second] [(.int (lcmpW qx qy))])) _
    refine XS.ifYes X0.here hx rfl (pc0 := 13) (pc' := 20) rfl (hb hby d16_13) rfl ((if0 _ _).trans (feq (fun q => hc13 ((lw_eq qx qy).mp q))).2) (by decide) (by decide) ?_
    show Steps p.tables e below (s₁.setTop (mkF m 20 #[.val (.long qx), .second, .val (.long qy), .second] [])) _
    refine XS.iconst X0.here hx rfl (hb hby d16_20) ?_
    show Steps p.tables e below (s₁.setTop (mkF m 21 #[.val (.long qx), .second, .val (.long qy), .second] [(.int (1 : Int32))])) _
    exact retI X0 hx Bd.returns (hb hby d16_21) hr
  · show QP (.int (1 : Int32)) h0 n0 _ s₁.heap _
    rw [e0]
    exact ⟨rfl, N0, rfl⟩
set_option maxRecDepth 65536 in
set_option maxHeartbeats 40000000 in
theorem rm16_tf (l : Launch) (Z : State) (a0 : Array Value) (hw : ∀ d ∈ tables_1, d.before a0 Z = true) (ws : List Jvm.Cond) (qx : Int64) (qy : Int64) (h0 : Heap) (n0 : Nat) (Z0 : n0 ≤ h0.size) (r : Int32) (hr0 : r = (0 : Int32)) (hc3 : ¬ (qx < qy)) (hc13 : qx = qy) :
    MetFree l (⟨"java/lang/Long", "compare", "(JJ)I"⟩ : MethodName) (head1 (Jvm.Cond.code (⟨"java/lang/Long", "compare", "(JJ)I"⟩ : MethodName) jdk_35_method_42_code 4 (some .int) :: ws) ({ frames := 0, cells := 0, slots := 0, locals := 0 } : Room)) (fun a U => a = #[(.long qx), (.long qy)] ∧ Z.Warmed39 U.vm ∧ U.heap = h0) (fun _ _ _ _ _ => True) (fun _ U o U' => ∃ v L, o = .returned v ∧ QP (.int r) h0 n0 v U'.heap L ∧ FrameEnd U o U' L ({ frames := 0, cells := 0, slots := 0, locals := 0 } : Room).cells ({ frames := 0, cells := 0, slots := 0, locals := 0 } : Room).slots) := by
  rw [hr0]
  refine MetFree.of_bodySF (plainFor_of_name pnm_1) hisR ?_
  intro p e s m args below meth c s₁ Bd hml0 hP hK
  obtain ⟨rfl, hZ, hh⟩ := hP
  have hx := Bd.exec
  have hby := Bd.bytes
  have hml : c.maxLocals = 4 := hml0
  have hown : s.vm.findClass "java/lang/Long" = some m.cls := findClass_of_methodNamed Bd.named
  have hnm := (name_of_methodNamed Bd.named Bd.method).1
  have X0 : Stand p l e ({ frames := 0, cells := 0, slots := 0, locals := 0 } : Room) s m #[(.long qx), (.long qy)] below meth c s₁ [] 0 0 := Stand.of_body Bd
  have e0 : s₁.heap = h0 := by rw [← hh, Bd.state]; rfl
  have N0 := Fr.nil n0
  have pre0 : ∀ t, Steps p.tables e below (s₁.setTop (mkF m 0 #[.val (.long qx), .second, .val (.long qy), .second] [])) t → Steps p.tables e below (s₁.setTop (entryFrame m #[(.long qx), (.long qy)] 4)) t := fun t k => castTop (ef_rm16 m qx qy) k
  obtain ⟨fs, hr, hrun, hended, hW, hsame⟩ := X0.leave (v := some (.int (0 : Int32))) (fun h => by rw [Bd.returns] at h; cases h)
  refine ⟨_, _, pre0 _ ?_, hrun, hended, _, _, rfl, ?_, ⟨_, rfl⟩, hW, hsame.mono (by decide) (by decide)⟩
  · show Steps p.tables e below (s₁.setTop (mkF m 0 #[.val (.long qx), .second, .val (.long qy), .second] [])) _
    refine XS.lloadN X0.here hx rfl (hb hby d16_0) rfl ?_
    show Steps p.tables e below (s₁.setTop (mkF m 1 #[.val (.long qx), .second, .val (.long qy), .second] [(.long qx)])) _
    refine XS.lloadN X0.here hx rfl (hb hby d16_1) rfl ?_
    show Steps p.tables e below (s₁.setTop (mkF m 2 #[.val (.long qx), .second, .val (.long qy), .second] [(.long qy), (.long qx)])) _
    refine XS.lcmp X0.here hx rfl (hb hby d16_2) rfl ?_
    show Steps p.tables e below (s₁.setTop (mkF m 3 #[.val (.long qx), .second, .val (.long qy), .second] [(.int (lcmpW qx qy))])) _
    refine XS.ifYes X0.here hx rfl (pc0 := 3) (pc' := 10) rfl (hb hby d16_3) rfl ((if0 _ _).trans (flt (fun q => hc3 ((lw_lt qx qy).mp q))).2.1) (by decide) (by decide) ?_
    show Steps p.tables e below (s₁.setTop (mkF m 10 #[.val (.long qx), .second, .val (.long qy), .second] [])) _
    refine XS.lloadN X0.here hx rfl (hb hby d16_10) rfl ?_
    show Steps p.tables e below (s₁.setTop (mkF m 11 #[.val (.long qx), .second, .val (.long qy), .second] [(.long qx)])) _
    refine XS.lloadN X0.here hx rfl (hb hby d16_11) rfl ?_
    show Steps p.tables e below (s₁.setTop (mkF m 12 #[.val (.long qx), .second, .val (.long qy), .second] [(.long qy), (.long qx)])) _
    refine XS.lcmp X0.here hx rfl (hb hby d16_12) rfl ?_
    show Steps p.tables e below (s₁.setTop (mkF m 13 #[.val (.long qx), .second, .val (.long qy), .second] [(.int (lcmpW qx qy))])) _
    refine XS.ifNo X0.here hx rfl (hb hby d16_13) rfl ((if0 _ _).trans (teq ((lw_eq qx qy).mpr hc13)).2) ?_
    show Steps p.tables e below (s₁.setTop (mkF m 16 #[.val (.long qx), .second, .val (.long qy), .second] [])) _
    refine XS.iconst X0.here hx rfl (hb hby d16_16) ?_
    show Steps p.tables e below (s₁.setTop (mkF m 17 #[.val (.long qx), .second, .val (.long qy), .second] [(.int (0 : Int32))])) _
    refine XS.goto X0.here hx rfl (pc0 := 17) (pc' := 21) rfl (hb hby d16_17) (by decide) (by decide) ?_
    show Steps p.tables e below (s₁.setTop (mkF m 21 #[.val (.long qx), .second, .val (.long qy), .second] [(.int (0 : Int32))])) _
    exact retI X0 hx Bd.returns (hb hby d16_21) hr
  · show QP (.int (0 : Int32)) h0 n0 _ s₁.heap _
    rw [e0]
    exact ⟨rfl, N0, rfl⟩
set_option maxRecDepth 65536 in
set_option maxHeartbeats 40000000 in
theorem rm16_f (l : Launch) (Z : State) (a0 : Array Value) (hw : ∀ d ∈ tables_1, d.before a0 Z = true) (ws : List Jvm.Cond) (qx : Int64) (qy : Int64) (h0 : Heap) (n0 : Nat) (Z0 : n0 ≤ h0.size) (r : Int32) (hr0 : r = (-1 : Int32)) (hc3 : qx < qy) :
    MetFree l (⟨"java/lang/Long", "compare", "(JJ)I"⟩ : MethodName) (head1 (Jvm.Cond.code (⟨"java/lang/Long", "compare", "(JJ)I"⟩ : MethodName) jdk_35_method_42_code 4 (some .int) :: ws) ({ frames := 0, cells := 0, slots := 0, locals := 0 } : Room)) (fun a U => a = #[(.long qx), (.long qy)] ∧ Z.Warmed39 U.vm ∧ U.heap = h0) (fun _ _ _ _ _ => True) (fun _ U o U' => ∃ v L, o = .returned v ∧ QP (.int r) h0 n0 v U'.heap L ∧ FrameEnd U o U' L ({ frames := 0, cells := 0, slots := 0, locals := 0 } : Room).cells ({ frames := 0, cells := 0, slots := 0, locals := 0 } : Room).slots) := by
  rw [hr0]
  refine MetFree.of_bodySF (plainFor_of_name pnm_1) hisR ?_
  intro p e s m args below meth c s₁ Bd hml0 hP hK
  obtain ⟨rfl, hZ, hh⟩ := hP
  have hx := Bd.exec
  have hby := Bd.bytes
  have hml : c.maxLocals = 4 := hml0
  have hown : s.vm.findClass "java/lang/Long" = some m.cls := findClass_of_methodNamed Bd.named
  have hnm := (name_of_methodNamed Bd.named Bd.method).1
  have X0 : Stand p l e ({ frames := 0, cells := 0, slots := 0, locals := 0 } : Room) s m #[(.long qx), (.long qy)] below meth c s₁ [] 0 0 := Stand.of_body Bd
  have e0 : s₁.heap = h0 := by rw [← hh, Bd.state]; rfl
  have N0 := Fr.nil n0
  have pre0 : ∀ t, Steps p.tables e below (s₁.setTop (mkF m 0 #[.val (.long qx), .second, .val (.long qy), .second] [])) t → Steps p.tables e below (s₁.setTop (entryFrame m #[(.long qx), (.long qy)] 4)) t := fun t k => castTop (ef_rm16 m qx qy) k
  obtain ⟨fs, hr, hrun, hended, hW, hsame⟩ := X0.leave (v := some (.int (-1 : Int32))) (fun h => by rw [Bd.returns] at h; cases h)
  refine ⟨_, _, pre0 _ ?_, hrun, hended, _, _, rfl, ?_, ⟨_, rfl⟩, hW, hsame.mono (by decide) (by decide)⟩
  · show Steps p.tables e below (s₁.setTop (mkF m 0 #[.val (.long qx), .second, .val (.long qy), .second] [])) _
    refine XS.lloadN X0.here hx rfl (hb hby d16_0) rfl ?_
    show Steps p.tables e below (s₁.setTop (mkF m 1 #[.val (.long qx), .second, .val (.long qy), .second] [(.long qx)])) _
    refine XS.lloadN X0.here hx rfl (hb hby d16_1) rfl ?_
    show Steps p.tables e below (s₁.setTop (mkF m 2 #[.val (.long qx), .second, .val (.long qy), .second] [(.long qy), (.long qx)])) _
    refine XS.lcmp X0.here hx rfl (hb hby d16_2) rfl ?_
    show Steps p.tables e below (s₁.setTop (mkF m 3 #[.val (.long qx), .second, .val (.long qy), .second] [(.int (lcmpW qx qy))])) _
    refine XS.ifNo X0.here hx rfl (hb hby d16_3) rfl ((if0 _ _).trans (tlt ((lw_lt qx qy).mpr hc3)).2.1) ?_
    show Steps p.tables e below (s₁.setTop (mkF m 6 #[.val (.long qx), .second, .val (.long qy), .second] [])) _
    refine XS.iconst X0.here hx rfl (hb hby d16_6) ?_
    show Steps p.tables e below (s₁.setTop (mkF m 7 #[.val (.long qx), .second, .val (.long qy), .second] [(.int (-1 : Int32))])) _
    refine XS.goto X0.here hx rfl (pc0 := 7) (pc' := 21) rfl (hb hby d16_7) (by decide) (by decide) ?_
    show Steps p.tables e below (s₁.setTop (mkF m 21 #[.val (.long qx), .second, .val (.long qy), .second] [(.int (-1 : Int32))])) _
    exact retI X0 hx Bd.returns (hb hby d16_21) hr
  · show QP (.int (-1 : Int32)) h0 n0 _ s₁.heap _
    rw [e0]
    exact ⟨rfl, N0, rfl⟩
set_option maxRecDepth 65536 in
set_option maxHeartbeats 40000000 in
theorem rm16 (l : Launch) (Z : State) (a0 : Array Value) (hw : ∀ d ∈ tables_1, d.before a0 Z = true) (ws : List Jvm.Cond) (qx : Int64) (qy : Int64) (h0 : Heap) (n0 : Nat) (Z0 : n0 ≤ h0.size) (r : Int32) (hr0 : r = (if qx < qy then (-1 : Int32) else (if qx = qy then (0 : Int32) else (1 : Int32)))) :
    MetFree l (⟨"java/lang/Long", "compare", "(JJ)I"⟩ : MethodName) (head1 (Jvm.Cond.code (⟨"java/lang/Long", "compare", "(JJ)I"⟩ : MethodName) jdk_35_method_42_code 4 (some .int) :: ws) ({ frames := 0, cells := 0, slots := 0, locals := 0 } : Room)) (fun a U => a = #[(.long qx), (.long qy)] ∧ Z.Warmed39 U.vm ∧ U.heap = h0) (fun _ _ _ _ _ => True) (fun _ U o U' => ∃ v L, o = .returned v ∧ QP (.int r) h0 n0 v U'.heap L ∧ FrameEnd U o U' L ({ frames := 0, cells := 0, slots := 0, locals := 0 } : Room).cells ({ frames := 0, cells := 0, slots := 0, locals := 0 } : Room).slots) := by
  by_cases hc3 : qx < qy
  · exact rm16_f l Z a0 hw ws qx qy h0 n0 Z0 r (hr0.trans (if_pos hc3)) hc3
  · by_cases hc13 : qx = qy
    · exact rm16_tf l Z a0 hw ws qx qy h0 n0 Z0 r ((hr0.trans (if_neg hc3)).trans (if_pos hc13)) hc3 hc13
    · exact rm16_tt l Z a0 hw ws qx qy h0 n0 Z0 r ((hr0.trans (if_neg hc3)).trans (if_neg hc13)) hc3 hc13
theorem d19_0 : decode jdk_29_method_61_code 0 = .ok (.lload_n 0, 1) := by decide +kernel
theorem d19_1 : decode jdk_29_method_61_code 1 = .ok (.lconst 0, 1) := by decide +kernel
theorem d19_2 : decode jdk_29_method_61_code 2 = .ok (.lcmp, 1) := by decide +kernel
theorem d19_3 : decode jdk_29_method_61_code 3 = .ok (.ifCond .ge 8, 3) := by decide +kernel
theorem d19_11 : decode jdk_29_method_61_code 11 = .ok (.lload_n 0, 1) := by decide +kernel
theorem d19_12 : decode jdk_29_method_61_code 12 = .ok (.lreturn, 1) := by decide +kernel
theorem d19_6 : decode jdk_29_method_61_code 6 = .ok (.lload_n 0, 1) := by decide +kernel
theorem d19_7 : decode jdk_29_method_61_code 7 = .ok (.lneg, 1) := by decide +kernel
theorem d19_8 : decode jdk_29_method_61_code 8 = .ok (.goto 4, 3) := by decide +kernel
theorem ef_rm19 (m : MethodId) (qx : Int64) : entryFrame m #[(.long qx)] 2 = mkF m 0 #[.val (.long qx), .second] [] := by first | (simp [entryFrame, mkF, argsToLocals, Value.category]; done) | rfl
set_option maxRecDepth 65536 in
set_option maxHeartbeats 40000000 in
theorem rm19_t (l : Launch) (Z : State) (a0 : Array Value) (hw : ∀ d ∈ tables_1, d.before a0 Z = true) (ws : List Jvm.Cond) (qx : Int64) (h0 : Heap) (n0 : Nat) (Z0 : n0 ≤ h0.size) (r : Int64) (hr0 : r = qx) (hc3 : ¬ (qx < (0 : Int64))) :
    MetFree l (⟨"java/lang/Math", "abs", "(J)J"⟩ : MethodName) (head1 (Jvm.Cond.code (⟨"java/lang/Math", "abs", "(J)J"⟩ : MethodName) jdk_29_method_61_code 2 (some .long) :: ws) ({ frames := 0, cells := 0, slots := 0, locals := 0 } : Room)) (fun a U => a = #[(.long qx)] ∧ Z.Warmed39 U.vm ∧ U.heap = h0) (fun _ _ _ _ _ => True) (fun _ U o U' => ∃ v L, o = .returned v ∧ QP (.long r) h0 n0 v U'.heap L ∧ FrameEnd U o U' L ({ frames := 0, cells := 0, slots := 0, locals := 0 } : Room).cells ({ frames := 0, cells := 0, slots := 0, locals := 0 } : Room).slots) := by
  rw [hr0]
  refine MetFree.of_bodySF (Jvm.Free.JP.mathPlain rfl (by decide +kernel)) hisR ?_
  intro p e s m args below meth c s₁ Bd hml0 hP hK
  obtain ⟨rfl, hZ, hh⟩ := hP
  have hx := Bd.exec
  have hby := Bd.bytes
  have hml : c.maxLocals = 2 := hml0
  have hown : s.vm.findClass "java/lang/Math" = some m.cls := findClass_of_methodNamed Bd.named
  have hnm := (name_of_methodNamed Bd.named Bd.method).1
  have X0 : Stand p l e ({ frames := 0, cells := 0, slots := 0, locals := 0 } : Room) s m #[(.long qx)] below meth c s₁ [] 0 0 := Stand.of_body Bd
  have e0 : s₁.heap = h0 := by rw [← hh, Bd.state]; rfl
  have N0 := Fr.nil n0
  have pre0 : ∀ t, Steps p.tables e below (s₁.setTop (mkF m 0 #[.val (.long qx), .second] [])) t → Steps p.tables e below (s₁.setTop (entryFrame m #[(.long qx)] 2)) t := fun t k => castTop (ef_rm19 m qx) k
  obtain ⟨fs, hr, hrun, hended, hW, hsame⟩ := X0.leave (v := some (.long qx)) (fun h => by rw [Bd.returns] at h; cases h)
  refine ⟨_, _, pre0 _ ?_, hrun, hended, _, _, rfl, ?_, ⟨_, rfl⟩, hW, hsame.mono (by decide) (by decide)⟩
  · show Steps p.tables e below (s₁.setTop (mkF m 0 #[.val (.long qx), .second] [])) _
    refine XS.lloadN X0.here hx rfl (hb hby d19_0) rfl ?_
    show Steps p.tables e below (s₁.setTop (mkF m 1 #[.val (.long qx), .second] [(.long qx)])) _
    refine XS.lconst X0.here hx rfl (hb hby d19_1) ?_
    show Steps p.tables e below (s₁.setTop (mkF m 2 #[.val (.long qx), .second] [(.long (0 : Int64)), (.long qx)])) _
    refine XS.lcmp X0.here hx rfl (hb hby d19_2) rfl ?_
    show Steps p.tables e below (s₁.setTop (mkF m 3 #[.val (.long qx), .second] [(.int (lcmpW qx (0 : Int64)))])) _
    refine XS.ifYes X0.here hx rfl (pc0 := 3) (pc' := 11) rfl (hb hby d19_3) rfl ((if0 _ _).trans (flt (fun q => hc3 ((lw_lt qx (0 : Int64)).mp q))).2.1) (by decide) (by decide) ?_
    show Steps p.tables e below (s₁.setTop (mkF m 11 #[.val (.long qx), .second] [])) _
    refine XS.lloadN X0.here hx rfl (hb hby d19_11) rfl ?_
    show Steps p.tables e below (s₁.setTop (mkF m 12 #[.val (.long qx), .second] [(.long qx)])) _
    exact retOut X0 hx Bd.returns rfl (Or.inr (Or.inl ⟨rfl, rfl, _, rfl⟩)) (hb hby d19_12) hr
  · show QP (.long qx) h0 n0 _ s₁.heap _
    rw [e0]
    exact ⟨rfl, N0, rfl⟩
set_option maxRecDepth 65536 in
set_option maxHeartbeats 40000000 in
theorem rm19_f (l : Launch) (Z : State) (a0 : Array Value) (hw : ∀ d ∈ tables_1, d.before a0 Z = true) (ws : List Jvm.Cond) (qx : Int64) (h0 : Heap) (n0 : Nat) (Z0 : n0 ≤ h0.size) (r : Int64) (hr0 : r = (-qx)) (hc3 : qx < (0 : Int64)) :
    MetFree l (⟨"java/lang/Math", "abs", "(J)J"⟩ : MethodName) (head1 (Jvm.Cond.code (⟨"java/lang/Math", "abs", "(J)J"⟩ : MethodName) jdk_29_method_61_code 2 (some .long) :: ws) ({ frames := 0, cells := 0, slots := 0, locals := 0 } : Room)) (fun a U => a = #[(.long qx)] ∧ Z.Warmed39 U.vm ∧ U.heap = h0) (fun _ _ _ _ _ => True) (fun _ U o U' => ∃ v L, o = .returned v ∧ QP (.long r) h0 n0 v U'.heap L ∧ FrameEnd U o U' L ({ frames := 0, cells := 0, slots := 0, locals := 0 } : Room).cells ({ frames := 0, cells := 0, slots := 0, locals := 0 } : Room).slots) := by
  rw [hr0]
  refine MetFree.of_bodySF (Jvm.Free.JP.mathPlain rfl (by decide +kernel)) hisR ?_
  intro p e s m args below meth c s₁ Bd hml0 hP hK
  obtain ⟨rfl, hZ, hh⟩ := hP
  have hx := Bd.exec
  have hby := Bd.bytes
  have hml : c.maxLocals = 2 := hml0
  have hown : s.vm.findClass "java/lang/Math" = some m.cls := findClass_of_methodNamed Bd.named
  have hnm := (name_of_methodNamed Bd.named Bd.method).1
  have X0 : Stand p l e ({ frames := 0, cells := 0, slots := 0, locals := 0 } : Room) s m #[(.long qx)] below meth c s₁ [] 0 0 := Stand.of_body Bd
  have e0 : s₁.heap = h0 := by rw [← hh, Bd.state]; rfl
  have N0 := Fr.nil n0
  have pre0 : ∀ t, Steps p.tables e below (s₁.setTop (mkF m 0 #[.val (.long qx), .second] [])) t → Steps p.tables e below (s₁.setTop (entryFrame m #[(.long qx)] 2)) t := fun t k => castTop (ef_rm19 m qx) k
  obtain ⟨fs, hr, hrun, hended, hW, hsame⟩ := X0.leave (v := some (.long (-qx))) (fun h => by rw [Bd.returns] at h; cases h)
  refine ⟨_, _, pre0 _ ?_, hrun, hended, _, _, rfl, ?_, ⟨_, rfl⟩, hW, hsame.mono (by decide) (by decide)⟩
  · show Steps p.tables e below (s₁.setTop (mkF m 0 #[.val (.long qx), .second] [])) _
    refine XS.lloadN X0.here hx rfl (hb hby d19_0) rfl ?_
    show Steps p.tables e below (s₁.setTop (mkF m 1 #[.val (.long qx), .second] [(.long qx)])) _
    refine XS.lconst X0.here hx rfl (hb hby d19_1) ?_
    show Steps p.tables e below (s₁.setTop (mkF m 2 #[.val (.long qx), .second] [(.long (0 : Int64)), (.long qx)])) _
    refine XS.lcmp X0.here hx rfl (hb hby d19_2) rfl ?_
    show Steps p.tables e below (s₁.setTop (mkF m 3 #[.val (.long qx), .second] [(.int (lcmpW qx (0 : Int64)))])) _
    refine XS.ifNo X0.here hx rfl (hb hby d19_3) rfl ((if0 _ _).trans (tlt ((lw_lt qx (0 : Int64)).mpr hc3)).2.1) ?_
    show Steps p.tables e below (s₁.setTop (mkF m 6 #[.val (.long qx), .second] [])) _
    refine XS.lloadN X0.here hx rfl (hb hby d19_6) rfl ?_
    show Steps p.tables e below (s₁.setTop (mkF m 7 #[.val (.long qx), .second] [(.long qx)])) _
    refine XS.lneg X0.here hx rfl (hb hby d19_7) rfl ?_
    show Steps p.tables e below (s₁.setTop (mkF m 8 #[.val (.long qx), .second] [(.long (-qx))])) _
    refine XS.goto X0.here hx rfl (pc0 := 8) (pc' := 12) rfl (hb hby d19_8) (by decide) (by decide) ?_
    show Steps p.tables e below (s₁.setTop (mkF m 12 #[.val (.long qx), .second] [(.long (-qx))])) _
    exact retOut X0 hx Bd.returns rfl (Or.inr (Or.inl ⟨rfl, rfl, _, rfl⟩)) (hb hby d19_12) hr
  · show QP (.long (-qx)) h0 n0 _ s₁.heap _
    rw [e0]
    exact ⟨rfl, N0, rfl⟩
set_option maxRecDepth 65536 in
set_option maxHeartbeats 40000000 in
theorem rm19 (l : Launch) (Z : State) (a0 : Array Value) (hw : ∀ d ∈ tables_1, d.before a0 Z = true) (ws : List Jvm.Cond) (qx : Int64) (h0 : Heap) (n0 : Nat) (Z0 : n0 ≤ h0.size) (r : Int64) (hr0 : r = (if qx < (0 : Int64) then (-qx) else qx)) :
    MetFree l (⟨"java/lang/Math", "abs", "(J)J"⟩ : MethodName) (head1 (Jvm.Cond.code (⟨"java/lang/Math", "abs", "(J)J"⟩ : MethodName) jdk_29_method_61_code 2 (some .long) :: ws) ({ frames := 0, cells := 0, slots := 0, locals := 0 } : Room)) (fun a U => a = #[(.long qx)] ∧ Z.Warmed39 U.vm ∧ U.heap = h0) (fun _ _ _ _ _ => True) (fun _ U o U' => ∃ v L, o = .returned v ∧ QP (.long r) h0 n0 v U'.heap L ∧ FrameEnd U o U' L ({ frames := 0, cells := 0, slots := 0, locals := 0 } : Room).cells ({ frames := 0, cells := 0, slots := 0, locals := 0 } : Room).slots) := by
  by_cases hc3 : qx < (0 : Int64)
  · exact rm19_f l Z a0 hw ws qx h0 n0 Z0 r (hr0.trans (if_pos hc3)) hc3
  · exact rm19_t l Z a0 hw ws qx h0 n0 Z0 r (hr0.trans (if_neg hc3)) hc3
theorem d11_0 : decode jdk_2316_method_5_code 0 = .ok (.lload_n 0, 1) := by decide +kernel
theorem d11_1 : decode jdk_2316_method_5_code 1 = .ok (.lload_n 2, 1) := by decide +kernel
theorem d11_2 : decode jdk_2316_method_5_code 2 = .ok (.ldc2_w 16, 3) := by decide +kernel
theorem d11_5 : decode jdk_2316_method_5_code 5 = .ok (.invokestatic 18, 3) := by decide +kernel
theorem pdm_2 : parseMethodDescriptor "(JJ)J" = some ⟨[.long, .long], some .long⟩ := by decide +kernel
theorem d11_8 : decode jdk_2316_method_5_code 8 = .ok (.invokestatic 22, 3) := by decide +kernel
theorem d11_11 : decode jdk_2316_method_5_code 11 = .ok (.lstore 4, 2) := by decide +kernel
theorem d11_13 : decode jdk_2316_method_5_code 13 = .ok (.lload_n 2, 1) := by decide +kernel
theorem d11_14 : decode jdk_2316_method_5_code 14 = .ok (.ldc2_w 16, 3) := by decide +kernel
theorem d11_17 : decode jdk_2316_method_5_code 17 = .ok (.invokestatic 25, 3) := by decide +kernel
theorem d11_20 : decode jdk_2316_method_5_code 20 = .ok (.l2i, 1) := by decide +kernel
theorem d11_21 : decode jdk_2316_method_5_code 21 = .ok (.istore 6, 2) := by decide +kernel
theorem d11_23 : decode jdk_2316_method_5_code 23 = .ok (.lload 4, 2) := by decide +kernel
theorem d11_25 : decode jdk_2316_method_5_code 25 = .ok (.iload 6, 2) := by decide +kernel
theorem d11_27 : decode jdk_2316_method_5_code 27 = .ok (.invokestatic 10, 3) := by decide +kernel
theorem d11_30 : decode jdk_2316_method_5_code 30 = .ok (.areturn, 1) := by decide +kernel
theorem ef_rm11 (m : MethodId) (qs : Int64) (qn : Int64) : entryFrame m #[(.long qs), (.long qn)] 7 = mkF m 0 #[.val (.long qs), .second, .val (.long qn), .second, .unset, .unset, .unset] [] := by first | (simp [entryFrame, mkF, argsToLocals, Value.category]; done) | rfl
set_option maxRecDepth 65536 in
set_option maxHeartbeats 40000000 in
theorem rm11 (l : Launch) (Z : State) (a0 : Array Value) (hw : ∀ d ∈ tables_1, d.before a0 Z = true) (ws : List Jvm.Cond) (qs : Int64) (qn : Int64) (w_Z : Addr) (h0 : Heap) (n0 : Nat) (Z0 : n0 ≤ h0.size) (S_Z : Sta Z h0 "java/time/Duration" "ZERO" "Ljava/time/Duration;" (.ref w_Z)) (E_Z : Exa Z h0 w_Z "java/time/Duration") (F_Zs : Fld Z h0 w_Z "java/time/Duration" "seconds" "J" (.long (0 : Int64))) (F_Zn : Fld Z h0 w_Z "java/time/Duration" "nanos" "I" (.int (0 : Int32))) (hno : own_fit qs (own_fdiv qn (1000000000 : Int64))) :
    MetFree l (⟨"java/time/Duration", "ofSeconds", "(JJ)Ljava/time/Duration;"⟩ : MethodName) (head1 (Jvm.Cond.code (⟨"java/time/Duration", "ofSeconds", "(JJ)Ljava/time/Duration;"⟩ : MethodName) jdk_2316_method_5_code 7 (some (.object "java/time/Duration")) :: ws) ({ frames := 3, cells := 1, slots := 2, locals := 42 } : Room)) (fun a U => a = #[(.long qs), (.long qn)] ∧ Z.Warmed39 U.vm ∧ U.heap = h0) (fun _ _ _ _ _ => True) (fun _ U o U' => ∃ v L, o = .returned v ∧ QD Z (qs + (own_fdiv qn (1000000000 : Int64))) ((own_fmod qn (1000000000 : Int64)).toInt32) h0 n0 v U'.heap L ∧ FrameEnd U o U' L ({ frames := 3, cells := 1, slots := 2, locals := 42 } : Room).cells ({ frames := 3, cells := 1, slots := 2, locals := 42 } : Room).slots) := by
  refine MetFree.of_bodySF (plainFor_of_name pnm_0) hisR ?_
  intro p e s m args below meth c s₁ Bd hml0 hP hK
  obtain ⟨rfl, hZ, hh⟩ := hP
  have hx := Bd.exec
  have hby := Bd.bytes
  have hml : c.maxLocals = 7 := hml0
  have hown : s.vm.findClass "java/time/Duration" = some m.cls := findClass_of_methodNamed Bd.named
  have hnm := (name_of_methodNamed Bd.named Bd.method).1
  have X0 : Stand p l e ({ frames := 3, cells := 1, slots := 2, locals := 42 } : Room) s m #[(.long qs), (.long qn)] below meth c s₁ [] 0 0 := Stand.of_body Bd
  have e0 : s₁.heap = h0 := by rw [← hh, Bd.state]; rfl
  have N0 := Fr.nil n0
  have pre0 : ∀ t, Steps p.tables e below (s₁.setTop (mkF m 0 #[.val (.long qs), .second, .val (.long qn), .second, .unset, .unset, .unset] [])) t → Steps p.tables e below (s₁.setTop (entryFrame m #[(.long qs), (.long qn)] 7)) t := fun t k => castTop (ef_rm11 m qs qn) k
  obtain ⟨_, _, ⟨T1, L1, k1, n1⟩, -, X1, ⟨Lc1, hQ1, l1, y1, z1⟩, st1⟩ := Jvm.LawKit.callS X0 hx (y := (⟨"java/lang/Math", "floorDiv", "(JJ)J"⟩ : MethodName)) hown (mvT hZ (hw _ (List.mem_of_getElem? (i := 59) rfl))) (mvT hZ (hw _ (List.mem_of_getElem? (i := 60) rfl))) (mvT hZ (hw _ (List.mem_of_getElem? (i := 53) rfl))) (mvT hZ (hw _ (List.mem_of_getElem? (i := 61) rfl))) (by decide) (backOf (W := 2) (rm12 l Z a0 hw [] qn (1000000000 : Int64) h0 n0 Z0 (by decide) (own_fdiv qn (1000000000 : Int64)) rfl) hZ (hw _ (List.mem_of_getElem? (i := 61) rfl)) (hw _ (List.mem_of_getElem? (i := 53) rfl)) (by decide) (by decide)) (g := (mkF m 5 #[.val (.long qs), .second, .val (.long qn), .second, .unset, .unset, .unset] [(.long (1000000000 : Int64)), (.long qn), (.long qs)])) rfl (by rw [hml]; rfl) (argsL := [(.long qn), (.long (1000000000 : Int64))]) (rest := [(.long qs)]) (lenOf pdm_2 rfl) rfl (by show 2 * 0 + _ ≤ _; exact Nat.le_of_eq rfl) (hb hby d11_5) (fun _ _ => ⟨rfl, e0, (by decide : 0 + 0 ≤ _), (by decide : 0 + 0 ≤ _)⟩)
  dsimp only [Pt.U, Pt.locs, Pt.cells, Pt.slots] at X1 l1 y1 z1 st1 hQ1
  subst l1 y1 z1
  obtain ⟨rfl, N1q, e1⟩ := hQ1
  have N1 := Fr.app N0 N1q
  obtain ⟨_, _, ⟨T2, L2, k2, n2⟩, -, X2, ⟨Lc2, hQ2, l2, y2, z2⟩, st2⟩ := Jvm.LawKit.callS X1 hx (y := (⟨"java/lang/Math", "addExact", "(JJ)J"⟩ : MethodName)) hown (mvT hZ (hw _ (List.mem_of_getElem? (i := 51) rfl))) (mvT hZ (hw _ (List.mem_of_getElem? (i := 52) rfl))) (mvT hZ (hw _ (List.mem_of_getElem? (i := 53) rfl))) (mvT hZ (hw _ (List.mem_of_getElem? (i := 54) rfl))) (by decide) (backOf (W := 0) (rm10 l Z a0 hw [] qs (own_fdiv qn (1000000000 : Int64)) h0 n0 Z0 hno (qs + (own_fdiv qn (1000000000 : Int64))) rfl) hZ (hw _ (List.mem_of_getElem? (i := 54) rfl)) (hw _ (List.mem_of_getElem? (i := 53) rfl)) (by decide) (by decide)) (g := (mkF m 8 #[.val (.long qs), .second, .val (.long qn), .second, .unset, .unset, .unset] [(.long (own_fdiv qn (1000000000 : Int64))), (.long qs)])) rfl (by rw [hml]; rfl) (argsL := [(.long qs), (.long (own_fdiv qn (1000000000 : Int64)))]) (rest := []) (lenOf pdm_2 rfl) rfl (by show 2 * 0 + _ ≤ _; exact Nat.le_of_eq rfl) (hb hby d11_8) (fun _ _ => ⟨rfl, e1, (by decide : 0 + 0 ≤ _), (by decide : 0 + 0 ≤ _)⟩)
  dsimp only [Pt.U, Pt.locs, Pt.cells, Pt.slots] at X2 l2 y2 z2 st2 hQ2
  subst l2 y2 z2
  obtain ⟨rfl, N2q, e2⟩ := hQ2
  have N2 := Fr.app N1 N2q
  obtain ⟨_, _, ⟨T3, L3, k3, n3⟩, -, X3, ⟨Lc3, hQ3, l3, y3, z3⟩, st3⟩ := Jvm.LawKit.callS X2 hx (y := (⟨"java/lang/Math", "floorMod", "(JJ)J"⟩ : MethodName)) hown (mvT hZ (hw _ (List.mem_of_getElem? (i := 62) rfl))) (mvT hZ (hw _ (List.mem_of_getElem? (i := 63) rfl))) (mvT hZ (hw _ (List.mem_of_getElem? (i := 53) rfl))) (mvT hZ (hw _ (List.mem_of_getElem? (i := 64) rfl))) (by decide) (backOf (W := 0) (rm13 l Z a0 hw [] qn (1000000000 : Int64) h0 n0 Z0 (by decide) (own_fmod qn (1000000000 : Int64)) rfl) hZ (hw _ (List.mem_of_getElem? (i := 64) rfl)) (hw _ (List.mem_of_getElem? (i := 53) rfl)) (by decide) (by decide)) (g := (mkF m 17 #[.val (.long qs), .second, .val (.long qn), .second, .val (.long (qs + (own_fdiv qn (1000000000 : Int64)))), .second, .unset] [(.long (1000000000 : Int64)), (.long qn)])) rfl (by rw [hml]; rfl) (argsL := [(.long qn), (.long (1000000000 : Int64))]) (rest := []) (lenOf pdm_2 rfl) rfl (by show 2 * 0 + _ ≤ _; exact Nat.le_of_eq rfl) (hb hby d11_17) (fun _ _ => ⟨rfl, e2, (by decide : 0 + 0 ≤ _), (by decide : 0 + 0 ≤ _)⟩)
  dsimp only [Pt.U, Pt.locs, Pt.cells, Pt.slots] at X3 l3 y3 z3 st3 hQ3
  subst l3 y3 z3
  obtain ⟨rfl, N3q, e3⟩ := hQ3
  have N3 := Fr.app N2 N3q
  obtain ⟨_, _, ⟨T4, L4, k4, n4⟩, -, X4, ⟨Lc4, hQ4, l4, y4, z4⟩, st4⟩ := Jvm.LawKit.callS X3 hx (y := (⟨"java/time/Duration", "create", "(JI)Ljava/time/Duration;"⟩ : MethodName)) hown (mvT hZ (hw _ (List.mem_of_getElem? (i := 13) rfl))) (mvT hZ (hw _ (List.mem_of_getElem? (i := 14) rfl))) (mvT hZ (hw _ (List.mem_of_getElem? (i := 9) rfl))) (mvT hZ (hw _ (List.mem_of_getElem? (i := 15) rfl))) (by decide) (backOf (W := 0) (rm3 l Z a0 hw [] (qs + (own_fdiv qn (1000000000 : Int64))) ((own_fmod qn (1000000000 : Int64)).toInt32) w_Z h0 n0 Z0 S_Z E_Z F_Zs F_Zn) hZ (hw _ (List.mem_of_getElem? (i := 15) rfl)) (hw _ (List.mem_of_getElem? (i := 9) rfl)) (by decide) (by decide)) (g := (mkF m 27 #[.val (.long qs), .second, .val (.long qn), .second, .val (.long (qs + (own_fdiv qn (1000000000 : Int64)))), .second, .val (.int ((own_fmod qn (1000000000 : Int64)).toInt32))] [(.int ((own_fmod qn (1000000000 : Int64)).toInt32)), (.long (qs + (own_fdiv qn (1000000000 : Int64))))])) rfl (by rw [hml]; rfl) (argsL := [(.long (qs + (own_fdiv qn (1000000000 : Int64)))), (.int ((own_fmod qn (1000000000 : Int64)).toInt32))]) (rest := []) (lenOf pdm_1 rfl) rfl (by show 2 * 0 + _ ≤ _; exact Nat.le_of_eq rfl) (hb hby d11_27) (fun _ _ => ⟨rfl, e3, (by decide : 0 + 1 ≤ _), (by decide : 0 + 2 ≤ _)⟩)
  dsimp only [Pt.U, Pt.locs, Pt.cells, Pt.slots] at X4 l4 y4 z4 st4 hQ4
  subst l4 y4 z4
  obtain ⟨b4, rfl, N4q, Ex4, A4, Fs4, Fn4⟩ := hQ4
  have N4 := Fr.app N3 N4q
  obtain ⟨fs, hr, hrun, hended, hW, hsame⟩ := X4.leave (v := some (.ref b4)) (fun h => by rw [Bd.returns] at h; cases h)
  refine ⟨_, _, pre0 _ ?_, hrun, hended, _, _, rfl, ?_, ⟨_, rfl⟩, hW, hsame.mono (by decide) (by decide)⟩
  · show Steps p.tables e below (s₁.setTop (mkF m 0 #[.val (.long qs), .second, .val (.long qn), .second, .unset, .unset, .unset] [])) _
    refine XS.lloadN X0.here hx rfl (hb hby d11_0) rfl ?_
    show Steps p.tables e below (s₁.setTop (mkF m 1 #[.val (.long qs), .second, .val (.long qn), .second, .unset, .unset, .unset] [(.long qs)])) _
    refine XS.lloadN X0.here hx rfl (hb hby d11_1) rfl ?_
    show Steps p.tables e below (s₁.setTop (mkF m 2 #[.val (.long qs), .second, .val (.long qn), .second, .unset, .unset, .unset] [(.long qn), (.long qs)])) _
    refine X0.ldc2Long hx hown (mvT hZ (hw _ (List.mem_of_getElem? (i := 55) rfl))) (g := (mkF m 2 #[.val (.long qs), .second, .val (.long qn), .second, .unset, .unset, .unset] [(.long qn), (.long qs)])) rfl (hb hby d11_2) _ ?_
    show Steps p.tables e below (s₁.setTop (mkF m 5 #[.val (.long qs), .second, .val (.long qn), .second, .unset, .unset, .unset] [(.long (1000000000 : Int64)), (.long qn), (.long qs)])) _
    refine st1 _ ?_
    show Steps p.tables e below (T1.setTop (mkF m 8 #[.val (.long qs), .second, .val (.long qn), .second, .unset, .unset, .unset] [(.long (own_fdiv qn (1000000000 : Int64))), (.long qs)])) _
    refine st2 _ ?_
    show Steps p.tables e below (T2.setTop (mkF m 11 #[.val (.long qs), .second, .val (.long qn), .second, .unset, .unset, .unset] [(.long (qs + (own_fdiv qn (1000000000 : Int64))))])) _
    refine XS.lstore X2.here hx rfl (hb hby d11_11) rfl (l' := #[.val (.long qs), .second, .val (.long qn), .second, .val (.long (qs + (own_fdiv qn (1000000000 : Int64)))), .second, .unset]) rfl ?_
    show Steps p.tables e below (T2.setTop (mkF m 13 #[.val (.long qs), .second, .val (.long qn), .second, .val (.long (qs + (own_fdiv qn (1000000000 : Int64)))), .second, .unset] [])) _
    refine XS.lloadN X2.here hx rfl (hb hby d11_13) rfl ?_
    show Steps p.tables e below (T2.setTop (mkF m 14 #[.val (.long qs), .second, .val (.long qn), .second, .val (.long (qs + (own_fdiv qn (1000000000 : Int64)))), .second, .unset] [(.long qn)])) _
    refine X2.ldc2Long hx hown (mvT hZ (hw _ (List.mem_of_getElem? (i := 55) rfl))) (g := (mkF m 14 #[.val (.long qs), .second, .val (.long qn), .second, .val (.long (qs + (own_fdiv qn (1000000000 : Int64)))), .second, .unset] [(.long qn)])) rfl (hb hby d11_14) _ ?_
    show Steps p.tables e below (T2.setTop (mkF m 17 #[.val (.long qs), .second, .val (.long qn), .second, .val (.long (qs + (own_fdiv qn (1000000000 : Int64)))), .second, .unset] [(.long (1000000000 : Int64)), (.long qn)])) _
    refine st3 _ ?_
    show Steps p.tables e below (T3.setTop (mkF m 20 #[.val (.long qs), .second, .val (.long qn), .second, .val (.long (qs + (own_fdiv qn (1000000000 : Int64)))), .second, .unset] [(.long (own_fmod qn (1000000000 : Int64)))])) _
    refine XS.l2i X3.here hx rfl (hb hby d11_20) rfl ?_
    show Steps p.tables e below (T3.setTop (mkF m 21 #[.val (.long qs), .second, .val (.long qn), .second, .val (.long (qs + (own_fdiv qn (1000000000 : Int64)))), .second, .unset] [(.int ((own_fmod qn (1000000000 : Int64)).toInt32))])) _
    refine XS.istore X3.here hx rfl (hb hby d11_21) rfl (l' := #[.val (.long qs), .second, .val (.long qn), .second, .val (.long (qs + (own_fdiv qn (1000000000 : Int64)))), .second, .val (.int ((own_fmod qn (1000000000 : Int64)).toInt32))]) rfl ?_
    show Steps p.tables e below (T3.setTop (mkF m 23 #[.val (.long qs), .second, .val (.long qn), .second, .val (.long (qs + (own_fdiv qn (1000000000 : Int64)))), .second, .val (.int ((own_fmod qn (1000000000 : Int64)).toInt32))] [])) _
    refine XS.lload X3.here hx rfl (hb hby d11_23) rfl ?_
    show Steps p.tables e below (T3.setTop (mkF m 25 #[.val (.long qs), .second, .val (.long qn), .second, .val (.long (qs + (own_fdiv qn (1000000000 : Int64)))), .second, .val (.int ((own_fmod qn (1000000000 : Int64)).toInt32))] [(.long (qs + (own_fdiv qn (1000000000 : Int64))))])) _
    refine XS.iload X3.here hx rfl (hb hby d11_25) rfl ?_
    show Steps p.tables e below (T3.setTop (mkF m 27 #[.val (.long qs), .second, .val (.long qn), .second, .val (.long (qs + (own_fdiv qn (1000000000 : Int64)))), .second, .val (.int ((own_fmod qn (1000000000 : Int64)).toInt32))] [(.int ((own_fmod qn (1000000000 : Int64)).toInt32)), (.long (qs + (own_fdiv qn (1000000000 : Int64))))])) _
    refine st4 _ ?_
    show Steps p.tables e below (T4.setTop (mkF m 30 #[.val (.long qs), .second, .val (.long qn), .second, .val (.long (qs + (own_fdiv qn (1000000000 : Int64)))), .second, .val (.int ((own_fmod qn (1000000000 : Int64)).toInt32))] [(.ref b4)])) _
    exact retOut X4 hx Bd.returns rfl (Or.inr (Or.inr (Or.inr (Or.inr ⟨rfl, rfl, rfl⟩)))) (hb hby d11_30) hr
  · show QD Z (qs + (own_fdiv qn (1000000000 : Int64))) ((own_fmod qn (1000000000 : Int64)).toInt32) h0 n0 _ T4.heap _
    exact ⟨b4, rfl, N4, Ex4, A4, Fs4, Fn4⟩
theorem d9_0 : decode jdk_2316_method_35_code 0 = .ok (.lload_n 1, 1) := by decide +kernel
theorem d9_1 : decode jdk_2316_method_35_code 1 = .ok (.lload_n 3, 1) := by decide +kernel
theorem d9_2 : decode jdk_2316_method_35_code 2 = .ok (.lor, 1) := by decide +kernel
theorem d9_3 : decode jdk_2316_method_35_code 3 = .ok (.lconst 0, 1) := by decide +kernel
theorem d9_4 : decode jdk_2316_method_35_code 4 = .ok (.lcmp, 1) := by decide +kernel
theorem d9_5 : decode jdk_2316_method_35_code 5 = .ok (.ifCond .ne 5, 3) := by decide +kernel
theorem d9_10 : decode jdk_2316_method_35_code 10 = .ok (.aload_n 0, 1) := by decide +kernel
theorem d9_11 : decode jdk_2316_method_35_code 11 = .ok (.getfield 221, 3) := by decide +kernel
theorem d9_14 : decode jdk_2316_method_35_code 14 = .ok (.lload_n 1, 1) := by decide +kernel
theorem d9_15 : decode jdk_2316_method_35_code 15 = .ok (.invokestatic 22, 3) := by decide +kernel
theorem d9_18 : decode jdk_2316_method_35_code 18 = .ok (.lstore 5, 2) := by decide +kernel
theorem d9_20 : decode jdk_2316_method_35_code 20 = .ok (.lload 5, 2) := by decide +kernel
theorem d9_22 : decode jdk_2316_method_35_code 22 = .ok (.lload_n 3, 1) := by decide +kernel
theorem d9_23 : decode jdk_2316_method_35_code 23 = .ok (.ldc2_w 16, 3) := by decide +kernel
theorem d9_26 : decode jdk_2316_method_35_code 26 = .ok (.ldiv, 1) := by decide +kernel
theorem d9_27 : decode jdk_2316_method_35_code 27 = .ok (.invokestatic 22, 3) := by decide +kernel
theorem d9_30 : decode jdk_2316_method_35_code 30 = .ok (.lstore 5, 2) := by decide +kernel
theorem d9_32 : decode jdk_2316_method_35_code 32 = .ok (.lload_n 3, 1) := by decide +kernel
theorem d9_33 : decode jdk_2316_method_35_code 33 = .ok (.ldc2_w 16, 3) := by decide +kernel
theorem d9_36 : decode jdk_2316_method_35_code 36 = .ok (.lrem, 1) := by decide +kernel
theorem d9_37 : decode jdk_2316_method_35_code 37 = .ok (.lstore_n 3, 1) := by decide +kernel
theorem d9_38 : decode jdk_2316_method_35_code 38 = .ok (.aload_n 0, 1) := by decide +kernel
theorem d9_39 : decode jdk_2316_method_35_code 39 = .ok (.getfield 224, 3) := by decide +kernel
theorem d9_42 : decode jdk_2316_method_35_code 42 = .ok (.i2l, 1) := by decide +kernel
theorem d9_43 : decode jdk_2316_method_35_code 43 = .ok (.lload_n 3, 1) := by decide +kernel
theorem d9_44 : decode jdk_2316_method_35_code 44 = .ok (.ladd, 1) := by decide +kernel
theorem d9_45 : decode jdk_2316_method_35_code 45 = .ok (.lstore 7, 2) := by decide +kernel
theorem d9_47 : decode jdk_2316_method_35_code 47 = .ok (.lload 5, 2) := by decide +kernel
theorem d9_49 : decode jdk_2316_method_35_code 49 = .ok (.lload 7, 2) := by decide +kernel
theorem d9_51 : decode jdk_2316_method_35_code 51 = .ok (.invokestatic 176, 3) := by decide +kernel
theorem pdm_3 : parseMethodDescriptor "(JJ)Ljava/time/Duration;" = some ⟨[.long, .long], some (.object "java/time/Duration")⟩ := by decide +kernel
theorem d9_54 : decode jdk_2316_method_35_code 54 = .ok (.areturn, 1) := by decide +kernel
theorem ef_rm9 (m : MethodId) (ak : Addr) (qs : Int64) (qn : Int64) : entryFrame m #[(.ref ak), (.long qs), (.long qn)] 9 = mkF m 0 #[.val (.ref ak), .val (.long qs), .second, .val (.long qn), .second, .unset, .unset, .unset, .unset] [] := by first | (simp [entryFrame, mkF, argsToLocals, Value.category]; done) | rfl
set_option maxRecDepth 65536 in
set_option maxHeartbeats 40000000 in
theorem rm9 (l : Launch) (Z : State) (a0 : Array Value) (hw : ∀ d ∈ tables_1, d.before a0 Z = true) (ws : List Jvm.Cond) (ak : Addr) (qs : Int64) (qn : Int64) (sv : Int64) (nv : Int32) (w_Z : Addr) (h0 : Heap) (n0 : Nat) (Z0 : n0 ≤ h0.size) (E_ak : Exa Z h0 ak "java/time/Duration") (F_aks : Fld Z h0 ak "java/time/Duration" "seconds" "J" (.long sv)) (F_akn : Fld Z h0 ak "java/time/Duration" "nanos" "I" (.int nv)) (S_Z : Sta Z h0 "java/time/Duration" "ZERO" "Ljava/time/Duration;" (.ref w_Z)) (E_Z : Exa Z h0 w_Z "java/time/Duration") (F_Zs : Fld Z h0 w_Z "java/time/Duration" "seconds" "J" (.long (0 : Int64))) (F_Zn : Fld Z h0 w_Z "java/time/Duration" "nanos" "I" (.int (0 : Int32))) (hnz : ¬ (qs ||| qn) = (0 : Int64)) (hno1 : own_fit sv qs) (hno2 : own_fit (sv + qs) (qn / (1000000000 : Int64))) (hno3 : own_fit ((sv + qs) + (qn / (1000000000 : Int64))) (own_fdiv ((nv.toInt64) + (qn - (qn / (1000000000 : Int64)) * (1000000000 : Int64))) (1000000000 : Int64))) :
    MetFree l (⟨"java/time/Duration", "plus", "(JJ)Ljava/time/Duration;"⟩ : MethodName) (head1 (Jvm.Cond.code (⟨"java/time/Duration", "plus", "(JJ)Ljava/time/Duration;"⟩ : MethodName) jdk_2316_method_35_code 9 (some (.object "java/time/Duration")) :: ws) ({ frames := 4, cells := 1, slots := 2, locals := 60 } : Room)) (fun a U => a = #[(.ref ak), (.long qs), (.long qn)] ∧ Z.Warmed39 U.vm ∧ U.heap = h0) (fun _ _ _ _ _ => True) (fun _ U o U' => ∃ v L, o = .returned v ∧ QD Z (((sv + qs) + (qn / (1000000000 : Int64))) + (own_fdiv ((nv.toInt64) + (qn - (qn / (1000000000 : Int64)) * (1000000000 : Int64))) (1000000000 : Int64))) ((own_fmod ((nv.toInt64) + (qn - (qn / (1000000000 : Int64)) * (1000000000 : Int64))) (1000000000 : Int64)).toInt32) h0 n0 v U'.heap L ∧ FrameEnd U o U' L ({ frames := 4, cells := 1, slots := 2, locals := 60 } : Room).cells ({ frames := 4, cells := 1, slots := 2, locals := 60 } : Room).slots) := by
  refine MetFree.of_bodySF (plainFor_of_name pnm_0) hisR ?_
  intro p e s m args below meth c s₁ Bd hml0 hP hK
  obtain ⟨rfl, hZ, hh⟩ := hP
  have hx := Bd.exec
  have hby := Bd.bytes
  have hml : c.maxLocals = 9 := hml0
  have hown : s.vm.findClass "java/time/Duration" = some m.cls := findClass_of_methodNamed Bd.named
  have hnm := (name_of_methodNamed Bd.named Bd.method).1
  have X0 : Stand p l e ({ frames := 4, cells := 1, slots := 2, locals := 60 } : Room) s m #[(.ref ak), (.long qs), (.long qn)] below meth c s₁ [] 0 0 := Stand.of_body Bd
  have e0 : s₁.heap = h0 := by rw [← hh, Bd.state]; rfl
  have N0 := Fr.nil n0
  have pre0 : ∀ t, Steps p.tables e below (s₁.setTop (mkF m 0 #[.val (.ref ak), .val (.long qs), .second, .val (.long qn), .second, .unset, .unset, .unset, .unset] [])) t → Steps p.tables e below (s₁.setTop (entryFrame m #[(.ref ak), (.long qs), (.long qn)] 9)) t := fun t k => castTop (ef_rm9 m ak qs qn) k
  obtain ⟨T1, X1, e1, st1⟩ := getF X0 hx hZ hown (host := "") (Or.inl (hw _ (List.mem_of_getElem? (i := 25) rfl))) Via.refl e0 F_aks (g := (mkF m 11 #[.val (.ref ak), .val (.long qs), .second, .val (.long qn), .second, .unset, .unset, .unset, .unset] [(.ref ak)])) rfl rfl (hb hby d9_11)
  obtain ⟨_, _, ⟨T2, L2, k2, n2⟩, -, X2, ⟨Lc2, hQ2, l2, y2, z2⟩, st2⟩ := Jvm.LawKit.callS X1 hx (y := (⟨"java/lang/Math", "addExact", "(JJ)J"⟩ : MethodName)) hown (mvT hZ (hw _ (List.mem_of_getElem? (i := 51) rfl))) (mvT hZ (hw _ (List.mem_of_getElem? (i := 52) rfl))) (mvT hZ (hw _ (List.mem_of_getElem? (i := 53) rfl))) (mvT hZ (hw _ (List.mem_of_getElem? (i := 54) rfl))) (by decide) (backOf (W := 0) (rm10 l Z a0 hw [] sv qs h0 n0 Z0 hno1 (sv + qs) rfl) hZ (hw _ (List.mem_of_getElem? (i := 54) rfl)) (hw _ (List.mem_of_getElem? (i := 53) rfl)) (by decide) (by decide)) (g := (mkF m 15 #[.val (.ref ak), .val (.long qs), .second, .val (.long qn), .second, .unset, .unset, .unset, .unset] [(.long qs), (.long sv)])) rfl (by rw [hml]; rfl) (argsL := [(.long sv), (.long qs)]) (rest := []) (lenOf pdm_2 rfl) rfl (by show 2 * 0 + _ ≤ _; exact Nat.le_of_eq rfl) (hb hby d9_15) (fun _ _ => ⟨rfl, e1, (by decide : 0 + 0 ≤ _), (by decide : 0 + 0 ≤ _)⟩)
  dsimp only [Pt.U, Pt.locs, Pt.cells, Pt.slots] at X2 l2 y2 z2 st2 hQ2
  subst l2 y2 z2
  obtain ⟨rfl, N2q, e2⟩ := hQ2
  have N2 := Fr.app N0 N2q
  obtain ⟨_, _, ⟨T3, L3, k3, n3⟩, -, X3, ⟨Lc3, hQ3, l3, y3, z3⟩, st3⟩ := Jvm.LawKit.callS X2 hx (y := (⟨"java/lang/Math", "addExact", "(JJ)J"⟩ : MethodName)) hown (mvT hZ (hw _ (List.mem_of_getElem? (i := 51) rfl))) (mvT hZ (hw _ (List.mem_of_getElem? (i := 52) rfl))) (mvT hZ (hw _ (List.mem_of_getElem? (i := 53) rfl))) (mvT hZ (hw _ (List.mem_of_getElem? (i := 54) rfl))) (by decide) (backOf (W := 0) (rm10 l Z a0 hw [] (sv + qs) (qn / (1000000000 : Int64)) h0 n0 Z0 hno2 ((sv + qs) + (qn / (1000000000 : Int64))) rfl) hZ (hw _ (List.mem_of_getElem? (i := 54) rfl)) (hw _ (List.mem_of_getElem? (i := 53) rfl)) (by decide) (by decide)) (g := (mkF m 27 #[.val (.ref ak), .val (.long qs), .second, .val (.long qn), .second, .val (.long (sv + qs)), .second, .unset, .unset] [(.long (qn / (1000000000 : Int64))), (.long (sv + qs))])) rfl (by rw [hml]; rfl) (argsL := [(.long (sv + qs)), (.long (qn / (1000000000 : Int64)))]) (rest := []) (lenOf pdm_2 rfl) rfl (by show 2 * 0 + _ ≤ _; exact Nat.le_of_eq rfl) (hb hby d9_27) (fun _ _ => ⟨rfl, e2, (by decide : 0 + 0 ≤ _), (by decide : 0 + 0 ≤ _)⟩)
  dsimp only [Pt.U, Pt.locs, Pt.cells, Pt.slots] at X3 l3 y3 z3 st3 hQ3
  subst l3 y3 z3
  obtain ⟨rfl, N3q, e3⟩ := hQ3
  have N3 := Fr.app N2 N3q
  obtain ⟨T4, X4, e4, st4⟩ := getF X3 hx hZ hown (host := "") (Or.inl (hw _ (List.mem_of_getElem? (i := 27) rfl))) Via.refl e3 F_akn (g := (mkF m 39 #[.val (.ref ak), .val (.long qs), .second, .val (.long (qn - (qn / (1000000000 : Int64)) * (1000000000 : Int64))), .second, .val (.long ((sv + qs) + (qn / (1000000000 : Int64)))), .second, .unset, .unset] [(.ref ak)])) rfl rfl (hb hby d9_39)
  obtain ⟨_, _, ⟨T5, L5, k5, n5⟩, -, X5, ⟨Lc5, hQ5, l5, y5, z5⟩, st5⟩ := Jvm.LawKit.callS X4 hx (y := (⟨"java/time/Duration", "ofSeconds", "(JJ)Ljava/time/Duration;"⟩ : MethodName)) hown (mvT hZ (hw _ (List.mem_of_getElem? (i := 56) rfl))) (mvT hZ (hw _ (List.mem_of_getElem? (i := 57) rfl))) (mvT hZ (hw _ (List.mem_of_getElem? (i := 9) rfl))) (mvT hZ (hw _ (List.mem_of_getElem? (i := 58) rfl))) (by decide) (backOf (W := 0) (rm11 l Z a0 hw [] ((sv + qs) + (qn / (1000000000 : Int64))) ((nv.toInt64) + (qn - (qn / (1000000000 : Int64)) * (1000000000 : Int64))) w_Z h0 n0 Z0 S_Z E_Z F_Zs F_Zn hno3) hZ (hw _ (List.mem_of_getElem? (i := 58) rfl)) (hw _ (List.mem_of_getElem? (i := 9) rfl)) (by decide) (by decide)) (g := (mkF m 51 #[.val (.ref ak), .val (.long qs), .second, .val (.long (qn - (qn / (1000000000 : Int64)) * (1000000000 : Int64))), .second, .val (.long ((sv + qs) + (qn / (1000000000 : Int64)))), .second, .val (.long ((nv.toInt64) + (qn - (qn / (1000000000 : Int64)) * (1000000000 : Int64)))), .second] [(.long ((nv.toInt64) + (qn - (qn / (1000000000 : Int64)) * (1000000000 : Int64)))), (.long ((sv + qs) + (qn / (1000000000 : Int64))))])) rfl (by rw [hml]; rfl) (argsL := [(.long ((sv + qs) + (qn / (1000000000 : Int64)))), (.long ((nv.toInt64) + (qn - (qn / (1000000000 : Int64)) * (1000000000 : Int64))))]) (rest := []) (lenOf pdm_3 rfl) rfl (by show 2 * 0 + _ ≤ _; exact Nat.le_of_eq rfl) (hb hby d9_51) (fun _ _ => ⟨rfl, e4, (by decide : 0 + 1 ≤ _), (by decide : 0 + 2 ≤ _)⟩)
  dsimp only [Pt.U, Pt.locs, Pt.cells, Pt.slots] at X5 l5 y5 z5 st5 hQ5
  subst l5 y5 z5
  obtain ⟨b5, rfl, N5q, Ex5, A5, Fs5, Fn5⟩ := hQ5
  have N5 := Fr.app N3 N5q
  obtain ⟨fs, hr, hrun, hended, hW, hsame⟩ := X5.leave (v := some (.ref b5)) (fun h => by rw [Bd.returns] at h; cases h)
  refine ⟨_, _, pre0 _ ?_, hrun, hended, _, _, rfl, ?_, ⟨_, rfl⟩, hW, hsame.mono (by decide) (by decide)⟩
  · show Steps p.tables e below (s₁.setTop (mkF m 0 #[.val (.ref ak), .val (.long qs), .second, .val (.long qn), .second, .unset, .unset, .unset, .unset] [])) _
    refine XS.lloadN X0.here hx rfl (hb hby d9_0) rfl ?_
    show Steps p.tables e below (s₁.setTop (mkF m 1 #[.val (.ref ak), .val (.long qs), .second, .val (.long qn), .second, .unset, .unset, .unset, .unset] [(.long qs)])) _
    refine XS.lloadN X0.here hx rfl (hb hby d9_1) rfl ?_
    show Steps p.tables e below (s₁.setTop (mkF m 2 #[.val (.ref ak), .val (.long qs), .second, .val (.long qn), .second, .unset, .unset, .unset, .unset] [(.long qn), (.long qs)])) _
    refine XS.lor X0.here hx rfl (hb hby d9_2) rfl ?_
    show Steps p.tables e below (s₁.setTop (mkF m 3 #[.val (.ref ak), .val (.long qs), .second, .val (.long qn), .second, .unset, .unset, .unset, .unset] [(.long (qs ||| qn))])) _
    refine XS.lconst X0.here hx rfl (hb hby d9_3) ?_
    show Steps p.tables e below (s₁.setTop (mkF m 4 #[.val (.ref ak), .val (.long qs), .second, .val (.long qn), .second, .unset, .unset, .unset, .unset] [(.long (0 : Int64)), (.long (qs ||| qn))])) _
    refine XS.lcmp X0.here hx rfl (hb hby d9_4) rfl ?_
    show Steps p.tables e below (s₁.setTop (mkF m 5 #[.val (.ref ak), .val (.long qs), .second, .val (.long qn), .second, .unset, .unset, .unset, .unset] [(.int (lcmpW (qs ||| qn) (0 : Int64)))])) _
    refine XS.ifYes X0.here hx rfl (pc0 := 5) (pc' := 10) rfl (hb hby d9_5) rfl ((if0 _ _).trans (feq (fun q => (hnz) ((lw_eq (qs ||| qn) (0 : Int64)).mp q))).2) (by decide) (by decide) ?_
    show Steps p.tables e below (s₁.setTop (mkF m 10 #[.val (.ref ak), .val (.long qs), .second, .val (.long qn), .second, .unset, .unset, .unset, .unset] [])) _
    refine XS.aloadN X0.here hx rfl (hb hby d9_10) rfl rfl ?_
    show Steps p.tables e below (s₁.setTop (mkF m 11 #[.val (.ref ak), .val (.long qs), .second, .val (.long qn), .second, .unset, .unset, .unset, .unset] [(.ref ak)])) _
    refine st1 _ ?_
    show Steps p.tables e below (T1.setTop (mkF m 14 #[.val (.ref ak), .val (.long qs), .second, .val (.long qn), .second, .unset, .unset, .unset, .unset] [(.long sv)])) _
    refine XS.lloadN X1.here hx rfl (hb hby d9_14) rfl ?_
    show Steps p.tables e below (T1.setTop (mkF m 15 #[.val (.ref ak), .val (.long qs), .second, .val (.long qn), .second, .unset, .unset, .unset, .unset] [(.long qs), (.long sv)])) _
    refine st2 _ ?_
    show Steps p.tables e below (T2.setTop (mkF m 18 #[.val (.ref ak), .val (.long qs), .second, .val (.long qn), .second, .unset, .unset, .unset, .unset] [(.long (sv + qs))])) _
    refine XS.lstore X2.here hx rfl (hb hby d9_18) rfl (l' := #[.val (.ref ak), .val (.long qs), .second, .val (.long qn), .second, .val (.long (sv + qs)), .second, .unset, .unset]) rfl ?_
    show Steps p.tables e below (T2.setTop (mkF m 20 #[.val (.ref ak), .val (.long qs), .second, .val (.long qn), .second, .val (.long (sv + qs)), .second, .unset, .unset] [])) _
    refine XS.lload X2.here hx rfl (hb hby d9_20) rfl ?_
    show Steps p.tables e below (T2.setTop (mkF m 22 #[.val (.ref ak), .val (.long qs), .second, .val (.long qn), .second, .val (.long (sv + qs)), .second, .unset, .unset] [(.long (sv + qs))])) _
    refine XS.lloadN X2.here hx rfl (hb hby d9_22) rfl ?_
    show Steps p.tables e below (T2.setTop (mkF m 23 #[.val (.ref ak), .val (.long qs), .second, .val (.long qn), .second, .val (.long (sv + qs)), .second, .unset, .unset] [(.long qn), (.long (sv + qs))])) _
    refine X2.ldc2Long hx hown (mvT hZ (hw _ (List.mem_of_getElem? (i := 55) rfl))) (g := (mkF m 23 #[.val (.ref ak), .val (.long qs), .second, .val (.long qn), .second, .val (.long (sv + qs)), .second, .unset, .unset] [(.long qn), (.long (sv + qs))])) rfl (hb hby d9_23) _ ?_
    show Steps p.tables e below (T2.setTop (mkF m 26 #[.val (.ref ak), .val (.long qs), .second, .val (.long qn), .second, .val (.long (sv + qs)), .second, .unset, .unset] [(.long (1000000000 : Int64)), (.long qn), (.long (sv + qs))])) _
    refine XS.ldiv X2.here hx rfl (hb hby d9_26) rfl (by decide) ?_
    show Steps p.tables e below (T2.setTop (mkF m 27 #[.val (.ref ak), .val (.long qs), .second, .val (.long qn), .second, .val (.long (sv + qs)), .second, .unset, .unset] [(.long (qn / (1000000000 : Int64))), (.long (sv + qs))])) _
    refine st3 _ ?_
    show Steps p.tables e below (T3.setTop (mkF m 30 #[.val (.ref ak), .val (.long qs), .second, .val (.long qn), .second, .val (.long (sv + qs)), .second, .unset, .unset] [(.long ((sv + qs) + (qn / (1000000000 : Int64))))])) _
    refine XS.lstore X3.here hx rfl (hb hby d9_30) rfl (l' := #[.val (.ref ak), .val (.long qs), .second, .val (.long qn), .second, .val (.long ((sv + qs) + (qn / (1000000000 : Int64)))), .second, .unset, .unset]) rfl ?_
    show Steps p.tables e below (T3.setTop (mkF m 32 #[.val (.ref ak), .val (.long qs), .second, .val (.long qn), .second, .val (.long ((sv + qs) + (qn / (1000000000 : Int64)))), .second, .unset, .unset] [])) _
    refine XS.lloadN X3.here hx rfl (hb hby d9_32) rfl ?_
    show Steps p.tables e below (T3.setTop (mkF m 33 #[.val (.ref ak), .val (.long qs), .second, .val (.long qn), .second, .val (.long ((sv + qs) + (qn / (1000000000 : Int64)))), .second, .unset, .unset] [(.long qn)])) _
    refine X3.ldc2Long hx hown (mvT hZ (hw _ (List.mem_of_getElem? (i := 55) rfl))) (g := (mkF m 33 #[.val (.ref ak), .val (.long qs), .second, .val (.long qn), .second, .val (.long ((sv + qs) + (qn / (1000000000 : Int64)))), .second, .unset, .unset] [(.long qn)])) rfl (hb hby d9_33) _ ?_
    show Steps p.tables e below (T3.setTop (mkF m 36 #[.val (.ref ak), .val (.long qs), .second, .val (.long qn), .second, .val (.long ((sv + qs) + (qn / (1000000000 : Int64)))), .second, .unset, .unset] [(.long (1000000000 : Int64)), (.long qn)])) _
    refine XS.lrem X3.here hx rfl (hb hby d9_36) rfl (by decide) ?_
    show Steps p.tables e below (T3.setTop (mkF m 37 #[.val (.ref ak), .val (.long qs), .second, .val (.long qn), .second, .val (.long ((sv + qs) + (qn / (1000000000 : Int64)))), .second, .unset, .unset] [(.long (qn - (qn / (1000000000 : Int64)) * (1000000000 : Int64)))])) _
    refine XS.lstoreN X3.here hx rfl (hb hby d9_37) rfl (l' := #[.val (.ref ak), .val (.long qs), .second, .val (.long (qn - (qn / (1000000000 : Int64)) * (1000000000 : Int64))), .second, .val (.long ((sv + qs) + (qn / (1000000000 : Int64)))), .second, .unset, .unset]) rfl ?_
    show Steps p.tables e below (T3.setTop (mkF m 38 #[.val (.ref ak), .val (.long qs), .second, .val (.long (qn - (qn / (1000000000 : Int64)) * (1000000000 : Int64))), .second, .val (.long ((sv + qs) + (qn / (1000000000 : Int64)))), .second, .unset, .unset] [])) _
    refine XS.aloadN X3.here hx rfl (hb hby d9_38) rfl rfl ?_
    show Steps p.tables e below (T3.setTop (mkF m 39 #[.val (.ref ak), .val (.long qs), .second, .val (.long (qn - (qn / (1000000000 : Int64)) * (1000000000 : Int64))), .second, .val (.long ((sv + qs) + (qn / (1000000000 : Int64)))), .second, .unset, .unset] [(.ref ak)])) _
    refine st4 _ ?_
    show Steps p.tables e below (T4.setTop (mkF m 42 #[.val (.ref ak), .val (.long qs), .second, .val (.long (qn - (qn / (1000000000 : Int64)) * (1000000000 : Int64))), .second, .val (.long ((sv + qs) + (qn / (1000000000 : Int64)))), .second, .unset, .unset] [(.int nv)])) _
    refine XS.i2l X4.here hx rfl (hb hby d9_42) rfl ?_
    show Steps p.tables e below (T4.setTop (mkF m 43 #[.val (.ref ak), .val (.long qs), .second, .val (.long (qn - (qn / (1000000000 : Int64)) * (1000000000 : Int64))), .second, .val (.long ((sv + qs) + (qn / (1000000000 : Int64)))), .second, .unset, .unset] [(.long (nv.toInt64))])) _
    refine XS.lloadN X4.here hx rfl (hb hby d9_43) rfl ?_
    show Steps p.tables e below (T4.setTop (mkF m 44 #[.val (.ref ak), .val (.long qs), .second, .val (.long (qn - (qn / (1000000000 : Int64)) * (1000000000 : Int64))), .second, .val (.long ((sv + qs) + (qn / (1000000000 : Int64)))), .second, .unset, .unset] [(.long (qn - (qn / (1000000000 : Int64)) * (1000000000 : Int64))), (.long (nv.toInt64))])) _
    refine XS.ladd X4.here hx rfl (hb hby d9_44) rfl ?_
    show Steps p.tables e below (T4.setTop (mkF m 45 #[.val (.ref ak), .val (.long qs), .second, .val (.long (qn - (qn / (1000000000 : Int64)) * (1000000000 : Int64))), .second, .val (.long ((sv + qs) + (qn / (1000000000 : Int64)))), .second, .unset, .unset] [(.long ((nv.toInt64) + (qn - (qn / (1000000000 : Int64)) * (1000000000 : Int64))))])) _
    refine XS.lstore X4.here hx rfl (hb hby d9_45) rfl (l' := #[.val (.ref ak), .val (.long qs), .second, .val (.long (qn - (qn / (1000000000 : Int64)) * (1000000000 : Int64))), .second, .val (.long ((sv + qs) + (qn / (1000000000 : Int64)))), .second, .val (.long ((nv.toInt64) + (qn - (qn / (1000000000 : Int64)) * (1000000000 : Int64)))), .second]) rfl ?_
    show Steps p.tables e below (T4.setTop (mkF m 47 #[.val (.ref ak), .val (.long qs), .second, .val (.long (qn - (qn / (1000000000 : Int64)) * (1000000000 : Int64))), .second, .val (.long ((sv + qs) + (qn / (1000000000 : Int64)))), .second, .val (.long ((nv.toInt64) + (qn - (qn / (1000000000 : Int64)) * (1000000000 : Int64)))), .second] [])) _
    refine XS.lload X4.here hx rfl (hb hby d9_47) rfl ?_
    show Steps p.tables e below (T4.setTop (mkF m 49 #[.val (.ref ak), .val (.long qs), .second, .val (.long (qn - (qn / (1000000000 : Int64)) * (1000000000 : Int64))), .second, .val (.long ((sv + qs) + (qn / (1000000000 : Int64)))), .second, .val (.long ((nv.toInt64) + (qn - (qn / (1000000000 : Int64)) * (1000000000 : Int64)))), .second] [(.long ((sv + qs) + (qn / (1000000000 : Int64))))])) _
    refine XS.lload X4.here hx rfl (hb hby d9_49) rfl ?_
    show Steps p.tables e below (T4.setTop (mkF m 51 #[.val (.ref ak), .val (.long qs), .second, .val (.long (qn - (qn / (1000000000 : Int64)) * (1000000000 : Int64))), .second, .val (.long ((sv + qs) + (qn / (1000000000 : Int64)))), .second, .val (.long ((nv.toInt64) + (qn - (qn / (1000000000 : Int64)) * (1000000000 : Int64)))), .second] [(.long ((nv.toInt64) + (qn - (qn / (1000000000 : Int64)) * (1000000000 : Int64)))), (.long ((sv + qs) + (qn / (1000000000 : Int64))))])) _
    refine st5 _ ?_
    show Steps p.tables e below (T5.setTop (mkF m 54 #[.val (.ref ak), .val (.long qs), .second, .val (.long (qn - (qn / (1000000000 : Int64)) * (1000000000 : Int64))), .second, .val (.long ((sv + qs) + (qn / (1000000000 : Int64)))), .second, .val (.long ((nv.toInt64) + (qn - (qn / (1000000000 : Int64)) * (1000000000 : Int64)))), .second] [(.ref b5)])) _
    exact retOut X5 hx Bd.returns rfl (Or.inr (Or.inr (Or.inr (Or.inr ⟨rfl, rfl, rfl⟩)))) (hb hby d9_54) hr
  · show QD Z (((sv + qs) + (qn / (1000000000 : Int64))) + (own_fdiv ((nv.toInt64) + (qn - (qn / (1000000000 : Int64)) * (1000000000 : Int64))) (1000000000 : Int64))) ((own_fmod ((nv.toInt64) + (qn - (qn / (1000000000 : Int64)) * (1000000000 : Int64))) (1000000000 : Int64)).toInt32) h0 n0 _ T5.heap _
    exact ⟨b5, rfl, N5, Ex5, A5, Fs5, Fn5⟩
theorem d6_0 : decode jdk_2316_method_27_code 0 = .ok (.aload_n 0, 1) := by decide +kernel
theorem d6_1 : decode jdk_2316_method_27_code 1 = .ok (.aload_n 1, 1) := by decide +kernel
theorem d6_2 : decode jdk_2316_method_27_code 2 = .ok (.invokevirtual 248, 3) := by decide +kernel
theorem pdm_4 : parseMethodDescriptor "()J" = some ⟨[], some .long⟩ := by decide +kernel
theorem d6_5 : decode jdk_2316_method_27_code 5 = .ok (.aload_n 1, 1) := by decide +kernel
theorem d6_6 : decode jdk_2316_method_27_code 6 = .ok (.invokevirtual 252, 3) := by decide +kernel
theorem pdm_5 : parseMethodDescriptor "()I" = some ⟨[], some .int⟩ := by decide +kernel
theorem d6_9 : decode jdk_2316_method_27_code 9 = .ok (.i2l, 1) := by decide +kernel
theorem d6_10 : decode jdk_2316_method_27_code 10 = .ok (.invokevirtual 256, 3) := by decide +kernel
theorem d6_13 : decode jdk_2316_method_27_code 13 = .ok (.areturn, 1) := by decide +kernel
theorem ef_rm6 (m : MethodId) (ak : Addr) (al : Addr) : entryFrame m #[(.ref ak), (.ref al)] 2 = mkF m 0 #[.val (.ref ak), .val (.ref al)] [] := by first | (simp [entryFrame, mkF, argsToLocals, Value.category]; done) | rfl
set_option maxRecDepth 65536 in
set_option maxHeartbeats 40000000 in
theorem rm6 (l : Launch) (Z : State) (a0 : Array Value) (hw : ∀ d ∈ tables_1, d.before a0 Z = true) (ws : List Jvm.Cond) (ak : Addr) (al : Addr) (sv : Int64) (nv : Int32) (w_Z : Addr) (h0 : Heap) (n0 : Nat) (Z0 : n0 ≤ h0.size) (E_ak : Exa Z h0 ak "java/time/Duration") (F_aks : Fld Z h0 ak "java/time/Duration" "seconds" "J" (.long sv)) (F_akn : Fld Z h0 ak "java/time/Duration" "nanos" "I" (.int nv)) (E_al : Exa Z h0 al "java/time/Duration") (F_als : Fld Z h0 al "java/time/Duration" "seconds" "J" (.long (0 : Int64))) (F_aln : Fld Z h0 al "java/time/Duration" "nanos" "I" (.int (1000000 : Int32))) (S_Z : Sta Z h0 "java/time/Duration" "ZERO" "Ljava/time/Duration;" (.ref w_Z)) (E_Z : Exa Z h0 w_Z "java/time/Duration") (F_Zs : Fld Z h0 w_Z "java/time/Duration" "seconds" "J" (.long (0 : Int64))) (F_Zn : Fld Z h0 w_Z "java/time/Duration" "nanos" "I" (.int (0 : Int32))) (hno1 : own_fit sv (0 : Int64)) (hno2 : own_fit (sv + (0 : Int64)) (((1000000 : Int32).toInt64) / (1000000000 : Int64))) (hno3 : own_fit ((sv + (0 : Int64)) + (((1000000 : Int32).toInt64) / (1000000000 : Int64))) (own_fdiv ((nv.toInt64) + (((1000000 : Int32).toInt64) - (((1000000 : Int32).toInt64) / (1000000000 : Int64)) * (1000000000 : Int64))) (1000000000 : Int64))) :
    MetFree l (⟨"java/time/Duration", "plus", "(Ljava/time/Duration;)Ljava/time/Duration;"⟩ : MethodName) (head1 (Jvm.Cond.code (⟨"java/time/Duration", "plus", "(Ljava/time/Duration;)Ljava/time/Duration;"⟩ : MethodName) jdk_2316_method_27_code 2 (some (.object "java/time/Duration")) :: ws) ({ frames := 5, cells := 1, slots := 2, locals := 80 } : Room)) (fun a U => a = #[(.ref ak), (.ref al)] ∧ Z.Warmed39 U.vm ∧ U.heap = h0) (fun _ _ _ _ _ => True) (fun _ U o U' => ∃ v L, o = .returned v ∧ QD Z (((sv + (0 : Int64)) + (((1000000 : Int32).toInt64) / (1000000000 : Int64))) + (own_fdiv ((nv.toInt64) + (((1000000 : Int32).toInt64) - (((1000000 : Int32).toInt64) / (1000000000 : Int64)) * (1000000000 : Int64))) (1000000000 : Int64))) ((own_fmod ((nv.toInt64) + (((1000000 : Int32).toInt64) - (((1000000 : Int32).toInt64) / (1000000000 : Int64)) * (1000000000 : Int64))) (1000000000 : Int64)).toInt32) h0 n0 v U'.heap L ∧ FrameEnd U o U' L ({ frames := 5, cells := 1, slots := 2, locals := 80 } : Room).cells ({ frames := 5, cells := 1, slots := 2, locals := 80 } : Room).slots) := by
  refine MetFree.of_bodySF (plainFor_of_name pnm_0) hisR ?_
  intro p e s m args below meth c s₁ Bd hml0 hP hK
  obtain ⟨rfl, hZ, hh⟩ := hP
  have hx := Bd.exec
  have hby := Bd.bytes
  have hml : c.maxLocals = 2 := hml0
  have hown : s.vm.findClass "java/time/Duration" = some m.cls := findClass_of_methodNamed Bd.named
  have hnm := (name_of_methodNamed Bd.named Bd.method).1
  have X0 : Stand p l e ({ frames := 5, cells := 1, slots := 2, locals := 80 } : Room) s m #[(.ref ak), (.ref al)] below meth c s₁ [] 0 0 := Stand.of_body Bd
  have e0 : s₁.heap = h0 := by rw [← hh, Bd.state]; rfl
  have N0 := Fr.nil n0
  have pre0 : ∀ t, Steps p.tables e below (s₁.setTop (mkF m 0 #[.val (.ref ak), .val (.ref al)] [])) t → Steps p.tables e below (s₁.setTop (entryFrame m #[(.ref ak), (.ref al)] 2)) t := fun t k => castTop (ef_rm6 m ak al) k
  obtain ⟨cq1, kq1, q1a, q1b, q1c⟩ := isOf hZ e0 E_al
  obtain ⟨_, _, ⟨T1, L1, k1, n1⟩, -, X1, ⟨Lc1, hQ1, l1, y1, z1⟩, st1⟩ := X0.virtualBack hx (y := (⟨"java/time/Duration", "getSeconds", "()J"⟩ : MethodName)) (z := (⟨"java/time/Duration", "getSeconds", "()J"⟩ : MethodName)) hown (mvT hZ (hw _ (List.mem_of_getElem? (i := 36) rfl))) (mvT hZ (hw _ (List.mem_of_getElem? (i := 37) rfl))) (notFace_of_selects (args := #[]) (mvT hZ (hw _ (List.mem_of_getElem? (i := 39) rfl)))) (mvT hZ (hw _ (List.mem_of_getElem? (i := 39) rfl))) (mvT hZ (hw _ (List.mem_of_getElem? (i := 38) rfl))) (by decide) (backOf (W := 1) (rm7 l Z a0 hw [] al (0 : Int64) h0 n0 Z0 F_als (0 : Int64) rfl) hZ (hw _ (List.mem_of_getElem? (i := 40) rfl)) (hw _ (List.mem_of_getElem? (i := 9) rfl)) (by decide) (by decide)) q1a q1c (g := (mkF m 2 #[.val (.ref ak), .val (.ref al)] [(.ref al), (.ref ak)])) rfl (by rw [hml]; rfl) (Steps.refl _) (argsL := []) (rest := [(.ref ak)]) (lenOf pdm_4 rfl) rfl (by show 2 * 0 + _ ≤ _; exact Nat.le_of_eq rfl) (hb hby d6_2) (fun _ _ => ⟨rfl, e0, (by decide : 0 + 0 ≤ _), (by decide : 0 + 0 ≤ _)⟩)
  dsimp only [Pt.U, Pt.locs, Pt.cells, Pt.slots] at X1 l1 y1 z1 st1 hQ1
  subst l1 y1 z1
  obtain ⟨rfl, N1q, e1⟩ := hQ1
  have N1 := Fr.app N0 N1q
  obtain ⟨cq2, kq2, q2a, q2b, q2c⟩ := isOf hZ e1 E_al
  obtain ⟨_, _, ⟨T2, L2, k2, n2⟩, -, X2, ⟨Lc2, hQ2, l2, y2, z2⟩, st2⟩ := X1.virtualBack hx (y := (⟨"java/time/Duration", "getNano", "()I"⟩ : MethodName)) (z := (⟨"java/time/Duration", "getNano", "()I"⟩ : MethodName)) hown (mvT hZ (hw _ (List.mem_of_getElem? (i := 41) rfl))) (mvT hZ (hw _ (List.mem_of_getElem? (i := 42) rfl))) (notFace_of_selects (args := #[]) (mvT hZ (hw _ (List.mem_of_getElem? (i := 44) rfl)))) (mvT hZ (hw _ (List.mem_of_getElem? (i := 44) rfl))) (mvT hZ (hw _ (List.mem_of_getElem? (i := 43) rfl))) (by decide) (backOf (W := 3) (rm8 l Z a0 hw [] al (1000000 : Int32) h0 n0 Z0 F_aln (1000000 : Int32) rfl) hZ (hw _ (List.mem_of_getElem? (i := 45) rfl)) (hw _ (List.mem_of_getElem? (i := 9) rfl)) (by decide) (by decide)) q2a q2c (g := (mkF m 6 #[.val (.ref ak), .val (.ref al)] [(.ref al), (.long (0 : Int64)), (.ref ak)])) rfl (by rw [hml]; rfl) (Steps.refl _) (argsL := []) (rest := [(.long (0 : Int64)), (.ref ak)]) (lenOf pdm_5 rfl) rfl (by show 2 * 0 + _ ≤ _; exact Nat.le_of_eq rfl) (hb hby d6_6) (fun _ _ => ⟨rfl, e1, (by decide : 0 + 0 ≤ _), (by decide : 0 + 0 ≤ _)⟩)
  dsimp only [Pt.U, Pt.locs, Pt.cells, Pt.slots] at X2 l2 y2 z2 st2 hQ2
  subst l2 y2 z2
  obtain ⟨rfl, N2q, e2⟩ := hQ2
  have N2 := Fr.app N1 N2q
  obtain ⟨cq3, q3, q3'⟩ := E_ak.cell
  obtain ⟨_, _, ⟨T3, L3, k3, n3⟩, -, X3, ⟨Lc3, hQ3, l3, y3, z3⟩, st3⟩ := X2.privateBack hx (y := (⟨"java/time/Duration", "plus", "(JJ)Ljava/time/Duration;"⟩ : MethodName)) hown (mvT hZ (hw _ (List.mem_of_getElem? (i := 46) rfl))) (mvT hZ (hw _ (List.mem_of_getElem? (i := 47) rfl))) (mvT hZ (hw _ (List.mem_of_getElem? (i := 49) rfl))) (Cond.privateMethod_at (mvP hZ (hw _ (List.mem_of_getElem? (i := 48) rfl)) (args := #[]))) (mvT hZ (hw _ (List.mem_of_getElem? (i := 50) rfl))) (by decide) (backOf (W := 0) (rm9 l Z a0 hw [] ak (0 : Int64) ((1000000 : Int32).toInt64) sv nv w_Z h0 n0 Z0 E_ak F_aks F_akn S_Z E_Z F_Zs F_Zn (by decide) hno1 hno2 hno3) hZ (hw _ (List.mem_of_getElem? (i := 50) rfl)) (hw _ (List.mem_of_getElem? (i := 9) rfl)) (by decide) (by decide)) (g := (mkF m 10 #[.val (.ref ak), .val (.ref al)] [(.long ((1000000 : Int32).toInt64)), (.long (0 : Int64)), (.ref ak)])) rfl (by rw [hml]; rfl) (Steps.refl _) (a := ak) (by rw [e2]; exact q3) q3' (argsL := [(.long (0 : Int64)), (.long ((1000000 : Int32).toInt64))]) (rest := []) (lenOf pdm_3 rfl) rfl (by show 2 * 0 + _ ≤ _; exact Nat.le_of_eq rfl) (hb hby d6_10) (fun _ _ => ⟨rfl, e2, (by decide : 0 + 1 ≤ _), (by decide : 0 + 2 ≤ _)⟩)
  dsimp only [Pt.U, Pt.locs, Pt.cells, Pt.slots] at X3 l3 y3 z3 st3 hQ3
  subst l3 y3 z3
  obtain ⟨b3, rfl, N3q, Ex3, A3, Fs3, Fn3⟩ := hQ3
  have N3 := Fr.app N2 N3q
  obtain ⟨fs, hr, hrun, hended, hW, hsame⟩ := X3.leave (v := some (.ref b3)) (fun h => by rw [Bd.returns] at h; cases h)
  refine ⟨_, _, pre0 _ ?_, hrun, hended, _, _, rfl, ?_, ⟨_, rfl⟩, hW, hsame.mono (by decide) (by decide)⟩
  · show Steps p.tables e below (s₁.setTop (mkF m 0 #[.val (.ref ak), .val (.ref al)] [])) _
    refine XS.aloadN X0.here hx rfl (hb hby d6_0) rfl rfl ?_
    show Steps p.tables e below (s₁.setTop (mkF m 1 #[.val (.ref ak), .val (.ref al)] [(.ref ak)])) _
    refine XS.aloadN X0.here hx rfl (hb hby d6_1) rfl rfl ?_
    show Steps p.tables e below (s₁.setTop (mkF m 2 #[.val (.ref ak), .val (.ref al)] [(.ref al), (.ref ak)])) _
    refine st1.trans ?_
    show Steps p.tables e below (T1.setTop (mkF m 5 #[.val (.ref ak), .val (.ref al)] [(.long (0 : Int64)), (.ref ak)])) _
    refine XS.aloadN X1.here hx rfl (hb hby d6_5) rfl rfl ?_
    show Steps p.tables e below (T1.setTop (mkF m 6 #[.val (.ref ak), .val (.ref al)] [(.ref al), (.long (0 : Int64)), (.ref ak)])) _
    refine st2.trans ?_
    show Steps p.tables e below (T2.setTop (mkF m 9 #[.val (.ref ak), .val (.ref al)] [(.int (1000000 : Int32)), (.long (0 : Int64)), (.ref ak)])) _
    refine XS.i2l X2.here hx rfl (hb hby d6_9) rfl ?_
    show Steps p.tables e below (T2.setTop (mkF m 10 #[.val (.ref ak), .val (.ref al)] [(.long ((1000000 : Int32).toInt64)), (.long (0 : Int64)), (.ref ak)])) _
    refine st3.trans ?_
    show Steps p.tables e below (T3.setTop (mkF m 13 #[.val (.ref ak), .val (.ref al)] [(.ref b3)])) _
    exact retOut X3 hx Bd.returns rfl (Or.inr (Or.inr (Or.inr (Or.inr ⟨rfl, rfl, rfl⟩)))) (hb hby d6_13) hr
  · show QD Z (((sv + (0 : Int64)) + (((1000000 : Int32).toInt64) / (1000000000 : Int64))) + (own_fdiv ((nv.toInt64) + (((1000000 : Int32).toInt64) - (((1000000 : Int32).toInt64) / (1000000000 : Int64)) * (1000000000 : Int64))) (1000000000 : Int64))) ((own_fmod ((nv.toInt64) + (((1000000 : Int32).toInt64) - (((1000000 : Int32).toInt64) / (1000000000 : Int64)) * (1000000000 : Int64))) (1000000000 : Int64)).toInt32) h0 n0 _ T3.heap _
    exact ⟨b3, rfl, N3, Ex3, A3, Fs3, Fn3⟩
theorem d15_0 : decode jdk_2316_method_66_code 0 = .ok (.aload_n 0, 1) := by decide +kernel
theorem d15_1 : decode jdk_2316_method_66_code 1 = .ok (.getfield 221, 3) := by decide +kernel
theorem d15_4 : decode jdk_2316_method_66_code 4 = .ok (.aload_n 1, 1) := by decide +kernel
theorem d15_5 : decode jdk_2316_method_66_code 5 = .ok (.getfield 221, 3) := by decide +kernel
theorem d15_8 : decode jdk_2316_method_66_code 8 = .ok (.invokestatic 416, 3) := by decide +kernel
theorem pdm_6 : parseMethodDescriptor "(JJ)I" = some ⟨[.long, .long], some .int⟩ := by decide +kernel
theorem d15_11 : decode jdk_2316_method_66_code 11 = .ok (.istore_n 2, 1) := by decide +kernel
theorem d15_12 : decode jdk_2316_method_66_code 12 = .ok (.iload_n 2, 1) := by decide +kernel
theorem d15_13 : decode jdk_2316_method_66_code 13 = .ok (.ifCond .eq 5, 3) := by decide +kernel
theorem d15_18 : decode jdk_2316_method_66_code 18 = .ok (.aload_n 0, 1) := by decide +kernel
theorem d15_19 : decode jdk_2316_method_66_code 19 = .ok (.getfield 224, 3) := by decide +kernel
theorem d15_22 : decode jdk_2316_method_66_code 22 = .ok (.aload_n 1, 1) := by decide +kernel
theorem d15_23 : decode jdk_2316_method_66_code 23 = .ok (.getfield 224, 3) := by decide +kernel
theorem d15_26 : decode jdk_2316_method_66_code 26 = .ok (.isub, 1) := by decide +kernel
theorem d15_27 : decode jdk_2316_method_66_code 27 = .ok (.ireturn, 1) := by decide +kernel
theorem d15_16 : decode jdk_2316_method_66_code 16 = .ok (.iload_n 2, 1) := by decide +kernel
theorem d15_17 : decode jdk_2316_method_66_code 17 = .ok (.ireturn, 1) := by decide +kernel
theorem ef_rm15 (m : MethodId) (ak : Addr) (al : Addr) : entryFrame m #[(.ref ak), (.ref al)] 3 = mkF m 0 #[.val (.ref ak), .val (.ref al), .unset] [] := by first | (simp [entryFrame, mkF, argsToLocals, Value.category]; done) | rfl
set_option maxRecDepth 65536 in
set_option maxHeartbeats 40000000 in
theorem rm15_t (l : Launch) (Z : State) (a0 : Array Value) (hw : ∀ d ∈ tables_1, d.before a0 Z = true) (ws : List Jvm.Cond) (ak : Addr) (al : Addr) (s1 : Int64) (n1 : Int32) (s2 : Int64) (n2 : Int32) (h0 : Heap) (n0 : Nat) (Z0 : n0 ≤ h0.size) (E_ak : Exa Z h0 ak "java/time/Duration") (F_aks : Fld Z h0 ak "java/time/Duration" "seconds" "J" (.long s1)) (F_akn : Fld Z h0 ak "java/time/Duration" "nanos" "I" (.int n1)) (E_al : Exa Z h0 al "java/time/Duration") (F_als : Fld Z h0 al "java/time/Duration" "seconds" "J" (.long s2)) (F_aln : Fld Z h0 al "java/time/Duration" "nanos" "I" (.int n2)) (r : Int32) (hr0 : r = (n1 - n2)) (hc13 : (own_cmp s1 s2) = (0 : Int32)) :
    MetFree l (⟨"java/time/Duration", "compareTo", "(Ljava/time/Duration;)I"⟩ : MethodName) (head1 (Jvm.Cond.code (⟨"java/time/Duration", "compareTo", "(Ljava/time/Duration;)I"⟩ : MethodName) jdk_2316_method_66_code 3 (some .int) :: ws) ({ frames := 1, cells := 0, slots := 0, locals := 15 } : Room)) (fun a U => a = #[(.ref ak), (.ref al)] ∧ Z.Warmed39 U.vm ∧ U.heap = h0) (fun _ _ _ _ _ => True) (fun _ U o U' => ∃ v L, o = .returned v ∧ QP (.int r) h0 n0 v U'.heap L ∧ FrameEnd U o U' L ({ frames := 1, cells := 0, slots := 0, locals := 15 } : Room).cells ({ frames := 1, cells := 0, slots := 0, locals := 15 } : Room).slots) := by
  rw [hr0]
  refine MetFree.of_bodySF (plainFor_of_name pnm_0) hisR ?_
  intro p e s m args below meth c s₁ Bd hml0 hP hK
  obtain ⟨rfl, hZ, hh⟩ := hP
  have hx := Bd.exec
  have hby := Bd.bytes
  have hml : c.maxLocals = 3 := hml0
  have hown : s.vm.findClass "java/time/Duration" = some m.cls := findClass_of_methodNamed Bd.named
  have hnm := (name_of_methodNamed Bd.named Bd.method).1
  have X0 : Stand p l e ({ frames := 1, cells := 0, slots := 0, locals := 15 } : Room) s m #[(.ref ak), (.ref al)] below meth c s₁ [] 0 0 := Stand.of_body Bd
  have e0 : s₁.heap = h0 := by rw [← hh, Bd.state]; rfl
  have N0 := Fr.nil n0
  have pre0 : ∀ t, Steps p.tables e below (s₁.setTop (mkF m 0 #[.val (.ref ak), .val (.ref al), .unset] [])) t → Steps p.tables e below (s₁.setTop (entryFrame m #[(.ref ak), (.ref al)] 3)) t := fun t k => castTop (ef_rm15 m ak al) k
  obtain ⟨T1, X1, e1, st1⟩ := getF X0 hx hZ hown (host := "") (Or.inl (hw _ (List.mem_of_getElem? (i := 25) rfl))) Via.refl e0 F_aks (g := (mkF m 1 #[.val (.ref ak), .val (.ref al), .unset] [(.ref ak)])) rfl rfl (hb hby d15_1)
  obtain ⟨T2, X2, e2, st2⟩ := getF X1 hx hZ hown (host := "") (Or.inl (hw _ (List.mem_of_getElem? (i := 25) rfl))) Via.refl e1 F_als (g := (mkF m 5 #[.val (.ref ak), .val (.ref al), .unset] [(.ref al), (.long s1)])) rfl rfl (hb hby d15_5)
  obtain ⟨_, _, ⟨T3, L3, k3, n3⟩, -, X3, ⟨Lc3, hQ3, l3, y3, z3⟩, st3⟩ := Jvm.LawKit.callS X2 hx (y := (⟨"java/lang/Long", "compare", "(JJ)I"⟩ : MethodName)) hown (mvT hZ (hw _ (List.mem_of_getElem? (i := 76) rfl))) (mvT hZ (hw _ (List.mem_of_getElem? (i := 77) rfl))) (mvT hZ (hw _ (List.mem_of_getElem? (i := 78) rfl))) (mvT hZ (hw _ (List.mem_of_getElem? (i := 79) rfl))) (by decide) (backOf (W := 0) (rm16 l Z a0 hw [] s1 s2 h0 n0 Z0  (own_cmp s1 s2) rfl) hZ (hw _ (List.mem_of_getElem? (i := 79) rfl)) (hw _ (List.mem_of_getElem? (i := 78) rfl)) (by decide) (by decide)) (g := (mkF m 8 #[.val (.ref ak), .val (.ref al), .unset] [(.long s2), (.long s1)])) rfl (by rw [hml]; rfl) (argsL := [(.long s1), (.long s2)]) (rest := []) (lenOf pdm_6 rfl) rfl (by show 2 * 0 + _ ≤ _; exact Nat.le_of_eq rfl) (hb hby d15_8) (fun _ _ => ⟨rfl, e2, (by decide : 0 + 0 ≤ _), (by decide : 0 + 0 ≤ _)⟩)
  dsimp only [Pt.U, Pt.locs, Pt.cells, Pt.slots] at X3 l3 y3 z3 st3 hQ3
  subst l3 y3 z3
  obtain ⟨rfl, N3q, e3⟩ := hQ3
  have N3 := Fr.app N0 N3q
  obtain ⟨T4, X4, e4, st4⟩ := getF X3 hx hZ hown (host := "") (Or.inl (hw _ (List.mem_of_getElem? (i := 27) rfl))) Via.refl e3 F_akn (g := (mkF m 19 #[.val (.ref ak), .val (.ref al), .val (.int (own_cmp s1 s2))] [(.ref ak)])) rfl rfl (hb hby d15_19)
  obtain ⟨T5, X5, e5, st5⟩ := getF X4 hx hZ hown (host := "") (Or.inl (hw _ (List.mem_of_getElem? (i := 27) rfl))) Via.refl e4 F_aln (g := (mkF m 23 #[.val (.ref ak), .val (.ref al), .val (.int (own_cmp s1 s2))] [(.ref al), (.int n1)])) rfl rfl (hb hby d15_23)
  obtain ⟨fs, hr, hrun, hended, hW, hsame⟩ := X5.leave (v := some (.int (n1 - n2))) (fun h => by rw [Bd.returns] at h; cases h)
  refine ⟨_, _, pre0 _ ?_, hrun, hended, _, _, rfl, ?_, ⟨_, rfl⟩, hW, hsame.mono (by decide) (by decide)⟩
  · show Steps p.tables e below (s₁.setTop (mkF m 0 #[.val (.ref ak), .val (.ref al), .unset] [])) _
    refine XS.aloadN X0.here hx rfl (hb hby d15_0) rfl rfl ?_
    show Steps p.tables e below (s₁.setTop (mkF m 1 #[.val (.ref ak), .val (.ref al), .unset] [(.ref ak)])) _
    refine st1 _ ?_
    show Steps p.tables e below (T1.setTop (mkF m 4 #[.val (.ref ak), .val (.ref al), .unset] [(.long s1)])) _
    refine XS.aloadN X1.here hx rfl (hb hby d15_4) rfl rfl ?_
    show Steps p.tables e below (T1.setTop (mkF m 5 #[.val (.ref ak), .val (.ref al), .unset] [(.ref al), (.long s1)])) _
    refine st2 _ ?_
    show Steps p.tables e below (T2.setTop (mkF m 8 #[.val (.ref ak), .val (.ref al), .unset] [(.long s2), (.long s1)])) _
    refine st3 _ ?_
    show Steps p.tables e below (T3.setTop (mkF m 11 #[.val (.ref ak), .val (.ref al), .unset] [(.int (own_cmp s1 s2))])) _
    refine XS.istoreN X3.here hx rfl (hb hby d15_11) rfl (l' := #[.val (.ref ak), .val (.ref al), .val (.int (own_cmp s1 s2))]) rfl ?_
    show Steps p.tables e below (T3.setTop (mkF m 12 #[.val (.ref ak), .val (.ref al), .val (.int (own_cmp s1 s2))] [])) _
    refine XS.iloadN X3.here hx rfl (hb hby d15_12) rfl ?_
    show Steps p.tables e below (T3.setTop (mkF m 13 #[.val (.ref ak), .val (.ref al), .val (.int (own_cmp s1 s2))] [(.int (own_cmp s1 s2))])) _
    refine XS.ifYes X3.here hx rfl (pc0 := 13) (pc' := 18) rfl (hb hby d15_13) rfl ((if0 _ _).trans (teq hc13).1) (by decide) (by decide) ?_
    show Steps p.tables e below (T3.setTop (mkF m 18 #[.val (.ref ak), .val (.ref al), .val (.int (own_cmp s1 s2))] [])) _
    refine XS.aloadN X3.here hx rfl (hb hby d15_18) rfl rfl ?_
    show Steps p.tables e below (T3.setTop (mkF m 19 #[.val (.ref ak), .val (.ref al), .val (.int (own_cmp s1 s2))] [(.ref ak)])) _
    refine st4 _ ?_
    show Steps p.tables e below (T4.setTop (mkF m 22 #[.val (.ref ak), .val (.ref al), .val (.int (own_cmp s1 s2))] [(.int n1)])) _
    refine XS.aloadN X4.here hx rfl (hb hby d15_22) rfl rfl ?_
    show Steps p.tables e below (T4.setTop (mkF m 23 #[.val (.ref ak), .val (.ref al), .val (.int (own_cmp s1 s2))] [(.ref al), (.int n1)])) _
    refine st5 _ ?_
    show Steps p.tables e below (T5.setTop (mkF m 26 #[.val (.ref ak), .val (.ref al), .val (.int (own_cmp s1 s2))] [(.int n2), (.int n1)])) _
    refine XS.isub X5.here hx rfl (hb hby d15_26) rfl ?_
    show Steps p.tables e below (T5.setTop (mkF m 27 #[.val (.ref ak), .val (.ref al), .val (.int (own_cmp s1 s2))] [(.int (n1 - n2))])) _
    exact retI X5 hx Bd.returns (hb hby d15_27) hr
  · show QP (.int (n1 - n2)) h0 n0 _ T5.heap _
    rw [e5]
    exact ⟨rfl, N3, rfl⟩
set_option maxRecDepth 65536 in
set_option maxHeartbeats 40000000 in
theorem rm15_f (l : Launch) (Z : State) (a0 : Array Value) (hw : ∀ d ∈ tables_1, d.before a0 Z = true) (ws : List Jvm.Cond) (ak : Addr) (al : Addr) (s1 : Int64) (n1 : Int32) (s2 : Int64) (n2 : Int32) (h0 : Heap) (n0 : Nat) (Z0 : n0 ≤ h0.size) (E_ak : Exa Z h0 ak "java/time/Duration") (F_aks : Fld Z h0 ak "java/time/Duration" "seconds" "J" (.long s1)) (F_akn : Fld Z h0 ak "java/time/Duration" "nanos" "I" (.int n1)) (E_al : Exa Z h0 al "java/time/Duration") (F_als : Fld Z h0 al "java/time/Duration" "seconds" "J" (.long s2)) (F_aln : Fld Z h0 al "java/time/Duration" "nanos" "I" (.int n2)) (r : Int32) (hr0 : r = (own_cmp s1 s2)) (hc13 : ¬ ((own_cmp s1 s2) = (0 : Int32))) :
    MetFree l (⟨"java/time/Duration", "compareTo", "(Ljava/time/Duration;)I"⟩ : MethodName) (head1 (Jvm.Cond.code (⟨"java/time/Duration", "compareTo", "(Ljava/time/Duration;)I"⟩ : MethodName) jdk_2316_method_66_code 3 (some .int) :: ws) ({ frames := 1, cells := 0, slots := 0, locals := 15 } : Room)) (fun a U => a = #[(.ref ak), (.ref al)] ∧ Z.Warmed39 U.vm ∧ U.heap = h0) (fun _ _ _ _ _ => True) (fun _ U o U' => ∃ v L, o = .returned v ∧ QP (.int r) h0 n0 v U'.heap L ∧ FrameEnd U o U' L ({ frames := 1, cells := 0, slots := 0, locals := 15 } : Room).cells ({ frames := 1, cells := 0, slots := 0, locals := 15 } : Room).slots) := by
  rw [hr0]
  refine MetFree.of_bodySF (plainFor_of_name pnm_0) hisR ?_
  intro p e s m args below meth c s₁ Bd hml0 hP hK
  obtain ⟨rfl, hZ, hh⟩ := hP
  have hx := Bd.exec
  have hby := Bd.bytes
  have hml : c.maxLocals = 3 := hml0
  have hown : s.vm.findClass "java/time/Duration" = some m.cls := findClass_of_methodNamed Bd.named
  have hnm := (name_of_methodNamed Bd.named Bd.method).1
  have X0 : Stand p l e ({ frames := 1, cells := 0, slots := 0, locals := 15 } : Room) s m #[(.ref ak), (.ref al)] below meth c s₁ [] 0 0 := Stand.of_body Bd
  have e0 : s₁.heap = h0 := by rw [← hh, Bd.state]; rfl
  have N0 := Fr.nil n0
  have pre0 : ∀ t, Steps p.tables e below (s₁.setTop (mkF m 0 #[.val (.ref ak), .val (.ref al), .unset] [])) t → Steps p.tables e below (s₁.setTop (entryFrame m #[(.ref ak), (.ref al)] 3)) t := fun t k => castTop (ef_rm15 m ak al) k
  obtain ⟨T1, X1, e1, st1⟩ := getF X0 hx hZ hown (host := "") (Or.inl (hw _ (List.mem_of_getElem? (i := 25) rfl))) Via.refl e0 F_aks (g := (mkF m 1 #[.val (.ref ak), .val (.ref al), .unset] [(.ref ak)])) rfl rfl (hb hby d15_1)
  obtain ⟨T2, X2, e2, st2⟩ := getF X1 hx hZ hown (host := "") (Or.inl (hw _ (List.mem_of_getElem? (i := 25) rfl))) Via.refl e1 F_als (g := (mkF m 5 #[.val (.ref ak), .val (.ref al), .unset] [(.ref al), (.long s1)])) rfl rfl (hb hby d15_5)
  obtain ⟨_, _, ⟨T3, L3, k3, n3⟩, -, X3, ⟨Lc3, hQ3, l3, y3, z3⟩, st3⟩ := Jvm.LawKit.callS X2 hx (y := (⟨"java/lang/Long", "compare", "(JJ)I"⟩ : MethodName)) hown (mvT hZ (hw _ (List.mem_of_getElem? (i := 76) rfl))) (mvT hZ (hw _ (List.mem_of_getElem? (i := 77) rfl))) (mvT hZ (hw _ (List.mem_of_getElem? (i := 78) rfl))) (mvT hZ (hw _ (List.mem_of_getElem? (i := 79) rfl))) (by decide) (backOf (W := 0) (rm16 l Z a0 hw [] s1 s2 h0 n0 Z0  (own_cmp s1 s2) rfl) hZ (hw _ (List.mem_of_getElem? (i := 79) rfl)) (hw _ (List.mem_of_getElem? (i := 78) rfl)) (by decide) (by decide)) (g := (mkF m 8 #[.val (.ref ak), .val (.ref al), .unset] [(.long s2), (.long s1)])) rfl (by rw [hml]; rfl) (argsL := [(.long s1), (.long s2)]) (rest := []) (lenOf pdm_6 rfl) rfl (by show 2 * 0 + _ ≤ _; exact Nat.le_of_eq rfl) (hb hby d15_8) (fun _ _ => ⟨rfl, e2, (by decide : 0 + 0 ≤ _), (by decide : 0 + 0 ≤ _)⟩)
  dsimp only [Pt.U, Pt.locs, Pt.cells, Pt.slots] at X3 l3 y3 z3 st3 hQ3
  subst l3 y3 z3
  obtain ⟨rfl, N3q, e3⟩ := hQ3
  have N3 := Fr.app N0 N3q
  obtain ⟨fs, hr, hrun, hended, hW, hsame⟩ := X3.leave (v := some (.int (own_cmp s1 s2))) (fun h => by rw [Bd.returns] at h; cases h)
  refine ⟨_, _, pre0 _ ?_, hrun, hended, _, _, rfl, ?_, ⟨_, rfl⟩, hW, hsame.mono (by decide) (by decide)⟩
  · show Steps p.tables e below (s₁.setTop (mkF m 0 #[.val (.ref ak), .val (.ref al), .unset] [])) _
    refine XS.aloadN X0.here hx rfl (hb hby d15_0) rfl rfl ?_
    show Steps p.tables e below (s₁.setTop (mkF m 1 #[.val (.ref ak), .val (.ref al), .unset] [(.ref ak)])) _
    refine st1 _ ?_
    show Steps p.tables e below (T1.setTop (mkF m 4 #[.val (.ref ak), .val (.ref al), .unset] [(.long s1)])) _
    refine XS.aloadN X1.here hx rfl (hb hby d15_4) rfl rfl ?_
    show Steps p.tables e below (T1.setTop (mkF m 5 #[.val (.ref ak), .val (.ref al), .unset] [(.ref al), (.long s1)])) _
    refine st2 _ ?_
    show Steps p.tables e below (T2.setTop (mkF m 8 #[.val (.ref ak), .val (.ref al), .unset] [(.long s2), (.long s1)])) _
    refine st3 _ ?_
    show Steps p.tables e below (T3.setTop (mkF m 11 #[.val (.ref ak), .val (.ref al), .unset] [(.int (own_cmp s1 s2))])) _
    refine XS.istoreN X3.here hx rfl (hb hby d15_11) rfl (l' := #[.val (.ref ak), .val (.ref al), .val (.int (own_cmp s1 s2))]) rfl ?_
    show Steps p.tables e below (T3.setTop (mkF m 12 #[.val (.ref ak), .val (.ref al), .val (.int (own_cmp s1 s2))] [])) _
    refine XS.iloadN X3.here hx rfl (hb hby d15_12) rfl ?_
    show Steps p.tables e below (T3.setTop (mkF m 13 #[.val (.ref ak), .val (.ref al), .val (.int (own_cmp s1 s2))] [(.int (own_cmp s1 s2))])) _
    refine XS.ifNo X3.here hx rfl (hb hby d15_13) rfl ((if0 _ _).trans (feq hc13).1) ?_
    show Steps p.tables e below (T3.setTop (mkF m 16 #[.val (.ref ak), .val (.ref al), .val (.int (own_cmp s1 s2))] [])) _
    refine XS.iloadN X3.here hx rfl (hb hby d15_16) rfl ?_
    show Steps p.tables e below (T3.setTop (mkF m 17 #[.val (.ref ak), .val (.ref al), .val (.int (own_cmp s1 s2))] [(.int (own_cmp s1 s2))])) _
    exact retI X3 hx Bd.returns (hb hby d15_17) hr
  · show QP (.int (own_cmp s1 s2)) h0 n0 _ T3.heap _
    rw [e3]
    exact ⟨rfl, N3, rfl⟩
set_option maxRecDepth 65536 in
set_option maxHeartbeats 40000000 in
theorem rm15 (l : Launch) (Z : State) (a0 : Array Value) (hw : ∀ d ∈ tables_1, d.before a0 Z = true) (ws : List Jvm.Cond) (ak : Addr) (al : Addr) (s1 : Int64) (n1 : Int32) (s2 : Int64) (n2 : Int32) (h0 : Heap) (n0 : Nat) (Z0 : n0 ≤ h0.size) (E_ak : Exa Z h0 ak "java/time/Duration") (F_aks : Fld Z h0 ak "java/time/Duration" "seconds" "J" (.long s1)) (F_akn : Fld Z h0 ak "java/time/Duration" "nanos" "I" (.int n1)) (E_al : Exa Z h0 al "java/time/Duration") (F_als : Fld Z h0 al "java/time/Duration" "seconds" "J" (.long s2)) (F_aln : Fld Z h0 al "java/time/Duration" "nanos" "I" (.int n2)) (r : Int32) (hr0 : r = (if (own_cmp s1 s2) = (0 : Int32) then (n1 - n2) else (own_cmp s1 s2))) :
    MetFree l (⟨"java/time/Duration", "compareTo", "(Ljava/time/Duration;)I"⟩ : MethodName) (head1 (Jvm.Cond.code (⟨"java/time/Duration", "compareTo", "(Ljava/time/Duration;)I"⟩ : MethodName) jdk_2316_method_66_code 3 (some .int) :: ws) ({ frames := 1, cells := 0, slots := 0, locals := 15 } : Room)) (fun a U => a = #[(.ref ak), (.ref al)] ∧ Z.Warmed39 U.vm ∧ U.heap = h0) (fun _ _ _ _ _ => True) (fun _ U o U' => ∃ v L, o = .returned v ∧ QP (.int r) h0 n0 v U'.heap L ∧ FrameEnd U o U' L ({ frames := 1, cells := 0, slots := 0, locals := 15 } : Room).cells ({ frames := 1, cells := 0, slots := 0, locals := 15 } : Room).slots) := by
  by_cases hc13 : (own_cmp s1 s2) = (0 : Int32)
  · exact rm15_t l Z a0 hw ws ak al s1 n1 s2 n2 h0 n0 Z0 E_ak F_aks F_akn E_al F_als F_aln r (hr0.trans (if_pos hc13)) hc13
  · exact rm15_f l Z a0 hw ws ak al s1 n1 s2 n2 h0 n0 Z0 E_ak F_aks F_akn E_al F_als F_aln r (hr0.trans (if_neg hc13)) hc13
theorem d18_0 : decode jdk_29_method_30_code 0 = .ok (.lload_n 0, 1) := by decide +kernel
theorem d18_1 : decode jdk_29_method_30_code 1 = .ok (.lload_n 2, 1) := by decide +kernel
theorem d18_2 : decode jdk_29_method_30_code 2 = .ok (.lmul, 1) := by decide +kernel
theorem d18_3 : decode jdk_29_method_30_code 3 = .ok (.lstore 4, 2) := by decide +kernel
theorem d18_5 : decode jdk_29_method_30_code 5 = .ok (.lload_n 0, 1) := by decide +kernel
theorem d18_6 : decode jdk_29_method_30_code 6 = .ok (.invokestatic 122, 3) := by decide +kernel
theorem pdm_7 : parseMethodDescriptor "(J)J" = some ⟨[.long], some .long⟩ := by decide +kernel
theorem d18_9 : decode jdk_29_method_30_code 9 = .ok (.lstore 6, 2) := by decide +kernel
theorem d18_11 : decode jdk_29_method_30_code 11 = .ok (.lload_n 2, 1) := by decide +kernel
theorem d18_12 : decode jdk_29_method_30_code 12 = .ok (.invokestatic 122, 3) := by decide +kernel
theorem d18_15 : decode jdk_29_method_30_code 15 = .ok (.lstore 8, 2) := by decide +kernel
theorem d18_17 : decode jdk_29_method_30_code 17 = .ok (.lload 6, 2) := by decide +kernel
theorem d18_19 : decode jdk_29_method_30_code 19 = .ok (.lload 8, 2) := by decide +kernel
theorem d18_21 : decode jdk_29_method_30_code 21 = .ok (.lor, 1) := by decide +kernel
theorem d18_22 : decode jdk_29_method_30_code 22 = .ok (.bipush 31, 2) := by decide +kernel
theorem d18_24 : decode jdk_29_method_30_code 24 = .ok (.lushr, 1) := by decide +kernel
theorem d18_25 : decode jdk_29_method_30_code 25 = .ok (.lconst 0, 1) := by decide +kernel
theorem d18_26 : decode jdk_29_method_30_code 26 = .ok (.lcmp, 1) := by decide +kernel
theorem d18_27 : decode jdk_29_method_30_code 27 = .ok (.ifCond .eq 44, 3) := by decide +kernel
theorem d18_71 : decode jdk_29_method_30_code 71 = .ok (.lload 4, 2) := by decide +kernel
theorem d18_73 : decode jdk_29_method_30_code 73 = .ok (.lreturn, 1) := by decide +kernel
theorem d18_30 : decode jdk_29_method_30_code 30 = .ok (.lload_n 2, 1) := by decide +kernel
theorem d18_31 : decode jdk_29_method_30_code 31 = .ok (.lconst 0, 1) := by decide +kernel
theorem d18_32 : decode jdk_29_method_30_code 32 = .ok (.lcmp, 1) := by decide +kernel
theorem d18_33 : decode jdk_29_method_30_code 33 = .ok (.ifCond .eq 12, 3) := by decide +kernel
theorem d18_36 : decode jdk_29_method_30_code 36 = .ok (.lload 4, 2) := by decide +kernel
theorem d18_38 : decode jdk_29_method_30_code 38 = .ok (.lload_n 2, 1) := by decide +kernel
theorem d18_39 : decode jdk_29_method_30_code 39 = .ok (.ldiv, 1) := by decide +kernel
theorem d18_40 : decode jdk_29_method_30_code 40 = .ok (.lload_n 0, 1) := by decide +kernel
theorem d18_41 : decode jdk_29_method_30_code 41 = .ok (.lcmp, 1) := by decide +kernel
theorem d18_42 : decode jdk_29_method_30_code 42 = .ok (.ifCond .ne 19, 3) := by decide +kernel
theorem d18_45 : decode jdk_29_method_30_code 45 = .ok (.lload_n 0, 1) := by decide +kernel
theorem d18_46 : decode jdk_29_method_30_code 46 = .ok (.ldc2_w 128, 3) := by decide +kernel
theorem d18_49 : decode jdk_29_method_30_code 49 = .ok (.lcmp, 1) := by decide +kernel
theorem d18_50 : decode jdk_29_method_30_code 50 = .ok (.ifCond .ne 21, 3) := by decide +kernel
theorem ef_rm18 (m : MethodId) (qx : Int64) (qy : Int64) : entryFrame m #[(.long qx), (.long qy)] 10 = mkF m 0 #[.val (.long qx), .second, .val (.long qy), .second, .unset, .unset, .unset, .unset, .unset, .unset] [] := by first | (simp [entryFrame, mkF, argsToLocals, Value.category]; done) | rfl
set_option maxRecDepth 65536 in
set_option maxHeartbeats 40000000 in
theorem rm18_t (l : Launch) (Z : State) (a0 : Array Value) (hw : ∀ d ∈ tables_1, d.before a0 Z = true) (ws : List Jvm.Cond) (qx : Int64) (qy : Int64) (h0 : Heap) (n0 : Nat) (Z0 : n0 ≤ h0.size) (hy : qy ≠ (0 : Int64)) (hq : (qx * qy) / qy = qx) (hmin : ¬ qx = (-9223372036854775808 : Int64)) (r : Int64) (hr0 : r = (qx * qy)) (hc27 : ((((own_abs qx) ||| (own_abs qy)).toUInt64 >>> ((31 : Int32) &&& 0x3f).toInt64.toUInt64).toInt64) = (0 : Int64)) :
    MetFree l (⟨"java/lang/Math", "multiplyExact", "(JJ)J"⟩ : MethodName) (head1 (Jvm.Cond.code (⟨"java/lang/Math", "multiplyExact", "(JJ)J"⟩ : MethodName) jdk_29_method_30_code 10 (some .long) :: ws) ({ frames := 1, cells := 0, slots := 0, locals := 13 } : Room)) (fun a U => a = #[(.long qx), (.long qy)] ∧ Z.Warmed39 U.vm ∧ U.heap = h0) (fun _ _ _ _ _ => True) (fun _ U o U' => ∃ v L, o = .returned v ∧ QP (.long r) h0 n0 v U'.heap L ∧ FrameEnd U o U' L ({ frames := 1, cells := 0, slots := 0, locals := 13 } : Room).cells ({ frames := 1, cells := 0, slots := 0, locals := 13 } : Room).slots) := by
  rw [hr0]
  refine MetFree.of_bodySF (Jvm.Free.JP.mathPlain rfl (by decide +kernel)) hisR ?_
  intro p e s m args below meth c s₁ Bd hml0 hP hK
  obtain ⟨rfl, hZ, hh⟩ := hP
  have hx := Bd.exec
  have hby := Bd.bytes
  have hml : c.maxLocals = 10 := hml0
  have hown : s.vm.findClass "java/lang/Math" = some m.cls := findClass_of_methodNamed Bd.named
  have hnm := (name_of_methodNamed Bd.named Bd.method).1
  have X0 : Stand p l e ({ frames := 1, cells := 0, slots := 0, locals := 13 } : Room) s m #[(.long qx), (.long qy)] below meth c s₁ [] 0 0 := Stand.of_body Bd
  have e0 : s₁.heap = h0 := by rw [← hh, Bd.state]; rfl
  have N0 := Fr.nil n0
  have pre0 : ∀ t, Steps p.tables e below (s₁.setTop (mkF m 0 #[.val (.long qx), .second, .val (.long qy), .second, .unset, .unset, .unset, .unset, .unset, .unset] [])) t → Steps p.tables e below (s₁.setTop (entryFrame m #[(.long qx), (.long qy)] 10)) t := fun t k => castTop (ef_rm18 m qx qy) k
  obtain ⟨_, _, ⟨T1, L1, k1, n1⟩, -, X1, ⟨Lc1, hQ1, l1, y1, z1⟩, st1⟩ := Jvm.LawKit.callS X0 hx (y := (⟨"java/lang/Math", "abs", "(J)J"⟩ : MethodName)) hown (mvT hZ (hw _ (List.mem_of_getElem? (i := 88) rfl))) (mvT hZ (hw _ (List.mem_of_getElem? (i := 89) rfl))) (mvT hZ (hw _ (List.mem_of_getElem? (i := 53) rfl))) (mvT hZ (hw _ (List.mem_of_getElem? (i := 90) rfl))) (by decide) (backOf (W := 0) (rm19 l Z a0 hw [] qx h0 n0 Z0  (own_abs qx) rfl) hZ (hw _ (List.mem_of_getElem? (i := 90) rfl)) (hw _ (List.mem_of_getElem? (i := 53) rfl)) (by decide) (by decide)) (g := (mkF m 6 #[.val (.long qx), .second, .val (.long qy), .second, .val (.long (qx * qy)), .second, .unset, .unset, .unset, .unset] [(.long qx)])) rfl (by rw [hml]; rfl) (argsL := [(.long qx)]) (rest := []) (lenOf pdm_7 rfl) rfl (by show 2 * 0 + _ ≤ _; exact Nat.le_of_eq rfl) (hb hby d18_6) (fun _ _ => ⟨rfl, e0, (by decide : 0 + 0 ≤ _), (by decide : 0 + 0 ≤ _)⟩)
  dsimp only [Pt.U, Pt.locs, Pt.cells, Pt.slots] at X1 l1 y1 z1 st1 hQ1
  subst l1 y1 z1
  obtain ⟨rfl, N1q, e1⟩ := hQ1
  have N1 := Fr.app N0 N1q
  obtain ⟨_, _, ⟨T2, L2, k2, n2⟩, -, X2, ⟨Lc2, hQ2, l2, y2, z2⟩, st2⟩ := Jvm.LawKit.callS X1 hx (y := (⟨"java/lang/Math", "abs", "(J)J"⟩ : MethodName)) hown (mvT hZ (hw _ (List.mem_of_getElem? (i := 88) rfl))) (mvT hZ (hw _ (List.mem_of_getElem? (i := 89) rfl))) (mvT hZ (hw _ (List.mem_of_getElem? (i := 53) rfl))) (mvT hZ (hw _ (List.mem_of_getElem? (i := 90) rfl))) (by decide) (backOf (W := 0) (rm19 l Z a0 hw [] qy h0 n0 Z0  (own_abs qy) rfl) hZ (hw _ (List.mem_of_getElem? (i := 90) rfl)) (hw _ (List.mem_of_getElem? (i := 53) rfl)) (by decide) (by decide)) (g := (mkF m 12 #[.val (.long qx), .second, .val (.long qy), .second, .val (.long (qx * qy)), .second, .val (.long (own_abs qx)), .second, .unset, .unset] [(.long qy)])) rfl (by rw [hml]; rfl) (argsL := [(.long qy)]) (rest := []) (lenOf pdm_7 rfl) rfl (by show 2 * 0 + _ ≤ _; exact Nat.le_of_eq rfl) (hb hby d18_12) (fun _ _ => ⟨rfl, e1, (by decide : 0 + 0 ≤ _), (by decide : 0 + 0 ≤ _)⟩)
  dsimp only [Pt.U, Pt.locs, Pt.cells, Pt.slots] at X2 l2 y2 z2 st2 hQ2
  subst l2 y2 z2
  obtain ⟨rfl, N2q, e2⟩ := hQ2
  have N2 := Fr.app N1 N2q
  obtain ⟨fs, hr, hrun, hended, hW, hsame⟩ := X2.leave (v := some (.long (qx * qy))) (fun h => by rw [Bd.returns] at h; cases h)
  refine ⟨_, _, pre0 _ ?_, hrun, hended, _, _, rfl, ?_, ⟨_, rfl⟩, hW, hsame.mono (by decide) (by decide)⟩
  · show Steps p.tables e below (s₁.setTop (mkF m 0 #[.val (.long qx), .second, .val (.long qy), .second, .unset, .unset, .unset, .unset, .unset, .unset] [])) _
    refine XS.lloadN X0.here hx rfl (hb hby d18_0) rfl ?_
    show Steps p.tables e below (s₁.setTop (mkF m 1 #[.val (.long qx), .second, .val (.long qy), .second, .unset, .unset, .unset, .unset, .unset, .unset] [(.long qx)])) _
    refine XS.lloadN X0.here hx rfl (hb hby d18_1) rfl ?_
    show Steps p.tables e below (s₁.setTop (mkF m 2 #[.val (.long qx), .second, .val (.long qy), .second, .unset, .unset, .unset, .unset, .unset, .unset] [(.long qy), (.long qx)])) _
    refine XS.lmul X0.here hx rfl (hb hby d18_2) rfl ?_
    show Steps p.tables e below (s₁.setTop (mkF m 3 #[.val (.long qx), .second, .val (.long qy), .second, .unset, .unset, .unset, .unset, .unset, .unset] [(.long (qx * qy))])) _
    refine XS.lstore X0.here hx rfl (hb hby d18_3) rfl (l' := #[.val (.long qx), .second, .val (.long qy), .second, .val (.long (qx * qy)), .second, .unset, .unset, .unset, .unset]) rfl ?_
    show Steps p.tables e below (s₁.setTop (mkF m 5 #[.val (.long qx), .second, .val (.long qy), .second, .val (.long (qx * qy)), .second, .unset, .unset, .unset, .unset] [])) _
    refine XS.lloadN X0.here hx rfl (hb hby d18_5) rfl ?_
    show Steps p.tables e below (s₁.setTop (mkF m 6 #[.val (.long qx), .second, .val (.long qy), .second, .val (.long (qx * qy)), .second, .unset, .unset, .unset, .unset] [(.long qx)])) _
    refine st1 _ ?_
    show Steps p.tables e below (T1.setTop (mkF m 9 #[.val (.long qx), .second, .val (.long qy), .second, .val (.long (qx * qy)), .second, .unset, .unset, .unset, .unset] [(.long (own_abs qx))])) _
    refine XS.lstore X1.here hx rfl (hb hby d18_9) rfl (l' := #[.val (.long qx), .second, .val (.long qy), .second, .val (.long (qx * qy)), .second, .val (.long (own_abs qx)), .second, .unset, .unset]) rfl ?_
    show Steps p.tables e below (T1.setTop (mkF m 11 #[.val (.long qx), .second, .val (.long qy), .second, .val (.long (qx * qy)), .second, .val (.long (own_abs qx)), .second, .unset, .unset] [])) _
    refine XS.lloadN X1.here hx rfl (hb hby d18_11) rfl ?_
    show Steps p.tables e below (T1.setTop (mkF m 12 #[.val (.long qx), .second, .val (.long qy), .second, .val (.long (qx * qy)), .second, .val (.long (own_abs qx)), .second, .unset, .unset] [(.long qy)])) _
    refine st2 _ ?_
    show Steps p.tables e below (T2.setTop (mkF m 15 #[.val (.long qx), .second, .val (.long qy), .second, .val (.long (qx * qy)), .second, .val (.long (own_abs qx)), .second, .unset, .unset] [(.long (own_abs qy))])) _
    refine XS.lstore X2.here hx rfl (hb hby d18_15) rfl (l' := #[.val (.long qx), .second, .val (.long qy), .second, .val (.long (qx * qy)), .second, .val (.long (own_abs qx)), .second, .val (.long (own_abs qy)), .second]) rfl ?_
    show Steps p.tables e below (T2.setTop (mkF m 17 #[.val (.long qx), .second, .val (.long qy), .second, .val (.long (qx * qy)), .second, .val (.long (own_abs qx)), .second, .val (.long (own_abs qy)), .second] [])) _
    refine XS.lload X2.here hx rfl (hb hby d18_17) rfl ?_
    show Steps p.tables e below (T2.setTop (mkF m 19 #[.val (.long qx), .second, .val (.long qy), .second, .val (.long (qx * qy)), .second, .val (.long (own_abs qx)), .second, .val (.long (own_abs qy)), .second] [(.long (own_abs qx))])) _
    refine XS.lload X2.here hx rfl (hb hby d18_19) rfl ?_
    show Steps p.tables e below (T2.setTop (mkF m 21 #[.val (.long qx), .second, .val (.long qy), .second, .val (.long (qx * qy)), .second, .val (.long (own_abs qx)), .second, .val (.long (own_abs qy)), .second] [(.long (own_abs qy)), (.long (own_abs qx))])) _
    refine XS.lor X2.here hx rfl (hb hby d18_21) rfl ?_
    show Steps p.tables e below (T2.setTop (mkF m 22 #[.val (.long qx), .second, .val (.long qy), .second, .val (.long (qx * qy)), .second, .val (.long (own_abs qx)), .second, .val (.long (own_abs qy)), .second] [(.long ((own_abs qx) ||| (own_abs qy)))])) _
    refine XS.bipush X2.here hx rfl (hb hby d18_22) ?_
    show Steps p.tables e below (T2.setTop (mkF m 24 #[.val (.long qx), .second, .val (.long qy), .second, .val (.long (qx * qy)), .second, .val (.long (own_abs qx)), .second, .val (.long (own_abs qy)), .second] [(.int (31 : Int32)), (.long ((own_abs qx) ||| (own_abs qy)))])) _
    refine XS.lushr X2.here hx rfl (hb hby d18_24) rfl ?_
    show Steps p.tables e below (T2.setTop (mkF m 25 #[.val (.long qx), .second, .val (.long qy), .second, .val (.long (qx * qy)), .second, .val (.long (own_abs qx)), .second, .val (.long (own_abs qy)), .second] [(.long ((((own_abs qx) ||| (own_abs qy)).toUInt64 >>> ((31 : Int32) &&& 0x3f).toInt64.toUInt64).toInt64))])) _
    refine XS.lconst X2.here hx rfl (hb hby d18_25) ?_
    show Steps p.tables e below (T2.setTop (mkF m 26 #[.val (.long qx), .second, .val (.long qy), .second, .val (.long (qx * qy)), .second, .val (.long (own_abs qx)), .second, .val (.long (own_abs qy)), .second] [(.long (0 : Int64)), (.long ((((own_abs qx) ||| (own_abs qy)).toUInt64 >>> ((31 : Int32) &&& 0x3f).toInt64.toUInt64).toInt64))])) _
    refine XS.lcmp X2.here hx rfl (hb hby d18_26) rfl ?_
    show Steps p.tables e below (T2.setTop (mkF m 27 #[.val (.long qx), .second, .val (.long qy), .second, .val (.long (qx * qy)), .second, .val (.long (own_abs qx)), .second, .val (.long (own_abs qy)), .second] [(.int (lcmpW ((((own_abs qx) ||| (own_abs qy)).toUInt64 >>> ((31 : Int32) &&& 0x3f).toInt64.toUInt64).toInt64) (0 : Int64)))])) _
    refine XS.ifYes X2.here hx rfl (pc0 := 27) (pc' := 71) rfl (hb hby d18_27) rfl ((if0 _ _).trans (teq ((lw_eq ((((own_abs qx) ||| (own_abs qy)).toUInt64 >>> ((31 : Int32) &&& 0x3f).toInt64.toUInt64).toInt64) (0 : Int64)).mpr hc27)).1) (by decide) (by decide) ?_
    show Steps p.tables e below (T2.setTop (mkF m 71 #[.val (.long qx), .second, .val (.long qy), .second, .val (.long (qx * qy)), .second, .val (.long (own_abs qx)), .second, .val (.long (own_abs qy)), .second] [])) _
    refine XS.lload X2.here hx rfl (hb hby d18_71) rfl ?_
    show Steps p.tables e below (T2.setTop (mkF m 73 #[.val (.long qx), .second, .val (.long qy), .second, .val (.long (qx * qy)), .second, .val (.long (own_abs qx)), .second, .val (.long (own_abs qy)), .second] [(.long (qx * qy))])) _
    exact retOut X2 hx Bd.returns rfl (Or.inr (Or.inl ⟨rfl, rfl, _, rfl⟩)) (hb hby d18_73) hr
  · show QP (.long (qx * qy)) h0 n0 _ T2.heap _
    rw [e2]
    exact ⟨rfl, N2, rfl⟩
set_option maxRecDepth 65536 in
set_option maxHeartbeats 40000000 in
theorem rm18_f (l : Launch) (Z : State) (a0 : Array Value) (hw : ∀ d ∈ tables_1, d.before a0 Z = true) (ws : List Jvm.Cond) (qx : Int64) (qy : Int64) (h0 : Heap) (n0 : Nat) (Z0 : n0 ≤ h0.size) (hy : qy ≠ (0 : Int64)) (hq : (qx * qy) / qy = qx) (hmin : ¬ qx = (-9223372036854775808 : Int64)) (r : Int64) (hr0 : r = (qx * qy)) (hc27 : ¬ (((((own_abs qx) ||| (own_abs qy)).toUInt64 >>> ((31 : Int32) &&& 0x3f).toInt64.toUInt64).toInt64) = (0 : Int64))) :
    MetFree l (⟨"java/lang/Math", "multiplyExact", "(JJ)J"⟩ : MethodName) (head1 (Jvm.Cond.code (⟨"java/lang/Math", "multiplyExact", "(JJ)J"⟩ : MethodName) jdk_29_method_30_code 10 (some .long) :: ws) ({ frames := 1, cells := 0, slots := 0, locals := 13 } : Room)) (fun a U => a = #[(.long qx), (.long qy)] ∧ Z.Warmed39 U.vm ∧ U.heap = h0) (fun _ _ _ _ _ => True) (fun _ U o U' => ∃ v L, o = .returned v ∧ QP (.long r) h0 n0 v U'.heap L ∧ FrameEnd U o U' L ({ frames := 1, cells := 0, slots := 0, locals := 13 } : Room).cells ({ frames := 1, cells := 0, slots := 0, locals := 13 } : Room).slots) := by
  rw [hr0]
  refine MetFree.of_bodySF (Jvm.Free.JP.mathPlain rfl (by decide +kernel)) hisR ?_
  intro p e s m args below meth c s₁ Bd hml0 hP hK
  obtain ⟨rfl, hZ, hh⟩ := hP
  have hx := Bd.exec
  have hby := Bd.bytes
  have hml : c.maxLocals = 10 := hml0
  have hown : s.vm.findClass "java/lang/Math" = some m.cls := findClass_of_methodNamed Bd.named
  have hnm := (name_of_methodNamed Bd.named Bd.method).1
  have X0 : Stand p l e ({ frames := 1, cells := 0, slots := 0, locals := 13 } : Room) s m #[(.long qx), (.long qy)] below meth c s₁ [] 0 0 := Stand.of_body Bd
  have e0 : s₁.heap = h0 := by rw [← hh, Bd.state]; rfl
  have N0 := Fr.nil n0
  have pre0 : ∀ t, Steps p.tables e below (s₁.setTop (mkF m 0 #[.val (.long qx), .second, .val (.long qy), .second, .unset, .unset, .unset, .unset, .unset, .unset] [])) t → Steps p.tables e below (s₁.setTop (entryFrame m #[(.long qx), (.long qy)] 10)) t := fun t k => castTop (ef_rm18 m qx qy) k
  obtain ⟨_, _, ⟨T1, L1, k1, n1⟩, -, X1, ⟨Lc1, hQ1, l1, y1, z1⟩, st1⟩ := Jvm.LawKit.callS X0 hx (y := (⟨"java/lang/Math", "abs", "(J)J"⟩ : MethodName)) hown (mvT hZ (hw _ (List.mem_of_getElem? (i := 88) rfl))) (mvT hZ (hw _ (List.mem_of_getElem? (i := 89) rfl))) (mvT hZ (hw _ (List.mem_of_getElem? (i := 53) rfl))) (mvT hZ (hw _ (List.mem_of_getElem? (i := 90) rfl))) (by decide) (backOf (W := 0) (rm19 l Z a0 hw [] qx h0 n0 Z0  (own_abs qx) rfl) hZ (hw _ (List.mem_of_getElem? (i := 90) rfl)) (hw _ (List.mem_of_getElem? (i := 53) rfl)) (by decide) (by decide)) (g := (mkF m 6 #[.val (.long qx), .second, .val (.long qy), .second, .val (.long (qx * qy)), .second, .unset, .unset, .unset, .unset] [(.long qx)])) rfl (by rw [hml]; rfl) (argsL := [(.long qx)]) (rest := []) (lenOf pdm_7 rfl) rfl (by show 2 * 0 + _ ≤ _; exact Nat.le_of_eq rfl) (hb hby d18_6) (fun _ _ => ⟨rfl, e0, (by decide : 0 + 0 ≤ _), (by decide : 0 + 0 ≤ _)⟩)
  dsimp only [Pt.U, Pt.locs, Pt.cells, Pt.slots] at X1 l1 y1 z1 st1 hQ1
  subst l1 y1 z1
  obtain ⟨rfl, N1q, e1⟩ := hQ1
  have N1 := Fr.app N0 N1q
  obtain ⟨_, _, ⟨T2, L2, k2, n2⟩, -, X2, ⟨Lc2, hQ2, l2, y2, z2⟩, st2⟩ := Jvm.LawKit.callS X1 hx (y := (⟨"java/lang/Math", "abs", "(J)J"⟩ : MethodName)) hown (mvT hZ (hw _ (List.mem_of_getElem? (i := 88) rfl))) (mvT hZ (hw _ (List.mem_of_getElem? (i := 89) rfl))) (mvT hZ (hw _ (List.mem_of_getElem? (i := 53) rfl))) (mvT hZ (hw _ (List.mem_of_getElem? (i := 90) rfl))) (by decide) (backOf (W := 0) (rm19 l Z a0 hw [] qy h0 n0 Z0  (own_abs qy) rfl) hZ (hw _ (List.mem_of_getElem? (i := 90) rfl)) (hw _ (List.mem_of_getElem? (i := 53) rfl)) (by decide) (by decide)) (g := (mkF m 12 #[.val (.long qx), .second, .val (.long qy), .second, .val (.long (qx * qy)), .second, .val (.long (own_abs qx)), .second, .unset, .unset] [(.long qy)])) rfl (by rw [hml]; rfl) (argsL := [(.long qy)]) (rest := []) (lenOf pdm_7 rfl) rfl (by show 2 * 0 + _ ≤ _; exact Nat.le_of_eq rfl) (hb hby d18_12) (fun _ _ => ⟨rfl, e1, (by decide : 0 + 0 ≤ _), (by decide : 0 + 0 ≤ _)⟩)
  dsimp only [Pt.U, Pt.locs, Pt.cells, Pt.slots] at X2 l2 y2 z2 st2 hQ2
  subst l2 y2 z2
  obtain ⟨rfl, N2q, e2⟩ := hQ2
  have N2 := Fr.app N1 N2q
  obtain ⟨fs, hr, hrun, hended, hW, hsame⟩ := X2.leave (v := some (.long (qx * qy))) (fun h => by rw [Bd.returns] at h; cases h)
  refine ⟨_, _, pre0 _ ?_, hrun, hended, _, _, rfl, ?_, ⟨_, rfl⟩, hW, hsame.mono (by decide) (by decide)⟩
  · show Steps p.tables e below (s₁.setTop (mkF m 0 #[.val (.long qx), .second, .val (.long qy), .second, .unset, .unset, .unset, .unset, .unset, .unset] [])) _
    refine XS.lloadN X0.here hx rfl (hb hby d18_0) rfl ?_
    show Steps p.tables e below (s₁.setTop (mkF m 1 #[.val (.long qx), .second, .val (.long qy), .second, .unset, .unset, .unset, .unset, .unset, .unset] [(.long qx)])) _
    refine XS.lloadN X0.here hx rfl (hb hby d18_1) rfl ?_
    show Steps p.tables e below (s₁.setTop (mkF m 2 #[.val (.long qx), .second, .val (.long qy), .second, .unset, .unset, .unset, .unset, .unset, .unset] [(.long qy), (.long qx)])) _
    refine XS.lmul X0.here hx rfl (hb hby d18_2) rfl ?_
    show Steps p.tables e below (s₁.setTop (mkF m 3 #[.val (.long qx), .second, .val (.long qy), .second, .unset, .unset, .unset, .unset, .unset, .unset] [(.long (qx * qy))])) _
    refine XS.lstore X0.here hx rfl (hb hby d18_3) rfl (l' := #[.val (.long qx), .second, .val (.long qy), .second, .val (.long (qx * qy)), .second, .unset, .unset, .unset, .unset]) rfl ?_
    show Steps p.tables e below (s₁.setTop (mkF m 5 #[.val (.long qx), .second, .val (.long qy), .second, .val (.long (qx * qy)), .second, .unset, .unset, .unset, .unset] [])) _
    refine XS.lloadN X0.here hx rfl (hb hby d18_5) rfl ?_
    show Steps p.tables e below (s₁.setTop (mkF m 6 #[.val (.long qx), .second, .val (.long qy), .second, .val (.long (qx * qy)), .second, .unset, .unset, .unset, .unset] [(.long qx)])) _
    refine st1 _ ?_
    show Steps p.tables e below (T1.setTop (mkF m 9 #[.val (.long qx), .second, .val (.long qy), .second, .val (.long (qx * qy)), .second, .unset, .unset, .unset, .unset] [(.long (own_abs qx))])) _
    refine XS.lstore X1.here hx rfl (hb hby d18_9) rfl (l' := #[.val (.long qx), .second, .val (.long qy), .second, .val (.long (qx * qy)), .second, .val (.long (own_abs qx)), .second, .unset, .unset]) rfl ?_
    show Steps p.tables e below (T1.setTop (mkF m 11 #[.val (.long qx), .second, .val (.long qy), .second, .val (.long (qx * qy)), .second, .val (.long (own_abs qx)), .second, .unset, .unset] [])) _
    refine XS.lloadN X1.here hx rfl (hb hby d18_11) rfl ?_
    show Steps p.tables e below (T1.setTop (mkF m 12 #[.val (.long qx), .second, .val (.long qy), .second, .val (.long (qx * qy)), .second, .val (.long (own_abs qx)), .second, .unset, .unset] [(.long qy)])) _
    refine st2 _ ?_
    show Steps p.tables e below (T2.setTop (mkF m 15 #[.val (.long qx), .second, .val (.long qy), .second, .val (.long (qx * qy)), .second, .val (.long (own_abs qx)), .second, .unset, .unset] [(.long (own_abs qy))])) _
    refine XS.lstore X2.here hx rfl (hb hby d18_15) rfl (l' := #[.val (.long qx), .second, .val (.long qy), .second, .val (.long (qx * qy)), .second, .val (.long (own_abs qx)), .second, .val (.long (own_abs qy)), .second]) rfl ?_
    show Steps p.tables e below (T2.setTop (mkF m 17 #[.val (.long qx), .second, .val (.long qy), .second, .val (.long (qx * qy)), .second, .val (.long (own_abs qx)), .second, .val (.long (own_abs qy)), .second] [])) _
    refine XS.lload X2.here hx rfl (hb hby d18_17) rfl ?_
    show Steps p.tables e below (T2.setTop (mkF m 19 #[.val (.long qx), .second, .val (.long qy), .second, .val (.long (qx * qy)), .second, .val (.long (own_abs qx)), .second, .val (.long (own_abs qy)), .second] [(.long (own_abs qx))])) _
    refine XS.lload X2.here hx rfl (hb hby d18_19) rfl ?_
    show Steps p.tables e below (T2.setTop (mkF m 21 #[.val (.long qx), .second, .val (.long qy), .second, .val (.long (qx * qy)), .second, .val (.long (own_abs qx)), .second, .val (.long (own_abs qy)), .second] [(.long (own_abs qy)), (.long (own_abs qx))])) _
    refine XS.lor X2.here hx rfl (hb hby d18_21) rfl ?_
    show Steps p.tables e below (T2.setTop (mkF m 22 #[.val (.long qx), .second, .val (.long qy), .second, .val (.long (qx * qy)), .second, .val (.long (own_abs qx)), .second, .val (.long (own_abs qy)), .second] [(.long ((own_abs qx) ||| (own_abs qy)))])) _
    refine XS.bipush X2.here hx rfl (hb hby d18_22) ?_
    show Steps p.tables e below (T2.setTop (mkF m 24 #[.val (.long qx), .second, .val (.long qy), .second, .val (.long (qx * qy)), .second, .val (.long (own_abs qx)), .second, .val (.long (own_abs qy)), .second] [(.int (31 : Int32)), (.long ((own_abs qx) ||| (own_abs qy)))])) _
    refine XS.lushr X2.here hx rfl (hb hby d18_24) rfl ?_
    show Steps p.tables e below (T2.setTop (mkF m 25 #[.val (.long qx), .second, .val (.long qy), .second, .val (.long (qx * qy)), .second, .val (.long (own_abs qx)), .second, .val (.long (own_abs qy)), .second] [(.long ((((own_abs qx) ||| (own_abs qy)).toUInt64 >>> ((31 : Int32) &&& 0x3f).toInt64.toUInt64).toInt64))])) _
    refine XS.lconst X2.here hx rfl (hb hby d18_25) ?_
    show Steps p.tables e below (T2.setTop (mkF m 26 #[.val (.long qx), .second, .val (.long qy), .second, .val (.long (qx * qy)), .second, .val (.long (own_abs qx)), .second, .val (.long (own_abs qy)), .second] [(.long (0 : Int64)), (.long ((((own_abs qx) ||| (own_abs qy)).toUInt64 >>> ((31 : Int32) &&& 0x3f).toInt64.toUInt64).toInt64))])) _
    refine XS.lcmp X2.here hx rfl (hb hby d18_26) rfl ?_
    show Steps p.tables e below (T2.setTop (mkF m 27 #[.val (.long qx), .second, .val (.long qy), .second, .val (.long (qx * qy)), .second, .val (.long (own_abs qx)), .second, .val (.long (own_abs qy)), .second] [(.int (lcmpW ((((own_abs qx) ||| (own_abs qy)).toUInt64 >>> ((31 : Int32) &&& 0x3f).toInt64.toUInt64).toInt64) (0 : Int64)))])) _
    refine XS.ifNo X2.here hx rfl (hb hby d18_27) rfl ((if0 _ _).trans (feq (fun q => hc27 ((lw_eq ((((own_abs qx) ||| (own_abs qy)).toUInt64 >>> ((31 : Int32) &&& 0x3f).toInt64.toUInt64).toInt64) (0 : Int64)).mp q))).1) ?_
    show Steps p.tables e below (T2.setTop (mkF m 30 #[.val (.long qx), .second, .val (.long qy), .second, .val (.long (qx * qy)), .second, .val (.long (own_abs qx)), .second, .val (.long (own_abs qy)), .second] [])) _
    refine XS.lloadN X2.here hx rfl (hb hby d18_30) rfl ?_
    show Steps p.tables e below (T2.setTop (mkF m 31 #[.val (.long qx), .second, .val (.long qy), .second, .val (.long (qx * qy)), .second, .val (.long (own_abs qx)), .second, .val (.long (own_abs qy)), .second] [(.long qy)])) _
    refine XS.lconst X2.here hx rfl (hb hby d18_31) ?_
    show Steps p.tables e below (T2.setTop (mkF m 32 #[.val (.long qx), .second, .val (.long qy), .second, .val (.long (qx * qy)), .second, .val (.long (own_abs qx)), .second, .val (.long (own_abs qy)), .second] [(.long (0 : Int64)), (.long qy)])) _
    refine XS.lcmp X2.here hx rfl (hb hby d18_32) rfl ?_
    show Steps p.tables e below (T2.setTop (mkF m 33 #[.val (.long qx), .second, .val (.long qy), .second, .val (.long (qx * qy)), .second, .val (.long (own_abs qx)), .second, .val (.long (own_abs qy)), .second] [(.int (lcmpW qy (0 : Int64)))])) _
    refine XS.ifNo X2.here hx rfl (hb hby d18_33) rfl ((if0 _ _).trans (feq (fun q => (hy) ((lw_eq qy (0 : Int64)).mp q))).1) ?_
    show Steps p.tables e below (T2.setTop (mkF m 36 #[.val (.long qx), .second, .val (.long qy), .second, .val (.long (qx * qy)), .second, .val (.long (own_abs qx)), .second, .val (.long (own_abs qy)), .second] [])) _
    refine XS.lload X2.here hx rfl (hb hby d18_36) rfl ?_
    show Steps p.tables e below (T2.setTop (mkF m 38 #[.val (.long qx), .second, .val (.long qy), .second, .val (.long (qx * qy)), .second, .val (.long (own_abs qx)), .second, .val (.long (own_abs qy)), .second] [(.long (qx * qy))])) _
    refine XS.lloadN X2.here hx rfl (hb hby d18_38) rfl ?_
    show Steps p.tables e below (T2.setTop (mkF m 39 #[.val (.long qx), .second, .val (.long qy), .second, .val (.long (qx * qy)), .second, .val (.long (own_abs qx)), .second, .val (.long (own_abs qy)), .second] [(.long qy), (.long (qx * qy))])) _
    refine XS.ldiv X2.here hx rfl (hb hby d18_39) rfl hy ?_
    show Steps p.tables e below (T2.setTop (mkF m 40 #[.val (.long qx), .second, .val (.long qy), .second, .val (.long (qx * qy)), .second, .val (.long (own_abs qx)), .second, .val (.long (own_abs qy)), .second] [(.long ((qx * qy) / qy))])) _
    refine XS.lloadN X2.here hx rfl (hb hby d18_40) rfl ?_
    show Steps p.tables e below (T2.setTop (mkF m 41 #[.val (.long qx), .second, .val (.long qy), .second, .val (.long (qx * qy)), .second, .val (.long (own_abs qx)), .second, .val (.long (own_abs qy)), .second] [(.long qx), (.long ((qx * qy) / qy))])) _
    refine XS.lcmp X2.here hx rfl (hb hby d18_41) rfl ?_
    show Steps p.tables e below (T2.setTop (mkF m 42 #[.val (.long qx), .second, .val (.long qy), .second, .val (.long (qx * qy)), .second, .val (.long (own_abs qx)), .second, .val (.long (own_abs qy)), .second] [(.int (lcmpW ((qx * qy) / qy) qx))])) _
    refine XS.ifNo X2.here hx rfl (hb hby d18_42) rfl ((if0 _ _).trans (teq ((lw_eq ((qx * qy) / qy) qx).mpr (hq))).2) ?_
    show Steps p.tables e below (T2.setTop (mkF m 45 #[.val (.long qx), .second, .val (.long qy), .second, .val (.long (qx * qy)), .second, .val (.long (own_abs qx)), .second, .val (.long (own_abs qy)), .second] [])) _
    refine XS.lloadN X2.here hx rfl (hb hby d18_45) rfl ?_
    show Steps p.tables e below (T2.setTop (mkF m 46 #[.val (.long qx), .second, .val (.long qy), .second, .val (.long (qx * qy)), .second, .val (.long (own_abs qx)), .second, .val (.long (own_abs qy)), .second] [(.long qx)])) _
    refine X2.ldc2Long hx hown (mvT hZ (hw _ (List.mem_of_getElem? (i := 118) rfl))) (g := (mkF m 46 #[.val (.long qx), .second, .val (.long qy), .second, .val (.long (qx * qy)), .second, .val (.long (own_abs qx)), .second, .val (.long (own_abs qy)), .second] [(.long qx)])) rfl (hb hby d18_46) _ ?_
    show Steps p.tables e below (T2.setTop (mkF m 49 #[.val (.long qx), .second, .val (.long qy), .second, .val (.long (qx * qy)), .second, .val (.long (own_abs qx)), .second, .val (.long (own_abs qy)), .second] [(.long (-9223372036854775808 : Int64)), (.long qx)])) _
    refine XS.lcmp X2.here hx rfl (hb hby d18_49) rfl ?_
    show Steps p.tables e below (T2.setTop (mkF m 50 #[.val (.long qx), .second, .val (.long qy), .second, .val (.long (qx * qy)), .second, .val (.long (own_abs qx)), .second, .val (.long (own_abs qy)), .second] [(.int (lcmpW qx (-9223372036854775808 : Int64)))])) _
    refine XS.ifYes X2.here hx rfl (pc0 := 50) (pc' := 71) rfl (hb hby d18_50) rfl ((if0 _ _).trans (feq (fun q => (hmin) ((lw_eq qx (-9223372036854775808 : Int64)).mp q))).2) (by decide) (by decide) ?_
    show Steps p.tables e below (T2.setTop (mkF m 71 #[.val (.long qx), .second, .val (.long qy), .second, .val (.long (qx * qy)), .second, .val (.long (own_abs qx)), .second, .val (.long (own_abs qy)), .second] [])) _
    refine XS.lload X2.here hx rfl (hb hby d18_71) rfl ?_
    show Steps p.tables e below (T2.setTop (mkF m 73 #[.val (.long qx), .second, .val (.long qy), .second, .val (.long (qx * qy)), .second, .val (.long (own_abs qx)), .second, .val (.long (own_abs qy)), .second] [(.long (qx * qy))])) _
    exact retOut X2 hx Bd.returns rfl (Or.inr (Or.inl ⟨rfl, rfl, _, rfl⟩)) (hb hby d18_73) hr
  · show QP (.long (qx * qy)) h0 n0 _ T2.heap _
    rw [e2]
    exact ⟨rfl, N2, rfl⟩
set_option maxRecDepth 65536 in
set_option maxHeartbeats 40000000 in
theorem rm18 (l : Launch) (Z : State) (a0 : Array Value) (hw : ∀ d ∈ tables_1, d.before a0 Z = true) (ws : List Jvm.Cond) (qx : Int64) (qy : Int64) (h0 : Heap) (n0 : Nat) (Z0 : n0 ≤ h0.size) (hy : qy ≠ (0 : Int64)) (hq : (qx * qy) / qy = qx) (hmin : ¬ qx = (-9223372036854775808 : Int64)) (r : Int64) (hr0 : r = (if ((((own_abs qx) ||| (own_abs qy)).toUInt64 >>> ((31 : Int32) &&& 0x3f).toInt64.toUInt64).toInt64) = (0 : Int64) then (qx * qy) else (qx * qy))) :
    MetFree l (⟨"java/lang/Math", "multiplyExact", "(JJ)J"⟩ : MethodName) (head1 (Jvm.Cond.code (⟨"java/lang/Math", "multiplyExact", "(JJ)J"⟩ : MethodName) jdk_29_method_30_code 10 (some .long) :: ws) ({ frames := 1, cells := 0, slots := 0, locals := 13 } : Room)) (fun a U => a = #[(.long qx), (.long qy)] ∧ Z.Warmed39 U.vm ∧ U.heap = h0) (fun _ _ _ _ _ => True) (fun _ U o U' => ∃ v L, o = .returned v ∧ QP (.long r) h0 n0 v U'.heap L ∧ FrameEnd U o U' L ({ frames := 1, cells := 0, slots := 0, locals := 13 } : Room).cells ({ frames := 1, cells := 0, slots := 0, locals := 13 } : Room).slots) := by
  by_cases hc27 : ((((own_abs qx) ||| (own_abs qy)).toUInt64 >>> ((31 : Int32) &&& 0x3f).toInt64.toUInt64).toInt64) = (0 : Int64)
  · exact rm18_t l Z a0 hw ws qx qy h0 n0 Z0 hy hq hmin r (hr0.trans (if_pos hc27)) hc27
  · exact rm18_f l Z a0 hw ws qx qy h0 n0 Z0 hy hq hmin r (hr0.trans (if_neg hc27)) hc27
theorem d17_0 : decode jdk_2316_method_58_code 0 = .ok (.aload_n 0, 1) := by decide +kernel
theorem d17_1 : decode jdk_2316_method_58_code 1 = .ok (.getfield 221, 3) := by decide +kernel
theorem d17_4 : decode jdk_2316_method_58_code 4 = .ok (.lstore_n 1, 1) := by decide +kernel
theorem d17_5 : decode jdk_2316_method_58_code 5 = .ok (.aload_n 0, 1) := by decide +kernel
theorem d17_6 : decode jdk_2316_method_58_code 6 = .ok (.getfield 224, 3) := by decide +kernel
theorem d17_9 : decode jdk_2316_method_58_code 9 = .ok (.i2l, 1) := by decide +kernel
theorem d17_10 : decode jdk_2316_method_58_code 10 = .ok (.lstore_n 3, 1) := by decide +kernel
theorem d17_11 : decode jdk_2316_method_58_code 11 = .ok (.lload_n 1, 1) := by decide +kernel
theorem d17_12 : decode jdk_2316_method_58_code 12 = .ok (.lconst 0, 1) := by decide +kernel
theorem d17_13 : decode jdk_2316_method_58_code 13 = .ok (.lcmp, 1) := by decide +kernel
theorem d17_14 : decode jdk_2316_method_58_code 14 = .ok (.ifCond .ge 13, 3) := by decide +kernel
theorem d17_27 : decode jdk_2316_method_58_code 27 = .ok (.lload_n 1, 1) := by decide +kernel
theorem d17_28 : decode jdk_2316_method_58_code 28 = .ok (.ldc2_w 16, 3) := by decide +kernel
theorem d17_31 : decode jdk_2316_method_58_code 31 = .ok (.invokestatic 289, 3) := by decide +kernel
theorem d17_34 : decode jdk_2316_method_58_code 34 = .ok (.lstore 5, 2) := by decide +kernel
theorem d17_36 : decode jdk_2316_method_58_code 36 = .ok (.lload 5, 2) := by decide +kernel
theorem d17_38 : decode jdk_2316_method_58_code 38 = .ok (.lload_n 3, 1) := by decide +kernel
theorem d17_39 : decode jdk_2316_method_58_code 39 = .ok (.invokestatic 22, 3) := by decide +kernel
theorem d17_42 : decode jdk_2316_method_58_code 42 = .ok (.lstore 5, 2) := by decide +kernel
theorem d17_44 : decode jdk_2316_method_58_code 44 = .ok (.lload 5, 2) := by decide +kernel
theorem d17_46 : decode jdk_2316_method_58_code 46 = .ok (.lreturn, 1) := by decide +kernel
theorem ef_rm17 (m : MethodId) (ak : Addr) : entryFrame m #[(.ref ak)] 7 = mkF m 0 #[.val (.ref ak), .unset, .unset, .unset, .unset, .unset, .unset] [] := by first | (simp [entryFrame, mkF, argsToLocals, Value.category]; done) | rfl
set_option maxRecDepth 65536 in
set_option maxHeartbeats 40000000 in
theorem rm17 (l : Launch) (Z : State) (a0 : Array Value) (hw : ∀ d ∈ tables_1, d.before a0 Z = true) (ws : List Jvm.Cond) (ak : Addr) (sv : Int64) (nv : Int32) (h0 : Heap) (n0 : Nat) (Z0 : n0 ≤ h0.size) (E_ak : Exa Z h0 ak "java/time/Duration") (F_aks : Fld Z h0 ak "java/time/Duration" "seconds" "J" (.long sv)) (F_akn : Fld Z h0 ak "java/time/Duration" "nanos" "I" (.int nv)) (hs : ¬ sv < (0 : Int64)) (hq : (sv * (1000000000 : Int64)) / (1000000000 : Int64) = sv) (hmin : ¬ sv = (-9223372036854775808 : Int64)) (hno : own_fit (sv * (1000000000 : Int64)) (nv.toInt64)) (r : Int64) (hr0 : r = ((sv * (1000000000 : Int64)) + (nv.toInt64))) :
    MetFree l (⟨"java/time/Duration", "toNanos", "()J"⟩ : MethodName) (head1 (Jvm.Cond.code (⟨"java/time/Duration", "toNanos", "()J"⟩ : MethodName) jdk_2316_method_58_code 7 (some .long) :: ws) ({ frames := 2, cells := 0, slots := 0, locals := 34 } : Room)) (fun a U => a = #[(.ref ak)] ∧ Z.Warmed39 U.vm ∧ U.heap = h0) (fun _ _ _ _ _ => True) (fun _ U o U' => ∃ v L, o = .returned v ∧ QP (.long r) h0 n0 v U'.heap L ∧ FrameEnd U o U' L ({ frames := 2, cells := 0, slots := 0, locals := 34 } : Room).cells ({ frames := 2, cells := 0, slots := 0, locals := 34 } : Room).slots) := by
  rw [hr0]
  refine MetFree.of_bodySF (plainFor_of_name pnm_0) hisR ?_
  intro p e s m args below meth c s₁ Bd hml0 hP hK
  obtain ⟨rfl, hZ, hh⟩ := hP
  have hx := Bd.exec
  have hby := Bd.bytes
  have hml : c.maxLocals = 7 := hml0
  have hown : s.vm.findClass "java/time/Duration" = some m.cls := findClass_of_methodNamed Bd.named
  have hnm := (name_of_methodNamed Bd.named Bd.method).1
  have X0 : Stand p l e ({ frames := 2, cells := 0, slots := 0, locals := 34 } : Room) s m #[(.ref ak)] below meth c s₁ [] 0 0 := Stand.of_body Bd
  have e0 : s₁.heap = h0 := by rw [← hh, Bd.state]; rfl
  have N0 := Fr.nil n0
  have pre0 : ∀ t, Steps p.tables e below (s₁.setTop (mkF m 0 #[.val (.ref ak), .unset, .unset, .unset, .unset, .unset, .unset] [])) t → Steps p.tables e below (s₁.setTop (entryFrame m #[(.ref ak)] 7)) t := fun t k => castTop (ef_rm17 m ak) k
  obtain ⟨T1, X1, e1, st1⟩ := getF X0 hx hZ hown (host := "") (Or.inl (hw _ (List.mem_of_getElem? (i := 25) rfl))) Via.refl e0 F_aks (g := (mkF m 1 #[.val (.ref ak), .unset, .unset, .unset, .unset, .unset, .unset] [(.ref ak)])) rfl rfl (hb hby d17_1)
  obtain ⟨T2, X2, e2, st2⟩ := getF X1 hx hZ hown (host := "") (Or.inl (hw _ (List.mem_of_getElem? (i := 27) rfl))) Via.refl e1 F_akn (g := (mkF m 6 #[.val (.ref ak), .val (.long sv), .second, .unset, .unset, .unset, .unset] [(.ref ak)])) rfl rfl (hb hby d17_6)
  obtain ⟨_, _, ⟨T3, L3, k3, n3⟩, -, X3, ⟨Lc3, hQ3, l3, y3, z3⟩, st3⟩ := Jvm.LawKit.callS X2 hx (y := (⟨"java/lang/Math", "multiplyExact", "(JJ)J"⟩ : MethodName)) hown (mvT hZ (hw _ (List.mem_of_getElem? (i := 85) rfl))) (mvT hZ (hw _ (List.mem_of_getElem? (i := 86) rfl))) (mvT hZ (hw _ (List.mem_of_getElem? (i := 53) rfl))) (mvT hZ (hw _ (List.mem_of_getElem? (i := 87) rfl))) (by decide) (backOf (W := 0) (rm18 l Z a0 hw [] sv (1000000000 : Int64) h0 n0 Z0 (by decide) hq hmin (sv * (1000000000 : Int64)) (ite_self _).symm) hZ (hw _ (List.mem_of_getElem? (i := 87) rfl)) (hw _ (List.mem_of_getElem? (i := 53) rfl)) (by decide) (by decide)) (g := (mkF m 31 #[.val (.ref ak), .val (.long sv), .second, .val (.long (nv.toInt64)), .second, .unset, .unset] [(.long (1000000000 : Int64)), (.long sv)])) rfl (by rw [hml]; rfl) (argsL := [(.long sv), (.long (1000000000 : Int64))]) (rest := []) (lenOf pdm_2 rfl) rfl (by show 2 * 0 + _ ≤ _; exact Nat.le_of_eq rfl) (hb hby d17_31) (fun _ _ => ⟨rfl, e2, (by decide : 0 + 0 ≤ _), (by decide : 0 + 0 ≤ _)⟩)
  dsimp only [Pt.U, Pt.locs, Pt.cells, Pt.slots] at X3 l3 y3 z3 st3 hQ3
  subst l3 y3 z3
  obtain ⟨rfl, N3q, e3⟩ := hQ3
  have N3 := Fr.app N0 N3q
  obtain ⟨_, _, ⟨T4, L4, k4, n4⟩, -, X4, ⟨Lc4, hQ4, l4, y4, z4⟩, st4⟩ := Jvm.LawKit.callS X3 hx (y := (⟨"java/lang/Math", "addExact", "(JJ)J"⟩ : MethodName)) hown (mvT hZ (hw _ (List.mem_of_getElem? (i := 51) rfl))) (mvT hZ (hw _ (List.mem_of_getElem? (i := 52) rfl))) (mvT hZ (hw _ (List.mem_of_getElem? (i := 53) rfl))) (mvT hZ (hw _ (List.mem_of_getElem? (i := 54) rfl))) (by decide) (backOf (W := 0) (rm10 l Z a0 hw [] (sv * (1000000000 : Int64)) (nv.toInt64) h0 n0 Z0 hno ((sv * (1000000000 : Int64)) + (nv.toInt64)) rfl) hZ (hw _ (List.mem_of_getElem? (i := 54) rfl)) (hw _ (List.mem_of_getElem? (i := 53) rfl)) (by decide) (by decide)) (g := (mkF m 39 #[.val (.ref ak), .val (.long sv), .second, .val (.long (nv.toInt64)), .second, .val (.long (sv * (1000000000 : Int64))), .second] [(.long (nv.toInt64)), (.long (sv * (1000000000 : Int64)))])) rfl (by rw [hml]; rfl) (argsL := [(.long (sv * (1000000000 : Int64))), (.long (nv.toInt64))]) (rest := []) (lenOf pdm_2 rfl) rfl (by show 2 * 0 + _ ≤ _; exact Nat.le_of_eq rfl) (hb hby d17_39) (fun _ _ => ⟨rfl, e3, (by decide : 0 + 0 ≤ _), (by decide : 0 + 0 ≤ _)⟩)
  dsimp only [Pt.U, Pt.locs, Pt.cells, Pt.slots] at X4 l4 y4 z4 st4 hQ4
  subst l4 y4 z4
  obtain ⟨rfl, N4q, e4⟩ := hQ4
  have N4 := Fr.app N3 N4q
  obtain ⟨fs, hr, hrun, hended, hW, hsame⟩ := X4.leave (v := some (.long ((sv * (1000000000 : Int64)) + (nv.toInt64)))) (fun h => by rw [Bd.returns] at h; cases h)
  refine ⟨_, _, pre0 _ ?_, hrun, hended, _, _, rfl, ?_, ⟨_, rfl⟩, hW, hsame.mono (by decide) (by decide)⟩
  · show Steps p.tables e below (s₁.setTop (mkF m 0 #[.val (.ref ak), .unset, .unset, .unset, .unset, .unset, .unset] [])) _
    refine XS.aloadN X0.here hx rfl (hb hby d17_0) rfl rfl ?_
    show Steps p.tables e below (s₁.setTop (mkF m 1 #[.val (.ref ak), .unset, .unset, .unset, .unset, .unset, .unset] [(.ref ak)])) _
    refine st1 _ ?_
    show Steps p.tables e below (T1.setTop (mkF m 4 #[.val (.ref ak), .unset, .unset, .unset, .unset, .unset, .unset] [(.long sv)])) _
    refine XS.lstoreN X1.here hx rfl (hb hby d17_4) rfl (l' := #[.val (.ref ak), .val (.long sv), .second, .unset, .unset, .unset, .unset]) rfl ?_
    show Steps p.tables e below (T1.setTop (mkF m 5 #[.val (.ref ak), .val (.long sv), .second, .unset, .unset, .unset, .unset] [])) _
    refine XS.aloadN X1.here hx rfl (hb hby d17_5) rfl rfl ?_
    show Steps p.tables e below (T1.setTop (mkF m 6 #[.val (.ref ak), .val (.long sv), .second, .unset, .unset, .unset, .unset] [(.ref ak)])) _
    refine st2 _ ?_
    show Steps p.tables e below (T2.setTop (mkF m 9 #[.val (.ref ak), .val (.long sv), .second, .unset, .unset, .unset, .unset] [(.int nv)])) _
    refine XS.i2l X2.here hx rfl (hb hby d17_9) rfl ?_
    show Steps p.tables e below (T2.setTop (mkF m 10 #[.val (.ref ak), .val (.long sv), .second, .unset, .unset, .unset, .unset] [(.long (nv.toInt64))])) _
    refine XS.lstoreN X2.here hx rfl (hb hby d17_10) rfl (l' := #[.val (.ref ak), .val (.long sv), .second, .val (.long (nv.toInt64)), .second, .unset, .unset]) rfl ?_
    show Steps p.tables e below (T2.setTop (mkF m 11 #[.val (.ref ak), .val (.long sv), .second, .val (.long (nv.toInt64)), .second, .unset, .unset] [])) _
    refine XS.lloadN X2.here hx rfl (hb hby d17_11) rfl ?_
    show Steps p.tables e below (T2.setTop (mkF m 12 #[.val (.ref ak), .val (.long sv), .second, .val (.long (nv.toInt64)), .second, .unset, .unset] [(.long sv)])) _
    refine XS.lconst X2.here hx rfl (hb hby d17_12) ?_
    show Steps p.tables e below (T2.setTop (mkF m 13 #[.val (.ref ak), .val (.long sv), .second, .val (.long (nv.toInt64)), .second, .unset, .unset] [(.long (0 : Int64)), (.long sv)])) _
    refine XS.lcmp X2.here hx rfl (hb hby d17_13) rfl ?_
    show Steps p.tables e below (T2.setTop (mkF m 14 #[.val (.ref ak), .val (.long sv), .second, .val (.long (nv.toInt64)), .second, .unset, .unset] [(.int (lcmpW sv (0 : Int64)))])) _
    refine XS.ifYes X2.here hx rfl (pc0 := 14) (pc' := 27) rfl (hb hby d17_14) rfl ((if0 _ _).trans (flt (fun q => (hs) ((lw_lt sv (0 : Int64)).mp q))).2.1) (by decide) (by decide) ?_
    show Steps p.tables e below (T2.setTop (mkF m 27 #[.val (.ref ak), .val (.long sv), .second, .val (.long (nv.toInt64)), .second, .unset, .unset] [])) _
    refine XS.lloadN X2.here hx rfl (hb hby d17_27) rfl ?_
    show Steps p.tables e below (T2.setTop (mkF m 28 #[.val (.ref ak), .val (.long sv), .second, .val (.long (nv.toInt64)), .second, .unset, .unset] [(.long sv)])) _
    refine X2.ldc2Long hx hown (mvT hZ (hw _ (List.mem_of_getElem? (i := 55) rfl))) (g := (mkF m 28 #[.val (.ref ak), .val (.long sv), .second, .val (.long (nv.toInt64)), .second, .unset, .unset] [(.long sv)])) rfl (hb hby d17_28) _ ?_
    show Steps p.tables e below (T2.setTop (mkF m 31 #[.val (.ref ak), .val (.long sv), .second, .val (.long (nv.toInt64)), .second, .unset, .unset] [(.long (1000000000 : Int64)), (.long sv)])) _
    refine st3 _ ?_
    show Steps p.tables e below (T3.setTop (mkF m 34 #[.val (.ref ak), .val (.long sv), .second, .val (.long (nv.toInt64)), .second, .unset, .unset] [(.long (sv * (1000000000 : Int64)))])) _
    refine XS.lstore X3.here hx rfl (hb hby d17_34) rfl (l' := #[.val (.ref ak), .val (.long sv), .second, .val (.long (nv.toInt64)), .second, .val (.long (sv * (1000000000 : Int64))), .second]) rfl ?_
    show Steps p.tables e below (T3.setTop (mkF m 36 #[.val (.ref ak), .val (.long sv), .second, .val (.long (nv.toInt64)), .second, .val (.long (sv * (1000000000 : Int64))), .second] [])) _
    refine XS.lload X3.here hx rfl (hb hby d17_36) rfl ?_
    show Steps p.tables e below (T3.setTop (mkF m 38 #[.val (.ref ak), .val (.long sv), .second, .val (.long (nv.toInt64)), .second, .val (.long (sv * (1000000000 : Int64))), .second] [(.long (sv * (1000000000 : Int64)))])) _
    refine XS.lloadN X3.here hx rfl (hb hby d17_38) rfl ?_
    show Steps p.tables e below (T3.setTop (mkF m 39 #[.val (.ref ak), .val (.long sv), .second, .val (.long (nv.toInt64)), .second, .val (.long (sv * (1000000000 : Int64))), .second] [(.long (nv.toInt64)), (.long (sv * (1000000000 : Int64)))])) _
    refine st4 _ ?_
    show Steps p.tables e below (T4.setTop (mkF m 42 #[.val (.ref ak), .val (.long sv), .second, .val (.long (nv.toInt64)), .second, .val (.long (sv * (1000000000 : Int64))), .second] [(.long ((sv * (1000000000 : Int64)) + (nv.toInt64)))])) _
    refine XS.lstore X4.here hx rfl (hb hby d17_42) rfl (l' := #[.val (.ref ak), .val (.long sv), .second, .val (.long (nv.toInt64)), .second, .val (.long ((sv * (1000000000 : Int64)) + (nv.toInt64))), .second]) rfl ?_
    show Steps p.tables e below (T4.setTop (mkF m 44 #[.val (.ref ak), .val (.long sv), .second, .val (.long (nv.toInt64)), .second, .val (.long ((sv * (1000000000 : Int64)) + (nv.toInt64))), .second] [])) _
    refine XS.lload X4.here hx rfl (hb hby d17_44) rfl ?_
    show Steps p.tables e below (T4.setTop (mkF m 46 #[.val (.ref ak), .val (.long sv), .second, .val (.long (nv.toInt64)), .second, .val (.long ((sv * (1000000000 : Int64)) + (nv.toInt64))), .second] [(.long ((sv * (1000000000 : Int64)) + (nv.toInt64)))])) _
    exact retOut X4 hx Bd.returns rfl (Or.inr (Or.inl ⟨rfl, rfl, _, rfl⟩)) (hb hby d17_46) hr
  · show QP (.long ((sv * (1000000000 : Int64)) + (nv.toInt64))) h0 n0 _ T4.heap _
    rw [e4]
    exact ⟨rfl, N4, rfl⟩
theorem d14_0 : decode prog_3_method_2_code 0 = .ok (.aload_n 2, 1) := by decide +kernel
theorem d14_1 : decode prog_3_method_2_code 1 = .ok (.getstatic 13, 3) := by decide +kernel
theorem d14_4 : decode prog_3_method_2_code 4 = .ok (.invokevirtual 17, 3) := by decide +kernel
theorem pdm_8 : parseMethodDescriptor "(Ljava/time/Duration;)I" = some ⟨[(.object "java/time/Duration")], some .int⟩ := by decide +kernel
theorem d14_7 : decode prog_3_method_2_code 7 = .ok (.ifCond .le 9, 3) := by decide +kernel
theorem d14_16 : decode prog_3_method_2_code 16 = .ok (.aload_n 2, 1) := by decide +kernel
theorem d14_17 : decode prog_3_method_2_code 17 = .ok (.invokevirtual 27, 3) := by decide +kernel
theorem d14_20 : decode prog_3_method_2_code 20 = .ok (.lstore_n 3, 1) := by decide +kernel
theorem d14_21 : decode prog_3_method_2_code 21 = .ok (.new 8, 3) := by decide +kernel
theorem d14_24 : decode prog_3_method_2_code 24 = .ok (.dup, 1) := by decide +kernel
theorem d14_25 : decode prog_3_method_2_code 25 = .ok (.lload_n 0, 1) := by decide +kernel
theorem d14_26 : decode prog_3_method_2_code 26 = .ok (.lload_n 3, 1) := by decide +kernel
theorem d14_27 : decode prog_3_method_2_code 27 = .ok (.ladd, 1) := by decide +kernel
theorem d14_28 : decode prog_3_method_2_code 28 = .ok (.invokespecial 31, 3) := by decide +kernel
theorem pdm_9 : parseMethodDescriptor "(J)V" = some ⟨[.long], none⟩ := by decide +kernel
theorem d14_31 : decode prog_3_method_2_code 31 = .ok (.areturn, 1) := by decide +kernel
theorem d14_10 : decode prog_3_method_2_code 10 = .ok (.ldc2_w 25, 3) := by decide +kernel
theorem d14_13 : decode prog_3_method_2_code 13 = .ok (.goto 7, 3) := by decide +kernel
theorem pnm_2 : plainName "com/example/strict_lock/strictlock/Deadline" = true := by first | (simp [plainName, overriddenIn]; done) | decide +kernel
theorem ef_rm14 (m : MethodId) (qt : Int64) (ak : Addr) : entryFrame m #[(.long qt), (.ref ak)] 5 = mkF m 0 #[.val (.long qt), .second, .val (.ref ak), .unset, .unset] [] := by first | (simp [entryFrame, mkF, argsToLocals, Value.category]; done) | rfl
set_option maxRecDepth 65536 in
set_option maxHeartbeats 40000000 in
theorem rm14_t (l : Launch) (Z : State) (a0 : Array Value) (hw : ∀ d ∈ tables_1, d.before a0 Z = true) (ws : List Jvm.Cond) (qt : Int64) (ak : Addr) (sv : Int64) (nv : Int32) (sp : Int64) (w_LC : Addr) (h0 : Heap) (n0 : Nat) (Z0 : n0 ≤ h0.size) (E_ak : Exa Z h0 ak "java/time/Duration") (F_aks : Fld Z h0 ak "java/time/Duration" "seconds" "J" (.long sv)) (F_akn : Fld Z h0 ak "java/time/Duration" "nanos" "I" (.int nv)) (S_LC : Sta Z h0 "com/example/strict_lock/strictlock/Deadline" "LONGEST_COUNTABLE" "Ljava/time/Duration;" (.ref w_LC)) (E_w_LC : Exa Z h0 w_LC "java/time/Duration") (F_w_LCs : Fld Z h0 w_LC "java/time/Duration" "seconds" "J" (.long (9223372036 : Int64))) (F_w_LCn : Fld Z h0 w_LC "java/time/Duration" "nanos" "I" (.int (854775807 : Int32))) (hs : ¬ sv < (0 : Int64)) (hmin : ¬ sv = (-9223372036854775808 : Int64)) (hq : ¬ (0 : Int32) < (own_cto sv nv) → (sv * (1000000000 : Int64)) / (1000000000 : Int64) = sv) (hno : ¬ (0 : Int32) < (own_cto sv nv) → own_fit (sv * (1000000000 : Int64)) (nv.toInt64)) (hsp1 : (0 : Int32) < (own_cto sv nv) → sp = (9223372036854775807 : Int64)) (hsp2 : ¬ (0 : Int32) < (own_cto sv nv) → sp = ((sv * (1000000000 : Int64)) + (nv.toInt64))) (hc7 : ¬ ((0 : Int32) < (own_cto sv nv))) :
    MetFree l (⟨"com/example/strict_lock/strictlock/Deadline", "after", "(JLjava/time/Duration;)Lcom/example/strict_lock/strictlock/Deadline;"⟩ : MethodName) (head1 (Jvm.Cond.code (⟨"com/example/strict_lock/strictlock/Deadline", "after", "(JLjava/time/Duration;)Lcom/example/strict_lock/strictlock/Deadline;"⟩ : MethodName) prog_3_method_2_code 5 (some (.object "com/example/strict_lock/strictlock/Deadline")) :: ws) ({ frames := 3, cells := 1, slots := 1, locals := 52 } : Room)) (fun a U => a = #[(.long qt), (.ref ak)] ∧ Z.Warmed39 U.vm ∧ U.heap = h0) (fun _ _ _ _ _ => True) (fun _ U o U' => ∃ v L, o = .returned v ∧ QW Z (qt + sp) h0 n0 v U'.heap L ∧ FrameEnd U o U' L ({ frames := 3, cells := 1, slots := 1, locals := 52 } : Room).cells ({ frames := 3, cells := 1, slots := 1, locals := 52 } : Room).slots) := by
  refine MetFree.of_bodySF (plainFor_of_name pnm_2) hisR ?_
  intro p e s m args below meth c s₁ Bd hml0 hP hK
  obtain ⟨rfl, hZ, hh⟩ := hP
  have hx := Bd.exec
  have hby := Bd.bytes
  have hml : c.maxLocals = 5 := hml0
  have hown : s.vm.findClass "com/example/strict_lock/strictlock/Deadline" = some m.cls := findClass_of_methodNamed Bd.named
  have hnm := (name_of_methodNamed Bd.named Bd.method).1
  have X0 : Stand p l e ({ frames := 3, cells := 1, slots := 1, locals := 52 } : Room) s m #[(.long qt), (.ref ak)] below meth c s₁ [] 0 0 := Stand.of_body Bd
  have e0 : s₁.heap = h0 := by rw [← hh, Bd.state]; rfl
  have N0 := Fr.nil n0
  have pre0 : ∀ t, Steps p.tables e below (s₁.setTop (mkF m 0 #[.val (.long qt), .second, .val (.ref ak), .unset, .unset] [])) t → Steps p.tables e below (s₁.setTop (entryFrame m #[(.long qt), (.ref ak)] 5)) t := fun t k => castTop (ef_rm14 m qt ak) k
  obtain ⟨T1, X1, e1, st1⟩ := getS2 X0 hx hZ hown (host := "") (Or.inl (hw _ (List.mem_of_getElem? (i := 69) rfl))) Via.refl e0 S_LC (g := (mkF m 1 #[.val (.long qt), .second, .val (.ref ak), .unset, .unset] [(.ref ak)])) rfl (hb hby d14_1)
  obtain ⟨cq2, kq2, q2a, q2b, q2c⟩ := isOf hZ e1 E_ak
  obtain ⟨_, _, ⟨T2, L2, k2, n2⟩, -, X2, ⟨Lc2, hQ2, l2, y2, z2⟩, st2⟩ := X1.virtualBack hx (y := (⟨"java/time/Duration", "compareTo", "(Ljava/time/Duration;)I"⟩ : MethodName)) (z := (⟨"java/time/Duration", "compareTo", "(Ljava/time/Duration;)I"⟩ : MethodName)) hown (mvT hZ (hw _ (List.mem_of_getElem? (i := 71) rfl))) (mvT hZ (hw _ (List.mem_of_getElem? (i := 72) rfl))) (notFace_of_selects (args := #[]) (mvT hZ (hw _ (List.mem_of_getElem? (i := 74) rfl)))) (mvT hZ (hw _ (List.mem_of_getElem? (i := 74) rfl))) (mvT hZ (hw _ (List.mem_of_getElem? (i := 73) rfl))) (by decide) (backOf (W := 0) (rm15 l Z a0 hw [] ak w_LC sv nv (9223372036 : Int64) (854775807 : Int32) h0 n0 Z0 E_ak F_aks F_akn E_w_LC F_w_LCs F_w_LCn (own_cto sv nv) rfl) hZ (hw _ (List.mem_of_getElem? (i := 75) rfl)) (hw _ (List.mem_of_getElem? (i := 9) rfl)) (by decide) (by decide)) q2a q2c (g := (mkF m 4 #[.val (.long qt), .second, .val (.ref ak), .unset, .unset] [(.ref w_LC), (.ref ak)])) rfl (by rw [hml]; rfl) (Steps.refl _) (argsL := [(.ref w_LC)]) (rest := []) (lenOf pdm_8 rfl) rfl (by show 2 * 0 + _ ≤ _; exact Nat.le_of_eq rfl) (hb hby d14_4) (fun _ _ => ⟨rfl, e1, (by decide : 0 + 0 ≤ _), (by decide : 0 + 0 ≤ _)⟩)
  dsimp only [Pt.U, Pt.locs, Pt.cells, Pt.slots] at X2 l2 y2 z2 st2 hQ2
  subst l2 y2 z2
  obtain ⟨rfl, N2q, e2⟩ := hQ2
  have N2 := Fr.app N0 N2q
  obtain ⟨cq3, kq3, q3a, q3b, q3c⟩ := isOf hZ e2 E_ak
  obtain ⟨_, _, ⟨T3, L3, k3, n3⟩, -, X3, ⟨Lc3, hQ3, l3, y3, z3⟩, st3⟩ := X2.virtualBack hx (y := (⟨"java/time/Duration", "toNanos", "()J"⟩ : MethodName)) (z := (⟨"java/time/Duration", "toNanos", "()J"⟩ : MethodName)) hown (mvT hZ (hw _ (List.mem_of_getElem? (i := 80) rfl))) (mvT hZ (hw _ (List.mem_of_getElem? (i := 81) rfl))) (notFace_of_selects (args := #[]) (mvT hZ (hw _ (List.mem_of_getElem? (i := 83) rfl)))) (mvT hZ (hw _ (List.mem_of_getElem? (i := 83) rfl))) (mvT hZ (hw _ (List.mem_of_getElem? (i := 82) rfl))) (by decide) (backOf (W := 0) (rm17 l Z a0 hw [] ak sv nv h0 n0 Z0 E_ak F_aks F_akn hs (hq hc7) hmin (hno hc7) ((sv * (1000000000 : Int64)) + (nv.toInt64)) rfl) hZ (hw _ (List.mem_of_getElem? (i := 84) rfl)) (hw _ (List.mem_of_getElem? (i := 9) rfl)) (by decide) (by decide)) q3a q3c (g := (mkF m 17 #[.val (.long qt), .second, .val (.ref ak), .unset, .unset] [(.ref ak)])) rfl (by rw [hml]; rfl) (Steps.refl _) (argsL := []) (rest := []) (lenOf pdm_4 rfl) rfl (by show 2 * 0 + _ ≤ _; exact Nat.le_of_eq rfl) (hb hby d14_17) (fun _ _ => ⟨rfl, e2, (by decide : 0 + 0 ≤ _), (by decide : 0 + 0 ≤ _)⟩)
  dsimp only [Pt.U, Pt.locs, Pt.cells, Pt.slots] at X3 l3 y3 z3 st3 hQ3
  subst l3 y3 z3
  obtain ⟨rfl, N3q, e3⟩ := hQ3
  have N3 := Fr.app N2 N3q
  obtain ⟨T4, h4, X4, e4, E4, A4, D4, -, st4⟩ := newO X3 hx hZ hown (hw _ (List.mem_of_getElem? (i := 91) rfl)) (hw _ (List.mem_of_getElem? (i := 92) rfl)) (hw _ (List.mem_of_getElem? (i := 67) rfl)) e3 (g := (mkF m 21 #[.val (.long qt), .second, .val (.ref ak), .val (.long ((sv * (1000000000 : Int64)) + (nv.toInt64))), .second] [])) rfl (hb hby d14_21) (by decide) (by decide)
  obtain ⟨b4, g4⟩ : ∃ z, z = h0.size := ⟨_, rfl⟩
  rw [← g4] at A4 D4 st4
  have gb4 : n0 ≤ b4 := Nat.le_trans Z0 (Nat.le_of_eq g4.symm)
  have F_nanos_b4 : Fld Z h4 b4 "com/example/strict_lock/strictlock/Deadline" "nanos" "J" (.long (0 : Int64)) := D4 (Or.inr (hw _ (List.mem_of_getElem? (i := 98) rfl))) (ty := .long) (by decide)
  obtain ⟨_, _, ⟨T5, L5, k5, n5⟩, -, X5, ⟨Lc5, hQ5, l5, y5, z5⟩, st5⟩ := X4.specialBack hx (y := (⟨"com/example/strict_lock/strictlock/Deadline", "<init>", "(J)V"⟩ : MethodName)) rfl hown (mvT hZ (hw _ (List.mem_of_getElem? (i := 93) rfl))) (mvT hZ (hw _ (List.mem_of_getElem? (i := 94) rfl))) (mvT hZ (hw _ (List.mem_of_getElem? (i := 95) rfl))) (by decide) (backOf (W := 1) (rm20 l Z a0 hw [] b4 (qt + ((sv * (1000000000 : Int64)) + (nv.toInt64))) _ h4 n0 (Nat.le_trans Z0 E4.1) A4 F_nanos_b4 gb4) hZ (hw _ (List.mem_of_getElem? (i := 95) rfl)) (hw _ (List.mem_of_getElem? (i := 67) rfl)) (by decide) (by decide)) (g := (mkF m 28 #[.val (.long qt), .second, .val (.ref ak), .val (.long ((sv * (1000000000 : Int64)) + (nv.toInt64))), .second] [(.long (qt + ((sv * (1000000000 : Int64)) + (nv.toInt64)))), (.ref b4), (.ref b4)])) rfl (by rw [hml]; rfl) (Steps.refl _) (a := b4) (argsL := [(.long (qt + ((sv * (1000000000 : Int64)) + (nv.toInt64))))]) (rest := [(.ref b4)]) (lenOf pdm_9 rfl) rfl (by show 2 * 0 + _ ≤ _; exact Nat.le_of_eq rfl) (hb hby d14_28) (fun _ _ => ⟨rfl, e4, (by decide : 1 + 0 ≤ _), (by decide : 1 + 0 ≤ _)⟩)
  dsimp only [Pt.U, Pt.locs, Pt.cells, Pt.slots] at X5 l5 y5 z5 st5 hQ5
  subst l5 y5 z5
  obtain ⟨rfl, N5q, K5, A5c, Fn5⟩ := hQ5
  have Ec5 := own_extK E4 g4 K5
  have N5 := Fr.app N3 N5q
  obtain ⟨fs, hr, hrun, hended, hW, hsame⟩ := X5.leave (v := some (.ref b4)) (fun h => by rw [Bd.returns] at h; cases h)
  refine ⟨_, _, pre0 _ ?_, hrun, hended, _, _, rfl, ?_, ⟨_, rfl⟩, hW, hsame.mono (by decide) (by decide)⟩
  · show Steps p.tables e below (s₁.setTop (mkF m 0 #[.val (.long qt), .second, .val (.ref ak), .unset, .unset] [])) _
    refine XS.aloadN X0.here hx rfl (hb hby d14_0) rfl rfl ?_
    show Steps p.tables e below (s₁.setTop (mkF m 1 #[.val (.long qt), .second, .val (.ref ak), .unset, .unset] [(.ref ak)])) _
    refine st1 _ ?_
    show Steps p.tables e below (T1.setTop (mkF m 4 #[.val (.long qt), .second, .val (.ref ak), .unset, .unset] [(.ref w_LC), (.ref ak)])) _
    refine st2.trans ?_
    show Steps p.tables e below (T2.setTop (mkF m 7 #[.val (.long qt), .second, .val (.ref ak), .unset, .unset] [(.int (own_cto sv nv))])) _
    refine XS.ifYes X2.here hx rfl (pc0 := 7) (pc' := 16) rfl (hb hby d14_7) rfl ((if0 _ _).trans (flt hc7).2.2.2) (by decide) (by decide) ?_
    show Steps p.tables e below (T2.setTop (mkF m 16 #[.val (.long qt), .second, .val (.ref ak), .unset, .unset] [])) _
    refine XS.aloadN X2.here hx rfl (hb hby d14_16) rfl rfl ?_
    show Steps p.tables e below (T2.setTop (mkF m 17 #[.val (.long qt), .second, .val (.ref ak), .unset, .unset] [(.ref ak)])) _
    refine st3.trans ?_
    show Steps p.tables e below (T3.setTop (mkF m 20 #[.val (.long qt), .second, .val (.ref ak), .unset, .unset] [(.long ((sv * (1000000000 : Int64)) + (nv.toInt64)))])) _
    refine XS.lstoreN X3.here hx rfl (hb hby d14_20) rfl (l' := #[.val (.long qt), .second, .val (.ref ak), .val (.long ((sv * (1000000000 : Int64)) + (nv.toInt64))), .second]) rfl ?_
    show Steps p.tables e below (T3.setTop (mkF m 21 #[.val (.long qt), .second, .val (.ref ak), .val (.long ((sv * (1000000000 : Int64)) + (nv.toInt64))), .second] [])) _
    refine st4 _ ?_
    show Steps p.tables e below (T4.setTop (mkF m 24 #[.val (.long qt), .second, .val (.ref ak), .val (.long ((sv * (1000000000 : Int64)) + (nv.toInt64))), .second] [(.ref b4)])) _
    refine XS.dup X4.here hx rfl (hb hby d14_24) rfl rfl ?_
    show Steps p.tables e below (T4.setTop (mkF m 25 #[.val (.long qt), .second, .val (.ref ak), .val (.long ((sv * (1000000000 : Int64)) + (nv.toInt64))), .second] [(.ref b4), (.ref b4)])) _
    refine XS.lloadN X4.here hx rfl (hb hby d14_25) rfl ?_
    show Steps p.tables e below (T4.setTop (mkF m 26 #[.val (.long qt), .second, .val (.ref ak), .val (.long ((sv * (1000000000 : Int64)) + (nv.toInt64))), .second] [(.long qt), (.ref b4), (.ref b4)])) _
    refine XS.lloadN X4.here hx rfl (hb hby d14_26) rfl ?_
    show Steps p.tables e below (T4.setTop (mkF m 27 #[.val (.long qt), .second, .val (.ref ak), .val (.long ((sv * (1000000000 : Int64)) + (nv.toInt64))), .second] [(.long ((sv * (1000000000 : Int64)) + (nv.toInt64))), (.long qt), (.ref b4), (.ref b4)])) _
    refine XS.ladd X4.here hx rfl (hb hby d14_27) rfl ?_
    show Steps p.tables e below (T4.setTop (mkF m 28 #[.val (.long qt), .second, .val (.ref ak), .val (.long ((sv * (1000000000 : Int64)) + (nv.toInt64))), .second] [(.long (qt + ((sv * (1000000000 : Int64)) + (nv.toInt64)))), (.ref b4), (.ref b4)])) _
    refine st5.trans ?_
    show Steps p.tables e below (T5.setTop (mkF m 31 #[.val (.long qt), .second, .val (.ref ak), .val (.long ((sv * (1000000000 : Int64)) + (nv.toInt64))), .second] [(.ref b4)])) _
    exact retOut X5 hx Bd.returns rfl (Or.inr (Or.inr (Or.inr (Or.inr ⟨rfl, rfl, rfl⟩)))) (hb hby d14_31) hr
  · show QW Z (qt + sp) h0 n0 _ T5.heap _
    rw [hsp2 hc7]
    exact ⟨b4, rfl, N5, Ec5, A5c, Fn5⟩
set_option maxRecDepth 65536 in
set_option maxHeartbeats 40000000 in
theorem rm14_f (l : Launch) (Z : State) (a0 : Array Value) (hw : ∀ d ∈ tables_1, d.before a0 Z = true) (ws : List Jvm.Cond) (qt : Int64) (ak : Addr) (sv : Int64) (nv : Int32) (sp : Int64) (w_LC : Addr) (h0 : Heap) (n0 : Nat) (Z0 : n0 ≤ h0.size) (E_ak : Exa Z h0 ak "java/time/Duration") (F_aks : Fld Z h0 ak "java/time/Duration" "seconds" "J" (.long sv)) (F_akn : Fld Z h0 ak "java/time/Duration" "nanos" "I" (.int nv)) (S_LC : Sta Z h0 "com/example/strict_lock/strictlock/Deadline" "LONGEST_COUNTABLE" "Ljava/time/Duration;" (.ref w_LC)) (E_w_LC : Exa Z h0 w_LC "java/time/Duration") (F_w_LCs : Fld Z h0 w_LC "java/time/Duration" "seconds" "J" (.long (9223372036 : Int64))) (F_w_LCn : Fld Z h0 w_LC "java/time/Duration" "nanos" "I" (.int (854775807 : Int32))) (hs : ¬ sv < (0 : Int64)) (hmin : ¬ sv = (-9223372036854775808 : Int64)) (hq : ¬ (0 : Int32) < (own_cto sv nv) → (sv * (1000000000 : Int64)) / (1000000000 : Int64) = sv) (hno : ¬ (0 : Int32) < (own_cto sv nv) → own_fit (sv * (1000000000 : Int64)) (nv.toInt64)) (hsp1 : (0 : Int32) < (own_cto sv nv) → sp = (9223372036854775807 : Int64)) (hsp2 : ¬ (0 : Int32) < (own_cto sv nv) → sp = ((sv * (1000000000 : Int64)) + (nv.toInt64))) (hc7 : (0 : Int32) < (own_cto sv nv)) :
    MetFree l (⟨"com/example/strict_lock/strictlock/Deadline", "after", "(JLjava/time/Duration;)Lcom/example/strict_lock/strictlock/Deadline;"⟩ : MethodName) (head1 (Jvm.Cond.code (⟨"com/example/strict_lock/strictlock/Deadline", "after", "(JLjava/time/Duration;)Lcom/example/strict_lock/strictlock/Deadline;"⟩ : MethodName) prog_3_method_2_code 5 (some (.object "com/example/strict_lock/strictlock/Deadline")) :: ws) ({ frames := 3, cells := 1, slots := 1, locals := 52 } : Room)) (fun a U => a = #[(.long qt), (.ref ak)] ∧ Z.Warmed39 U.vm ∧ U.heap = h0) (fun _ _ _ _ _ => True) (fun _ U o U' => ∃ v L, o = .returned v ∧ QW Z (qt + sp) h0 n0 v U'.heap L ∧ FrameEnd U o U' L ({ frames := 3, cells := 1, slots := 1, locals := 52 } : Room).cells ({ frames := 3, cells := 1, slots := 1, locals := 52 } : Room).slots) := by
  refine MetFree.of_bodySF (plainFor_of_name pnm_2) hisR ?_
  intro p e s m args below meth c s₁ Bd hml0 hP hK
  obtain ⟨rfl, hZ, hh⟩ := hP
  have hx := Bd.exec
  have hby := Bd.bytes
  have hml : c.maxLocals = 5 := hml0
  have hown : s.vm.findClass "com/example/strict_lock/strictlock/Deadline" = some m.cls := findClass_of_methodNamed Bd.named
  have hnm := (name_of_methodNamed Bd.named Bd.method).1
  have X0 : Stand p l e ({ frames := 3, cells := 1, slots := 1, locals := 52 } : Room) s m #[(.long qt), (.ref ak)] below meth c s₁ [] 0 0 := Stand.of_body Bd
  have e0 : s₁.heap = h0 := by rw [← hh, Bd.state]; rfl
  have N0 := Fr.nil n0
  have pre0 : ∀ t, Steps p.tables e below (s₁.setTop (mkF m 0 #[.val (.long qt), .second, .val (.ref ak), .unset, .unset] [])) t → Steps p.tables e below (s₁.setTop (entryFrame m #[(.long qt), (.ref ak)] 5)) t := fun t k => castTop (ef_rm14 m qt ak) k
  obtain ⟨T1, X1, e1, st1⟩ := getS2 X0 hx hZ hown (host := "") (Or.inl (hw _ (List.mem_of_getElem? (i := 69) rfl))) Via.refl e0 S_LC (g := (mkF m 1 #[.val (.long qt), .second, .val (.ref ak), .unset, .unset] [(.ref ak)])) rfl (hb hby d14_1)
  obtain ⟨cq2, kq2, q2a, q2b, q2c⟩ := isOf hZ e1 E_ak
  obtain ⟨_, _, ⟨T2, L2, k2, n2⟩, -, X2, ⟨Lc2, hQ2, l2, y2, z2⟩, st2⟩ := X1.virtualBack hx (y := (⟨"java/time/Duration", "compareTo", "(Ljava/time/Duration;)I"⟩ : MethodName)) (z := (⟨"java/time/Duration", "compareTo", "(Ljava/time/Duration;)I"⟩ : MethodName)) hown (mvT hZ (hw _ (List.mem_of_getElem? (i := 71) rfl))) (mvT hZ (hw _ (List.mem_of_getElem? (i := 72) rfl))) (notFace_of_selects (args := #[]) (mvT hZ (hw _ (List.mem_of_getElem? (i := 74) rfl)))) (mvT hZ (hw _ (List.mem_of_getElem? (i := 74) rfl))) (mvT hZ (hw _ (List.mem_of_getElem? (i := 73) rfl))) (by decide) (backOf (W := 0) (rm15 l Z a0 hw [] ak w_LC sv nv (9223372036 : Int64) (854775807 : Int32) h0 n0 Z0 E_ak F_aks F_akn E_w_LC F_w_LCs F_w_LCn (own_cto sv nv) rfl) hZ (hw _ (List.mem_of_getElem? (i := 75) rfl)) (hw _ (List.mem_of_getElem? (i := 9) rfl)) (by decide) (by decide)) q2a q2c (g := (mkF m 4 #[.val (.long qt), .second, .val (.ref ak), .unset, .unset] [(.ref w_LC), (.ref ak)])) rfl (by rw [hml]; rfl) (Steps.refl _) (argsL := [(.ref w_LC)]) (rest := []) (lenOf pdm_8 rfl) rfl (by show 2 * 0 + _ ≤ _; exact Nat.le_of_eq rfl) (hb hby d14_4) (fun _ _ => ⟨rfl, e1, (by decide : 0 + 0 ≤ _), (by decide : 0 + 0 ≤ _)⟩)
  dsimp only [Pt.U, Pt.locs, Pt.cells, Pt.slots] at X2 l2 y2 z2 st2 hQ2
  subst l2 y2 z2
  obtain ⟨rfl, N2q, e2⟩ := hQ2
  have N2 := Fr.app N0 N2q
  obtain ⟨T3, h3, X3, e3, E3, A3, D3, -, st3⟩ := newO X2 hx hZ hown (hw _ (List.mem_of_getElem? (i := 91) rfl)) (hw _ (List.mem_of_getElem? (i := 92) rfl)) (hw _ (List.mem_of_getElem? (i := 67) rfl)) e2 (g := (mkF m 21 #[.val (.long qt), .second, .val (.ref ak), .val (.long (9223372036854775807 : Int64)), .second] [])) rfl (hb hby d14_21) (by decide) (by decide)
  obtain ⟨b3, g3⟩ : ∃ z, z = h0.size := ⟨_, rfl⟩
  rw [← g3] at A3 D3 st3
  have gb3 : n0 ≤ b3 := Nat.le_trans Z0 (Nat.le_of_eq g3.symm)
  have F_nanos_b3 : Fld Z h3 b3 "com/example/strict_lock/strictlock/Deadline" "nanos" "J" (.long (0 : Int64)) := D3 (Or.inr (hw _ (List.mem_of_getElem? (i := 98) rfl))) (ty := .long) (by decide)
  obtain ⟨_, _, ⟨T4, L4, k4, n4⟩, -, X4, ⟨Lc4, hQ4, l4, y4, z4⟩, st4⟩ := X3.specialBack hx (y := (⟨"com/example/strict_lock/strictlock/Deadline", "<init>", "(J)V"⟩ : MethodName)) rfl hown (mvT hZ (hw _ (List.mem_of_getElem? (i := 93) rfl))) (mvT hZ (hw _ (List.mem_of_getElem? (i := 94) rfl))) (mvT hZ (hw _ (List.mem_of_getElem? (i := 95) rfl))) (by decide) (backOf (W := 1) (rm20 l Z a0 hw [] b3 (qt + (9223372036854775807 : Int64)) _ h3 n0 (Nat.le_trans Z0 E3.1) A3 F_nanos_b3 gb3) hZ (hw _ (List.mem_of_getElem? (i := 95) rfl)) (hw _ (List.mem_of_getElem? (i := 67) rfl)) (by decide) (by decide)) (g := (mkF m 28 #[.val (.long qt), .second, .val (.ref ak), .val (.long (9223372036854775807 : Int64)), .second] [(.long (qt + (9223372036854775807 : Int64))), (.ref b3), (.ref b3)])) rfl (by rw [hml]; rfl) (Steps.refl _) (a := b3) (argsL := [(.long (qt + (9223372036854775807 : Int64)))]) (rest := [(.ref b3)]) (lenOf pdm_9 rfl) rfl (by show 2 * 0 + _ ≤ _; exact Nat.le_of_eq rfl) (hb hby d14_28) (fun _ _ => ⟨rfl, e3, (by decide : 1 + 0 ≤ _), (by decide : 1 + 0 ≤ _)⟩)
  dsimp only [Pt.U, Pt.locs, Pt.cells, Pt.slots] at X4 l4 y4 z4 st4 hQ4
  subst l4 y4 z4
  obtain ⟨rfl, N4q, K4, A4c, Fn4⟩ := hQ4
  have Ec4 := own_extK E3 g3 K4
  have N4 := Fr.app N2 N4q
  obtain ⟨fs, hr, hrun, hended, hW, hsame⟩ := X4.leave (v := some (.ref b3)) (fun h => by rw [Bd.returns] at h; cases h)
  refine ⟨_, _, pre0 _ ?_, hrun, hended, _, _, rfl, ?_, ⟨_, rfl⟩, hW, hsame.mono (by decide) (by decide)⟩
  · show Steps p.tables e below (s₁.setTop (mkF m 0 #[.val (.long qt), .second, .val (.ref ak), .unset, .unset] [])) _
    refine XS.aloadN X0.here hx rfl (hb hby d14_0) rfl rfl ?_
    show Steps p.tables e below (s₁.setTop (mkF m 1 #[.val (.long qt), .second, .val (.ref ak), .unset, .unset] [(.ref ak)])) _
    refine st1 _ ?_
    show Steps p.tables e below (T1.setTop (mkF m 4 #[.val (.long qt), .second, .val (.ref ak), .unset, .unset] [(.ref w_LC), (.ref ak)])) _
    refine st2.trans ?_
    show Steps p.tables e below (T2.setTop (mkF m 7 #[.val (.long qt), .second, .val (.ref ak), .unset, .unset] [(.int (own_cto sv nv))])) _
    refine XS.ifNo X2.here hx rfl (hb hby d14_7) rfl ((if0 _ _).trans (tlt hc7).2.2.2) ?_
    show Steps p.tables e below (T2.setTop (mkF m 10 #[.val (.long qt), .second, .val (.ref ak), .unset, .unset] [])) _
    refine X2.ldc2Long hx hown (mvT hZ (hw _ (List.mem_of_getElem? (i := 115) rfl))) (g := (mkF m 10 #[.val (.long qt), .second, .val (.ref ak), .unset, .unset] [])) rfl (hb hby d14_10) _ ?_
    show Steps p.tables e below (T2.setTop (mkF m 13 #[.val (.long qt), .second, .val (.ref ak), .unset, .unset] [(.long (9223372036854775807 : Int64))])) _
    refine XS.goto X2.here hx rfl (pc0 := 13) (pc' := 20) rfl (hb hby d14_13) (by decide) (by decide) ?_
    show Steps p.tables e below (T2.setTop (mkF m 20 #[.val (.long qt), .second, .val (.ref ak), .unset, .unset] [(.long (9223372036854775807 : Int64))])) _
    refine XS.lstoreN X2.here hx rfl (hb hby d14_20) rfl (l' := #[.val (.long qt), .second, .val (.ref ak), .val (.long (9223372036854775807 : Int64)), .second]) rfl ?_
    show Steps p.tables e below (T2.setTop (mkF m 21 #[.val (.long qt), .second, .val (.ref ak), .val (.long (9223372036854775807 : Int64)), .second] [])) _
    refine st3 _ ?_
    show Steps p.tables e below (T3.setTop (mkF m 24 #[.val (.long qt), .second, .val (.ref ak), .val (.long (9223372036854775807 : Int64)), .second] [(.ref b3)])) _
    refine XS.dup X3.here hx rfl (hb hby d14_24) rfl rfl ?_
    show Steps p.tables e below (T3.setTop (mkF m 25 #[.val (.long qt), .second, .val (.ref ak), .val (.long (9223372036854775807 : Int64)), .second] [(.ref b3), (.ref b3)])) _
    refine XS.lloadN X3.here hx rfl (hb hby d14_25) rfl ?_
    show Steps p.tables e below (T3.setTop (mkF m 26 #[.val (.long qt), .second, .val (.ref ak), .val (.long (9223372036854775807 : Int64)), .second] [(.long qt), (.ref b3), (.ref b3)])) _
    refine XS.lloadN X3.here hx rfl (hb hby d14_26) rfl ?_
    show Steps p.tables e below (T3.setTop (mkF m 27 #[.val (.long qt), .second, .val (.ref ak), .val (.long (9223372036854775807 : Int64)), .second] [(.long (9223372036854775807 : Int64)), (.long qt), (.ref b3), (.ref b3)])) _
    refine XS.ladd X3.here hx rfl (hb hby d14_27) rfl ?_
    show Steps p.tables e below (T3.setTop (mkF m 28 #[.val (.long qt), .second, .val (.ref ak), .val (.long (9223372036854775807 : Int64)), .second] [(.long (qt + (9223372036854775807 : Int64))), (.ref b3), (.ref b3)])) _
    refine st4.trans ?_
    show Steps p.tables e below (T4.setTop (mkF m 31 #[.val (.long qt), .second, .val (.ref ak), .val (.long (9223372036854775807 : Int64)), .second] [(.ref b3)])) _
    exact retOut X4 hx Bd.returns rfl (Or.inr (Or.inr (Or.inr (Or.inr ⟨rfl, rfl, rfl⟩)))) (hb hby d14_31) hr
  · show QW Z (qt + sp) h0 n0 _ T4.heap _
    rw [hsp1 hc7]
    exact ⟨b3, rfl, N4, Ec4, A4c, Fn4⟩
set_option maxRecDepth 65536 in
set_option maxHeartbeats 40000000 in
theorem rm14 (l : Launch) (Z : State) (a0 : Array Value) (hw : ∀ d ∈ tables_1, d.before a0 Z = true) (ws : List Jvm.Cond) (qt : Int64) (ak : Addr) (sv : Int64) (nv : Int32) (sp : Int64) (w_LC : Addr) (h0 : Heap) (n0 : Nat) (Z0 : n0 ≤ h0.size) (E_ak : Exa Z h0 ak "java/time/Duration") (F_aks : Fld Z h0 ak "java/time/Duration" "seconds" "J" (.long sv)) (F_akn : Fld Z h0 ak "java/time/Duration" "nanos" "I" (.int nv)) (S_LC : Sta Z h0 "com/example/strict_lock/strictlock/Deadline" "LONGEST_COUNTABLE" "Ljava/time/Duration;" (.ref w_LC)) (E_w_LC : Exa Z h0 w_LC "java/time/Duration") (F_w_LCs : Fld Z h0 w_LC "java/time/Duration" "seconds" "J" (.long (9223372036 : Int64))) (F_w_LCn : Fld Z h0 w_LC "java/time/Duration" "nanos" "I" (.int (854775807 : Int32))) (hs : ¬ sv < (0 : Int64)) (hmin : ¬ sv = (-9223372036854775808 : Int64)) (hq : ¬ (0 : Int32) < (own_cto sv nv) → (sv * (1000000000 : Int64)) / (1000000000 : Int64) = sv) (hno : ¬ (0 : Int32) < (own_cto sv nv) → own_fit (sv * (1000000000 : Int64)) (nv.toInt64)) (hsp1 : (0 : Int32) < (own_cto sv nv) → sp = (9223372036854775807 : Int64)) (hsp2 : ¬ (0 : Int32) < (own_cto sv nv) → sp = ((sv * (1000000000 : Int64)) + (nv.toInt64))) :
    MetFree l (⟨"com/example/strict_lock/strictlock/Deadline", "after", "(JLjava/time/Duration;)Lcom/example/strict_lock/strictlock/Deadline;"⟩ : MethodName) (head1 (Jvm.Cond.code (⟨"com/example/strict_lock/strictlock/Deadline", "after", "(JLjava/time/Duration;)Lcom/example/strict_lock/strictlock/Deadline;"⟩ : MethodName) prog_3_method_2_code 5 (some (.object "com/example/strict_lock/strictlock/Deadline")) :: ws) ({ frames := 3, cells := 1, slots := 1, locals := 52 } : Room)) (fun a U => a = #[(.long qt), (.ref ak)] ∧ Z.Warmed39 U.vm ∧ U.heap = h0) (fun _ _ _ _ _ => True) (fun _ U o U' => ∃ v L, o = .returned v ∧ QW Z (qt + sp) h0 n0 v U'.heap L ∧ FrameEnd U o U' L ({ frames := 3, cells := 1, slots := 1, locals := 52 } : Room).cells ({ frames := 3, cells := 1, slots := 1, locals := 52 } : Room).slots) := by
  by_cases hc7 : (0 : Int32) < (own_cto sv nv)
  · exact rm14_f l Z a0 hw ws qt ak sv nv sp w_LC h0 n0 Z0 E_ak F_aks F_akn S_LC E_w_LC F_w_LCs F_w_LCn hs hmin hq hno hsp1 hsp2 hc7
  · exact rm14_t l Z a0 hw ws qt ak sv nv sp w_LC h0 n0 Z0 E_ak F_aks F_akn S_LC E_w_LC F_w_LCs F_w_LCn hs hmin hq hno hsp1 hsp2 hc7
theorem d1_0 : decode prog_32_method_2_code 0 = .ok (.lload_n 0, 1) := by decide +kernel
theorem d1_1 : decode prog_32_method_2_code 1 = .ok (.lload_n 2, 1) := by decide +kernel
theorem d1_2 : decode prog_32_method_2_code 2 = .ok (.invokestatic 66, 3) := by decide +kernel
theorem pdm_10 : parseMethodDescriptor "(J)Ljava/time/Duration;" = some ⟨[.long], some (.object "java/time/Duration")⟩ := by decide +kernel
theorem d1_5 : decode prog_32_method_2_code 5 = .ok (.getstatic 72, 3) := by decide +kernel
theorem d1_8 : decode prog_32_method_2_code 8 = .ok (.invokevirtual 76, 3) := by decide +kernel
theorem pdm_11 : parseMethodDescriptor "(Ljava/time/Duration;)Ljava/time/Duration;" = some ⟨[(.object "java/time/Duration")], some (.object "java/time/Duration")⟩ := by decide +kernel
theorem d1_11 : decode prog_32_method_2_code 11 = .ok (.invokestatic 80, 3) := by decide +kernel
theorem pdm_12 : parseMethodDescriptor "(JLjava/time/Duration;)Lcom/example/strict_lock/strictlock/Deadline;" = some ⟨[.long, (.object "java/time/Duration")], some (.object "com/example/strict_lock/strictlock/Deadline")⟩ := by decide +kernel
theorem d1_14 : decode prog_32_method_2_code 14 = .ok (.areturn, 1) := by decide +kernel
theorem pnm_3 : plainName "com/example/strict_lock/strictlock/Watcher" = true := by first | (simp [plainName, overriddenIn]; done) | decide +kernel
theorem ef_rm1 (m : MethodId) (qt : Int64) (qm : Int64) : entryFrame m #[(.long qt), (.long qm)] 4 = mkF m 0 #[.val (.long qt), .second, .val (.long qm), .second] [] := by first | (simp [entryFrame, mkF, argsToLocals, Value.category]; done) | rfl
set_option maxRecDepth 65536 in
set_option maxHeartbeats 40000000 in
theorem rm1 (l : Launch) (Z : State) (a0 : Array Value) (hw : ∀ d ∈ tables_1, d.before a0 Z = true) (ws : List Jvm.Cond) (qt : Int64) (qm : Int64) (w_LM : Addr) (w_LC : Addr) (w_Z : Addr) (h0 : Heap) (n0 : Nat) (Z0 : n0 ≤ h0.size) (S_LM : Sta Z h0 "com/example/strict_lock/strictlock/Watcher" "LAST_MILLISECOND" "Ljava/time/Duration;" (.ref w_LM)) (E_w_LM : Exa Z h0 w_LM "java/time/Duration") (F_w_LMs : Fld Z h0 w_LM "java/time/Duration" "seconds" "J" (.long (0 : Int64))) (F_w_LMn : Fld Z h0 w_LM "java/time/Duration" "nanos" "I" (.int (1000000 : Int32))) (S_LC : Sta Z h0 "com/example/strict_lock/strictlock/Deadline" "LONGEST_COUNTABLE" "Ljava/time/Duration;" (.ref w_LC)) (E_w_LC : Exa Z h0 w_LC "java/time/Duration") (F_w_LCs : Fld Z h0 w_LC "java/time/Duration" "seconds" "J" (.long (9223372036 : Int64))) (F_w_LCn : Fld Z h0 w_LC "java/time/Duration" "nanos" "I" (.int (854775807 : Int32))) (S_Z : Sta Z h0 "java/time/Duration" "ZERO" "Ljava/time/Duration;" (.ref w_Z)) (E_Z : Exa Z h0 w_Z "java/time/Duration") (F_Zs : Fld Z h0 w_Z "java/time/Duration" "seconds" "J" (.long (0 : Int64))) (F_Zn : Fld Z h0 w_Z "java/time/Duration" "nanos" "I" (.int (0 : Int32))) (hm : ¬ qm < (0 : Int64)) :
    MetFree l (⟨"com/example/strict_lock/strictlock/Watcher", "endOfKey", "(JJ)Lcom/example/strict_lock/strictlock/Deadline;"⟩ : MethodName) (head1 (Jvm.Cond.code (⟨"com/example/strict_lock/strictlock/Watcher", "endOfKey", "(JJ)Lcom/example/strict_lock/strictlock/Deadline;"⟩ : MethodName) prog_32_method_2_code 4 (some (.object "com/example/strict_lock/strictlock/Deadline")) :: ws) ({ frames := 6, cells := 3, slots := 5, locals := 95 } : Room)) (fun a U => a = #[(.long qt), (.long qm)] ∧ Z.Warmed39 U.vm ∧ U.heap = h0) (fun _ _ _ _ _ => True) (fun _ U o U' => ∃ v L, o = .returned v ∧ QW Z (qt + (own_span qm)) h0 n0 v U'.heap L ∧ FrameEnd U o U' L ({ frames := 6, cells := 3, slots := 5, locals := 95 } : Room).cells ({ frames := 6, cells := 3, slots := 5, locals := 95 } : Room).slots) := by
  refine MetFree.of_bodySF (plainFor_of_name pnm_3) hisR ?_
  intro p e s m args below meth c s₁ Bd hml0 hP hK
  obtain ⟨rfl, hZ, hh⟩ := hP
  have hx := Bd.exec
  have hby := Bd.bytes
  have hml : c.maxLocals = 4 := hml0
  have hown : s.vm.findClass "com/example/strict_lock/strictlock/Watcher" = some m.cls := findClass_of_methodNamed Bd.named
  have hnm := (name_of_methodNamed Bd.named Bd.method).1
  have X0 : Stand p l e ({ frames := 6, cells := 3, slots := 5, locals := 95 } : Room) s m #[(.long qt), (.long qm)] below meth c s₁ [] 0 0 := Stand.of_body Bd
  have e0 : s₁.heap = h0 := by rw [← hh, Bd.state]; rfl
  have N0 := Fr.nil n0
  have pre0 : ∀ t, Steps p.tables e below (s₁.setTop (mkF m 0 #[.val (.long qt), .second, .val (.long qm), .second] [])) t → Steps p.tables e below (s₁.setTop (entryFrame m #[(.long qt), (.long qm)] 4)) t := fun t k => castTop (ef_rm1 m qt qm) k
  obtain ⟨_, _, ⟨T1, L1, k1, n1⟩, -, X1, ⟨Lc1, hQ1, l1, y1, z1⟩, st1⟩ := Jvm.LawKit.callS X0 hx (y := (⟨"java/time/Duration", "ofMillis", "(J)Ljava/time/Duration;"⟩ : MethodName)) hown (mvT hZ (hw _ (List.mem_of_getElem? (i := 7) rfl))) (mvT hZ (hw _ (List.mem_of_getElem? (i := 8) rfl))) (mvT hZ (hw _ (List.mem_of_getElem? (i := 9) rfl))) (mvT hZ (hw _ (List.mem_of_getElem? (i := 10) rfl))) (by decide) (backOf (W := 2) (rm2 l Z a0 hw [] qm w_Z h0 n0 Z0 S_Z E_Z F_Zs F_Zn (own_hm qm hm)) hZ (hw _ (List.mem_of_getElem? (i := 10) rfl)) (hw _ (List.mem_of_getElem? (i := 9) rfl)) (by decide) (by decide)) (g := (mkF m 2 #[.val (.long qt), .second, .val (.long qm), .second] [(.long qm), (.long qt)])) rfl (by rw [hml]; rfl) (argsL := [(.long qm)]) (rest := [(.long qt)]) (lenOf pdm_10 rfl) rfl (by show 2 * 0 + _ ≤ _; exact Nat.le_of_eq rfl) (hb hby d1_2) (fun _ _ => ⟨rfl, e0, (by decide : 0 + 1 ≤ _), (by decide : 0 + 2 ≤ _)⟩)
  dsimp only [Pt.U, Pt.locs, Pt.cells, Pt.slots] at X1 l1 y1 z1 st1 hQ1
  subst l1 y1 z1
  obtain ⟨b1, rfl, N1q, Ex1, A1, Fs1, Fn1⟩ := hQ1
  have N1 := Fr.app N0 N1q
  obtain ⟨T2, X2, e2, st2⟩ := getS2 X1 hx hZ hown (host := "") (Or.inl (hw _ (List.mem_of_getElem? (i := 29) rfl))) Via.refl rfl (S_LM.ext Ex1) (g := (mkF m 5 #[.val (.long qt), .second, .val (.long qm), .second] [(.ref b1), (.long qt)])) rfl (hb hby d1_5)
  obtain ⟨cq3, kq3, q3a, q3b, q3c⟩ := isOf hZ e2 A1
  obtain ⟨_, _, ⟨T3, L3, k3, n3⟩, -, X3, ⟨Lc3, hQ3, l3, y3, z3⟩, st3⟩ := X2.virtualBack hx (y := (⟨"java/time/Duration", "plus", "(Ljava/time/Duration;)Ljava/time/Duration;"⟩ : MethodName)) (z := (⟨"java/time/Duration", "plus", "(Ljava/time/Duration;)Ljava/time/Duration;"⟩ : MethodName)) hown (mvT hZ (hw _ (List.mem_of_getElem? (i := 31) rfl))) (mvT hZ (hw _ (List.mem_of_getElem? (i := 32) rfl))) (notFace_of_selects (args := #[]) (mvT hZ (hw _ (List.mem_of_getElem? (i := 34) rfl)))) (mvT hZ (hw _ (List.mem_of_getElem? (i := 34) rfl))) (mvT hZ (hw _ (List.mem_of_getElem? (i := 33) rfl))) (by decide) (backOf (W := 2) (rm6 l Z a0 hw [] b1 w_LM (own_s1 qm) (own_n1 qm) w_Z T1.heap n0 (Nat.le_trans Z0 Ex1.1) A1 Fs1 Fn1 (E_w_LM.ext Ex1) (F_w_LMs.ext Ex1) (F_w_LMn.ext Ex1) (S_Z.ext Ex1) (E_Z.ext Ex1) (F_Zs.ext Ex1) (F_Zn.ext Ex1) (own_hno1 qm hm) (own_hno2 qm hm) (own_hno3 qm hm)) hZ (hw _ (List.mem_of_getElem? (i := 35) rfl)) (hw _ (List.mem_of_getElem? (i := 9) rfl)) (by decide) (by decide)) q3a q3c (g := (mkF m 8 #[.val (.long qt), .second, .val (.long qm), .second] [(.ref w_LM), (.ref b1), (.long qt)])) rfl (by rw [hml]; rfl) (Steps.refl _) (argsL := [(.ref w_LM)]) (rest := [(.long qt)]) (lenOf pdm_11 rfl) rfl (by show 2 * 0 + _ ≤ _; exact Nat.le_of_eq rfl) (hb hby d1_8) (fun _ _ => ⟨rfl, e2, (by decide : 1 + 1 ≤ _), (by decide : 2 + 2 ≤ _)⟩)
  dsimp only [Pt.U, Pt.locs, Pt.cells, Pt.slots] at X3 l3 y3 z3 st3 hQ3
  subst l3 y3 z3
  obtain ⟨b3, rfl, N3q, Ex3, A3, Fs3, Fn3⟩ := hQ3
  have N3 := Fr.app N1 N3q
  obtain ⟨_, _, ⟨T4, L4, k4, n4⟩, -, X4, ⟨Lc4, hQ4, l4, y4, z4⟩, st4⟩ := Jvm.LawKit.callS X3 hx (y := (⟨"com/example/strict_lock/strictlock/Deadline", "after", "(JLjava/time/Duration;)Lcom/example/strict_lock/strictlock/Deadline;"⟩ : MethodName)) hown (mvT hZ (hw _ (List.mem_of_getElem? (i := 65) rfl))) (mvT hZ (hw _ (List.mem_of_getElem? (i := 66) rfl))) (mvT hZ (hw _ (List.mem_of_getElem? (i := 67) rfl))) (mvT hZ (hw _ (List.mem_of_getElem? (i := 68) rfl))) (by decide) (backOf (W := 0) (rm14 l Z a0 hw [] qt b3 (own_s3 qm) (own_n3 qm) (own_span qm) w_LC T3.heap n0 (Nat.le_trans (Nat.le_trans Z0 Ex1.1) Ex3.1) A3 Fs3 Fn3 ((S_LC.ext Ex1).ext Ex3) ((E_w_LC.ext Ex1).ext Ex3) ((F_w_LCs.ext Ex1).ext Ex3) ((F_w_LCn.ext Ex1).ext Ex3) (own_hs qm hm) (own_hmin qm hm) (own_hq qm hm) (own_hno qm hm) (own_hsp1 qm hm) (own_hsp2 qm hm)) hZ (hw _ (List.mem_of_getElem? (i := 68) rfl)) (hw _ (List.mem_of_getElem? (i := 67) rfl)) (by decide) (by decide)) (g := (mkF m 11 #[.val (.long qt), .second, .val (.long qm), .second] [(.ref b3), (.long qt)])) rfl (by rw [hml]; rfl) (argsL := [(.long qt), (.ref b3)]) (rest := []) (lenOf pdm_12 rfl) rfl (by show 2 * 0 + _ ≤ _; exact Nat.le_of_eq rfl) (hb hby d1_11) (fun _ _ => ⟨rfl, rfl, (by decide : 2 + 1 ≤ _), (by decide : 4 + 1 ≤ _)⟩)
  dsimp only [Pt.U, Pt.locs, Pt.cells, Pt.slots] at X4 l4 y4 z4 st4 hQ4
  subst l4 y4 z4
  obtain ⟨b4, rfl, N4q, Ex4, A4, Fn4⟩ := hQ4
  have N4 := Fr.app N3 N4q
  obtain ⟨fs, hr, hrun, hended, hW, hsame⟩ := X4.leave (v := some (.ref b4)) (fun h => by rw [Bd.returns] at h; cases h)
  refine ⟨_, _, pre0 _ ?_, hrun, hended, _, _, rfl, ?_, ⟨_, rfl⟩, hW, hsame.mono (by decide) (by decide)⟩
  · show Steps p.tables e below (s₁.setTop (mkF m 0 #[.val (.long qt), .second, .val (.long qm), .second] [])) _
    refine XS.lloadN X0.here hx rfl (hb hby d1_0) rfl ?_
    show Steps p.tables e below (s₁.setTop (mkF m 1 #[.val (.long qt), .second, .val (.long qm), .second] [(.long qt)])) _
    refine XS.lloadN X0.here hx rfl (hb hby d1_1) rfl ?_
    show Steps p.tables e below (s₁.setTop (mkF m 2 #[.val (.long qt), .second, .val (.long qm), .second] [(.long qm), (.long qt)])) _
    refine st1 _ ?_
    show Steps p.tables e below (T1.setTop (mkF m 5 #[.val (.long qt), .second, .val (.long qm), .second] [(.ref b1), (.long qt)])) _
    refine st2 _ ?_
    show Steps p.tables e below (T2.setTop (mkF m 8 #[.val (.long qt), .second, .val (.long qm), .second] [(.ref w_LM), (.ref b1), (.long qt)])) _
    refine st3.trans ?_
    show Steps p.tables e below (T3.setTop (mkF m 11 #[.val (.long qt), .second, .val (.long qm), .second] [(.ref b3), (.long qt)])) _
    refine st4 _ ?_
    show Steps p.tables e below (T4.setTop (mkF m 14 #[.val (.long qt), .second, .val (.long qm), .second] [(.ref b4)])) _
    exact retOut X4 hx Bd.returns rfl (Or.inr (Or.inr (Or.inr (Or.inr ⟨rfl, rfl, rfl⟩)))) (hb hby d1_14) hr
  · show QW Z (qt + (own_span qm)) h0 n0 _ T4.heap _
    exact ⟨b4, rfl, N4, (own_ext_trans (own_ext_trans Ex1 Ex3) Ex4), A4, Fn4⟩
theorem d21_0 : decode prog_3_method_4_code 0 = .ok (.aload_n 0, 1) := by decide +kernel
theorem d21_1 : decode prog_3_method_4_code 1 = .ok (.getfield 7, 3) := by decide +kernel
theorem d21_4 : decode prog_3_method_4_code 4 = .ok (.lload_n 1, 1) := by decide +kernel
theorem d21_5 : decode prog_3_method_4_code 5 = .ok (.lsub, 1) := by decide +kernel
theorem d21_6 : decode prog_3_method_4_code 6 = .ok (.lstore_n 3, 1) := by decide +kernel
theorem d21_7 : decode prog_3_method_4_code 7 = .ok (.lload_n 3, 1) := by decide +kernel
theorem d21_8 : decode prog_3_method_4_code 8 = .ok (.lconst 0, 1) := by decide +kernel
theorem d21_9 : decode prog_3_method_4_code 9 = .ok (.lcmp, 1) := by decide +kernel
theorem d21_10 : decode prog_3_method_4_code 10 = .ok (.ifCond .le 10, 3) := by decide +kernel
theorem d21_20 : decode prog_3_method_4_code 20 = .ok (.getstatic 48, 3) := by decide +kernel
theorem d21_23 : decode prog_3_method_4_code 23 = .ok (.areturn, 1) := by decide +kernel
theorem ef_rm21z (m : MethodId) (ak : Addr) (qe : Int64) : entryFrame m #[(.ref ak), (.long qe)] 5 = mkF m 0 #[.val (.ref ak), .val (.long qe), .second, .unset, .unset] [] := by first | (simp [entryFrame, mkF, argsToLocals, Value.category]; done) | rfl
set_option maxRecDepth 65536 in
set_option maxHeartbeats 40000000 in
theorem rm21z (l : Launch) (Z : State) (a0 : Array Value) (hw : ∀ d ∈ tables_1, d.before a0 Z = true) (ws : List Jvm.Cond) (ak : Addr) (qe : Int64) (qd : Int64) (w_Z : Addr) (h0 : Heap) (n0 : Nat) (Z0 : n0 ≤ h0.size) (E_ak : Exa Z h0 ak "com/example/strict_lock/strictlock/Deadline") (F_n : Fld Z h0 ak "com/example/strict_lock/strictlock/Deadline" "nanos" "J" (.long qd)) (S_Z : Sta Z h0 "java/time/Duration" "ZERO" "Ljava/time/Duration;" (.ref w_Z)) (E_Z : Exa Z h0 w_Z "java/time/Duration") (F_Zs : Fld Z h0 w_Z "java/time/Duration" "seconds" "J" (.long (0 : Int64))) (F_Zn : Fld Z h0 w_Z "java/time/Duration" "nanos" "I" (.int (0 : Int32))) (hz : ¬ (0 : Int64) < (qd - qe)) :
    MetFree l (⟨"com/example/strict_lock/strictlock/Deadline", "remaining", "(J)Ljava/time/Duration;"⟩ : MethodName) (head1 (Jvm.Cond.code (⟨"com/example/strict_lock/strictlock/Deadline", "remaining", "(J)Ljava/time/Duration;"⟩ : MethodName) prog_3_method_4_code 5 (some (.object "java/time/Duration")) :: ws) ({ frames := 0, cells := 0, slots := 0, locals := 0 } : Room)) (fun a U => a = #[(.ref ak), (.long qe)] ∧ Z.Warmed39 U.vm ∧ U.heap = h0) (fun _ _ _ _ _ => True) (fun _ U o U' => ∃ v L, o = .returned v ∧ QD Z (0 : Int64) (0 : Int32) h0 n0 v U'.heap L ∧ FrameEnd U o U' L ({ frames := 0, cells := 0, slots := 0, locals := 0 } : Room).cells ({ frames := 0, cells := 0, slots := 0, locals := 0 } : Room).slots) := by
  refine MetFree.of_bodySF (plainFor_of_name pnm_2) hisR ?_
  intro p e s m args below meth c s₁ Bd hml0 hP hK
  obtain ⟨rfl, hZ, hh⟩ := hP
  have hx := Bd.exec
  have hby := Bd.bytes
  have hml : c.maxLocals = 5 := hml0
  have hown : s.vm.findClass "com/example/strict_lock/strictlock/Deadline" = some m.cls := findClass_of_methodNamed Bd.named
  have hnm := (name_of_methodNamed Bd.named Bd.method).1
  have X0 : Stand p l e ({ frames := 0, cells := 0, slots := 0, locals := 0 } : Room) s m #[(.ref ak), (.long qe)] below meth c s₁ [] 0 0 := Stand.of_body Bd
  have e0 : s₁.heap = h0 := by rw [← hh, Bd.state]; rfl
  have N0 := Fr.nil n0
  have pre0 : ∀ t, Steps p.tables e below (s₁.setTop (mkF m 0 #[.val (.ref ak), .val (.long qe), .second, .unset, .unset] [])) t → Steps p.tables e below (s₁.setTop (entryFrame m #[(.ref ak), (.long qe)] 5)) t := fun t k => castTop (ef_rm21z m ak qe) k
  obtain ⟨T1, X1, e1, st1⟩ := getF X0 hx hZ hown (host := "") (Or.inl (hw _ (List.mem_of_getElem? (i := 97) rfl))) Via.refl e0 F_n (g := (mkF m 1 #[.val (.ref ak), .val (.long qe), .second, .unset, .unset] [(.ref ak)])) rfl rfl (hb hby d21_1)
  obtain ⟨T2, X2, e2, st2⟩ := getS2 X1 hx hZ hown (host := "") (Or.inl (hw _ (List.mem_of_getElem? (i := 104) rfl))) Via.refl e1 S_Z (g := (mkF m 20 #[.val (.ref ak), .val (.long qe), .second, .val (.long (qd - qe)), .second] [])) rfl (hb hby d21_20)
  obtain ⟨fs, hr, hrun, hended, hW, hsame⟩ := X2.leave (v := some (.ref w_Z)) (fun h => by rw [Bd.returns] at h; cases h)
  refine ⟨_, _, pre0 _ ?_, hrun, hended, _, _, rfl, ?_, ⟨_, rfl⟩, hW, hsame.mono (by decide) (by decide)⟩
  · show Steps p.tables e below (s₁.setTop (mkF m 0 #[.val (.ref ak), .val (.long qe), .second, .unset, .unset] [])) _
    refine XS.aloadN X0.here hx rfl (hb hby d21_0) rfl rfl ?_
    show Steps p.tables e below (s₁.setTop (mkF m 1 #[.val (.ref ak), .val (.long qe), .second, .unset, .unset] [(.ref ak)])) _
    refine st1 _ ?_
    show Steps p.tables e below (T1.setTop (mkF m 4 #[.val (.ref ak), .val (.long qe), .second, .unset, .unset] [(.long qd)])) _
    refine XS.lloadN X1.here hx rfl (hb hby d21_4) rfl ?_
    show Steps p.tables e below (T1.setTop (mkF m 5 #[.val (.ref ak), .val (.long qe), .second, .unset, .unset] [(.long qe), (.long qd)])) _
    refine XS.lsub X1.here hx rfl (hb hby d21_5) rfl ?_
    show Steps p.tables e below (T1.setTop (mkF m 6 #[.val (.ref ak), .val (.long qe), .second, .unset, .unset] [(.long (qd - qe))])) _
    refine XS.lstoreN X1.here hx rfl (hb hby d21_6) rfl (l' := #[.val (.ref ak), .val (.long qe), .second, .val (.long (qd - qe)), .second]) rfl ?_
    show Steps p.tables e below (T1.setTop (mkF m 7 #[.val (.ref ak), .val (.long qe), .second, .val (.long (qd - qe)), .second] [])) _
    refine XS.lloadN X1.here hx rfl (hb hby d21_7) rfl ?_
    show Steps p.tables e below (T1.setTop (mkF m 8 #[.val (.ref ak), .val (.long qe), .second, .val (.long (qd - qe)), .second] [(.long (qd - qe))])) _
    refine XS.lconst X1.here hx rfl (hb hby d21_8) ?_
    show Steps p.tables e below (T1.setTop (mkF m 9 #[.val (.ref ak), .val (.long qe), .second, .val (.long (qd - qe)), .second] [(.long (0 : Int64)), (.long (qd - qe))])) _
    refine XS.lcmp X1.here hx rfl (hb hby d21_9) rfl ?_
    show Steps p.tables e below (T1.setTop (mkF m 10 #[.val (.ref ak), .val (.long qe), .second, .val (.long (qd - qe)), .second] [(.int (lcmpW (qd - qe) (0 : Int64)))])) _
    refine XS.ifYes X1.here hx rfl (pc0 := 10) (pc' := 20) rfl (hb hby d21_10) rfl ((if0 _ _).trans (flt (fun q => (hz) ((lw_gt (qd - qe) (0 : Int64)).mp q))).2.2.2) (by decide) (by decide) ?_
    show Steps p.tables e below (T1.setTop (mkF m 20 #[.val (.ref ak), .val (.long qe), .second, .val (.long (qd - qe)), .second] [])) _
    refine st2 _ ?_
    show Steps p.tables e below (T2.setTop (mkF m 23 #[.val (.ref ak), .val (.long qe), .second, .val (.long (qd - qe)), .second] [(.ref w_Z)])) _
    exact retOut X2 hx Bd.returns rfl (Or.inr (Or.inr (Or.inr (Or.inr ⟨rfl, rfl, rfl⟩)))) (hb hby d21_23) hr
  · show QD Z (0 : Int64) (0 : Int32) h0 n0 _ T2.heap _
    rw [e2]
    exact ⟨w_Z, rfl, N0, (own_ext_refl h0), E_Z, F_Zs, F_Zn⟩
theorem d21_13 : decode prog_3_method_4_code 13 = .ok (.lload_n 3, 1) := by decide +kernel
theorem d21_14 : decode prog_3_method_4_code 14 = .ok (.invokestatic 45, 3) := by decide +kernel
theorem d21_17 : decode prog_3_method_4_code 17 = .ok (.goto 6, 3) := by decide +kernel
theorem ef_rm21p (m : MethodId) (ak : Addr) (qe : Int64) : entryFrame m #[(.ref ak), (.long qe)] 5 = mkF m 0 #[.val (.ref ak), .val (.long qe), .second, .unset, .unset] [] := by first | (simp [entryFrame, mkF, argsToLocals, Value.category]; done) | rfl
set_option maxRecDepth 65536 in
set_option maxHeartbeats 40000000 in
theorem rm21p (l : Launch) (Z : State) (a0 : Array Value) (hw : ∀ d ∈ tables_1, d.before a0 Z = true) (ws : List Jvm.Cond) (ak : Addr) (qe : Int64) (qd : Int64) (w_Z : Addr) (h0 : Heap) (n0 : Nat) (Z0 : n0 ≤ h0.size) (E_ak : Exa Z h0 ak "com/example/strict_lock/strictlock/Deadline") (F_n : Fld Z h0 ak "com/example/strict_lock/strictlock/Deadline" "nanos" "J" (.long qd)) (S_Z : Sta Z h0 "java/time/Duration" "ZERO" "Ljava/time/Duration;" (.ref w_Z)) (E_Z : Exa Z h0 w_Z "java/time/Duration") (F_Zs : Fld Z h0 w_Z "java/time/Duration" "seconds" "J" (.long (0 : Int64))) (F_Zn : Fld Z h0 w_Z "java/time/Duration" "nanos" "I" (.int (0 : Int32))) (hd : qd - qe = (1 : Int64)) :
    MetFree l (⟨"com/example/strict_lock/strictlock/Deadline", "remaining", "(J)Ljava/time/Duration;"⟩ : MethodName) (head1 (Jvm.Cond.code (⟨"com/example/strict_lock/strictlock/Deadline", "remaining", "(J)Ljava/time/Duration;"⟩ : MethodName) prog_3_method_4_code 5 (some (.object "java/time/Duration")) :: ws) ({ frames := 4, cells := 1, slots := 2, locals := 58 } : Room)) (fun a U => a = #[(.ref ak), (.long qe)] ∧ Z.Warmed39 U.vm ∧ U.heap = h0) (fun _ _ _ _ _ => True) (fun _ U o U' => ∃ v L, o = .returned v ∧ QD Z ((1 : Int64) / (1000000000 : Int64)) (((1 : Int64) - ((1 : Int64) / (1000000000 : Int64)) * (1000000000 : Int64)).toInt32) h0 n0 v U'.heap L ∧ FrameEnd U o U' L ({ frames := 4, cells := 1, slots := 2, locals := 58 } : Room).cells ({ frames := 4, cells := 1, slots := 2, locals := 58 } : Room).slots) := by
  refine MetFree.of_bodySF (plainFor_of_name pnm_2) hisR ?_
  intro p e s m args below meth c s₁ Bd hml0 hP hK
  obtain ⟨rfl, hZ, hh⟩ := hP
  have hx := Bd.exec
  have hby := Bd.bytes
  have hml : c.maxLocals = 5 := hml0
  have hown : s.vm.findClass "com/example/strict_lock/strictlock/Deadline" = some m.cls := findClass_of_methodNamed Bd.named
  have hnm := (name_of_methodNamed Bd.named Bd.method).1
  have X0 : Stand p l e ({ frames := 4, cells := 1, slots := 2, locals := 58 } : Room) s m #[(.ref ak), (.long qe)] below meth c s₁ [] 0 0 := Stand.of_body Bd
  have e0 : s₁.heap = h0 := by rw [← hh, Bd.state]; rfl
  have N0 := Fr.nil n0
  have pre0 : ∀ t, Steps p.tables e below (s₁.setTop (mkF m 0 #[.val (.ref ak), .val (.long qe), .second, .unset, .unset] [])) t → Steps p.tables e below (s₁.setTop (entryFrame m #[(.ref ak), (.long qe)] 5)) t := fun t k => castTop (ef_rm21p m ak qe) k
  obtain ⟨T1, X1, e1, st1⟩ := getF X0 hx hZ hown (host := "") (Or.inl (hw _ (List.mem_of_getElem? (i := 97) rfl))) Via.refl e0 F_n (g := (mkF m 1 #[.val (.ref ak), .val (.long qe), .second, .unset, .unset] [(.ref ak)])) rfl rfl (hb hby d21_1)
  obtain ⟨_, _, ⟨T2, L2, k2, n2⟩, -, X2, ⟨Lc2, hQ2, l2, y2, z2⟩, st2⟩ := Jvm.LawKit.callS X1 hx (y := (⟨"java/time/Duration", "ofNanos", "(J)Ljava/time/Duration;"⟩ : MethodName)) hown (mvT hZ (hw _ (List.mem_of_getElem? (i := 110) rfl))) (mvT hZ (hw _ (List.mem_of_getElem? (i := 111) rfl))) (mvT hZ (hw _ (List.mem_of_getElem? (i := 9) rfl))) (mvT hZ (hw _ (List.mem_of_getElem? (i := 112) rfl))) (by decide) (backOf (W := 0) (rm23 l Z a0 hw [] (1 : Int64) w_Z h0 n0 Z0 S_Z E_Z F_Zs F_Zn (by decide)) hZ (hw _ (List.mem_of_getElem? (i := 112) rfl)) (hw _ (List.mem_of_getElem? (i := 9) rfl)) (by decide) (by decide)) (g := (mkF m 14 #[.val (.ref ak), .val (.long qe), .second, .val (.long (1 : Int64)), .second] [(.long (1 : Int64))])) rfl (by rw [hml]; rfl) (argsL := [(.long (1 : Int64))]) (rest := []) (lenOf pdm_10 rfl) rfl (by show 2 * 0 + _ ≤ _; exact Nat.le_of_eq rfl) (hb hby d21_14) (fun _ _ => ⟨rfl, e1, (by decide : 0 + 1 ≤ _), (by decide : 0 + 2 ≤ _)⟩)
  dsimp only [Pt.U, Pt.locs, Pt.cells, Pt.slots] at X2 l2 y2 z2 st2 hQ2
  subst l2 y2 z2
  obtain ⟨b2, rfl, N2q, Ex2, A2, Fs2, Fn2⟩ := hQ2
  have N2 := Fr.app N0 N2q
  obtain ⟨fs, hr, hrun, hended, hW, hsame⟩ := X2.leave (v := some (.ref b2)) (fun h => by rw [Bd.returns] at h; cases h)
  refine ⟨_, _, pre0 _ ?_, hrun, hended, _, _, rfl, ?_, ⟨_, rfl⟩, hW, hsame.mono (by decide) (by decide)⟩
  · show Steps p.tables e below (s₁.setTop (mkF m 0 #[.val (.ref ak), .val (.long qe), .second, .unset, .unset] [])) _
    refine XS.aloadN X0.here hx rfl (hb hby d21_0) rfl rfl ?_
    show Steps p.tables e below (s₁.setTop (mkF m 1 #[.val (.ref ak), .val (.long qe), .second, .unset, .unset] [(.ref ak)])) _
    refine st1 _ ?_
    show Steps p.tables e below (T1.setTop (mkF m 4 #[.val (.ref ak), .val (.long qe), .second, .unset, .unset] [(.long qd)])) _
    refine XS.lloadN X1.here hx rfl (hb hby d21_4) rfl ?_
    show Steps p.tables e below (T1.setTop (mkF m 5 #[.val (.ref ak), .val (.long qe), .second, .unset, .unset] [(.long qe), (.long qd)])) _
    refine XS.lsub X1.here hx rfl (hb hby d21_5) rfl ?_
    show Steps p.tables e below (T1.setTop (mkF m 6 #[.val (.ref ak), .val (.long qe), .second, .unset, .unset] [(.long (qd - qe))])) _
    rw [hd]
    show Steps p.tables e below (T1.setTop (mkF m 6 #[.val (.ref ak), .val (.long qe), .second, .unset, .unset] [(.long (1 : Int64))])) _
    refine XS.lstoreN X1.here hx rfl (hb hby d21_6) rfl (l' := #[.val (.ref ak), .val (.long qe), .second, .val (.long (1 : Int64)), .second]) rfl ?_
    show Steps p.tables e below (T1.setTop (mkF m 7 #[.val (.ref ak), .val (.long qe), .second, .val (.long (1 : Int64)), .second] [])) _
    refine XS.lloadN X1.here hx rfl (hb hby d21_7) rfl ?_
    show Steps p.tables e below (T1.setTop (mkF m 8 #[.val (.ref ak), .val (.long qe), .second, .val (.long (1 : Int64)), .second] [(.long (1 : Int64))])) _
    refine XS.lconst X1.here hx rfl (hb hby d21_8) ?_
    show Steps p.tables e below (T1.setTop (mkF m 9 #[.val (.ref ak), .val (.long qe), .second, .val (.long (1 : Int64)), .second] [(.long (0 : Int64)), (.long (1 : Int64))])) _
    refine XS.lcmp X1.here hx rfl (hb hby d21_9) rfl ?_
    show Steps p.tables e below (T1.setTop (mkF m 10 #[.val (.ref ak), .val (.long qe), .second, .val (.long (1 : Int64)), .second] [(.int (lcmpW (1 : Int64) (0 : Int64)))])) _
    refine XS.ifNo X1.here hx rfl (hb hby d21_10) rfl ((if0 _ _).trans (tlt ((lw_gt (1 : Int64) (0 : Int64)).mpr (by decide : (0 : Int64) < (1 : Int64)))).2.2.2) ?_
    show Steps p.tables e below (T1.setTop (mkF m 13 #[.val (.ref ak), .val (.long qe), .second, .val (.long (1 : Int64)), .second] [])) _
    refine XS.lloadN X1.here hx rfl (hb hby d21_13) rfl ?_
    show Steps p.tables e below (T1.setTop (mkF m 14 #[.val (.ref ak), .val (.long qe), .second, .val (.long (1 : Int64)), .second] [(.long (1 : Int64))])) _
    refine st2 _ ?_
    show Steps p.tables e below (T2.setTop (mkF m 17 #[.val (.ref ak), .val (.long qe), .second, .val (.long (1 : Int64)), .second] [(.ref b2)])) _
    refine XS.goto X2.here hx rfl (pc0 := 17) (pc' := 23) rfl (hb hby d21_17) (by decide) (by decide) ?_
    show Steps p.tables e below (T2.setTop (mkF m 23 #[.val (.ref ak), .val (.long qe), .second, .val (.long (1 : Int64)), .second] [(.ref b2)])) _
    exact retOut X2 hx Bd.returns rfl (Or.inr (Or.inr (Or.inr (Or.inr ⟨rfl, rfl, rfl⟩)))) (hb hby d21_23) hr
  · show QD Z ((1 : Int64) / (1000000000 : Int64)) (((1 : Int64) - ((1 : Int64) / (1000000000 : Int64)) * (1000000000 : Int64)).toInt32) h0 n0 _ T2.heap _
    exact ⟨b2, rfl, N2, Ex2, A2, Fs2, Fn2⟩
theorem d22_0 : decode jdk_2316_method_21_code 0 = .ok (.aload_n 0, 1) := by decide +kernel
theorem d22_1 : decode jdk_2316_method_21_code 1 = .ok (.getfield 221, 3) := by decide +kernel
theorem d22_4 : decode jdk_2316_method_21_code 4 = .ok (.aload_n 0, 1) := by decide +kernel
theorem d22_5 : decode jdk_2316_method_21_code 5 = .ok (.getfield 224, 3) := by decide +kernel
theorem d22_8 : decode jdk_2316_method_21_code 8 = .ok (.i2l, 1) := by decide +kernel
theorem d22_9 : decode jdk_2316_method_21_code 9 = .ok (.lor, 1) := by decide +kernel
theorem d22_10 : decode jdk_2316_method_21_code 10 = .ok (.lconst 0, 1) := by decide +kernel
theorem d22_11 : decode jdk_2316_method_21_code 11 = .ok (.lcmp, 1) := by decide +kernel
theorem d22_12 : decode jdk_2316_method_21_code 12 = .ok (.ifCond .ne 7, 3) := by decide +kernel
theorem d22_19 : decode jdk_2316_method_21_code 19 = .ok (.iconst 0, 1) := by decide +kernel
theorem d22_20 : decode jdk_2316_method_21_code 20 = .ok (.ireturn, 1) := by decide +kernel
theorem d22_15 : decode jdk_2316_method_21_code 15 = .ok (.iconst 1, 1) := by decide +kernel
theorem d22_16 : decode jdk_2316_method_21_code 16 = .ok (.goto 4, 3) := by decide +kernel
theorem ef_rm22 (m : MethodId) (ak : Addr) : entryFrame m #[(.ref ak)] 1 = mkF m 0 #[.val (.ref ak)] [] := by first | (simp [entryFrame, mkF, argsToLocals, Value.category]; done) | rfl
set_option maxRecDepth 65536 in
set_option maxHeartbeats 40000000 in
theorem rm22_t (l : Launch) (Z : State) (a0 : Array Value) (hw : ∀ d ∈ tables_1, d.before a0 Z = true) (ws : List Jvm.Cond) (ak : Addr) (sv : Int64) (nv : Int32) (h0 : Heap) (n0 : Nat) (Z0 : n0 ≤ h0.size) (E_ak : Exa Z h0 ak "java/time/Duration") (F_aks : Fld Z h0 ak "java/time/Duration" "seconds" "J" (.long sv)) (F_akn : Fld Z h0 ak "java/time/Duration" "nanos" "I" (.int nv)) (r : Int32) (hr0 : r = (0 : Int32)) (hc12 : ¬ ((sv ||| (nv.toInt64)) = (0 : Int64))) :
    MetFree l (⟨"java/time/Duration", "isZero", "()Z"⟩ : MethodName) (head1 (Jvm.Cond.code (⟨"java/time/Duration", "isZero", "()Z"⟩ : MethodName) jdk_2316_method_21_code 1 (some .boolean) :: ws) ({ frames := 0, cells := 0, slots := 0, locals := 0 } : Room)) (fun a U => a = #[(.ref ak)] ∧ Z.Warmed39 U.vm ∧ U.heap = h0) (fun _ _ _ _ _ => True) (fun _ U o U' => ∃ v L, o = .returned v ∧ QP (.int r) h0 n0 v U'.heap L ∧ FrameEnd U o U' L ({ frames := 0, cells := 0, slots := 0, locals := 0 } : Room).cells ({ frames := 0, cells := 0, slots := 0, locals := 0 } : Room).slots) := by
  rw [hr0]
  refine MetFree.of_bodySF (plainFor_of_name pnm_0) hisR ?_
  intro p e s m args below meth c s₁ Bd hml0 hP hK
  obtain ⟨rfl, hZ, hh⟩ := hP
  have hx := Bd.exec
  have hby := Bd.bytes
  have hml : c.maxLocals = 1 := hml0
  have hown : s.vm.findClass "java/time/Duration" = some m.cls := findClass_of_methodNamed Bd.named
  have hnm := (name_of_methodNamed Bd.named Bd.method).1
  have X0 : Stand p l e ({ frames := 0, cells := 0, slots := 0, locals := 0 } : Room) s m #[(.ref ak)] below meth c s₁ [] 0 0 := Stand.of_body Bd
  have e0 : s₁.heap = h0 := by rw [← hh, Bd.state]; rfl
  have N0 := Fr.nil n0
  have pre0 : ∀ t, Steps p.tables e below (s₁.setTop (mkF m 0 #[.val (.ref ak)] [])) t → Steps p.tables e below (s₁.setTop (entryFrame m #[(.ref ak)] 1)) t := fun t k => castTop (ef_rm22 m ak) k
  obtain ⟨T1, X1, e1, st1⟩ := getF X0 hx hZ hown (host := "") (Or.inl (hw _ (List.mem_of_getElem? (i := 25) rfl))) Via.refl e0 F_aks (g := (mkF m 1 #[.val (.ref ak)] [(.ref ak)])) rfl rfl (hb hby d22_1)
  obtain ⟨T2, X2, e2, st2⟩ := getF X1 hx hZ hown (host := "") (Or.inl (hw _ (List.mem_of_getElem? (i := 27) rfl))) Via.refl e1 F_akn (g := (mkF m 5 #[.val (.ref ak)] [(.ref ak), (.long sv)])) rfl rfl (hb hby d22_5)
  obtain ⟨fs, hr, hrun, hended, hW, hsame⟩ := X2.leave (v := some (.int (0 : Int32))) (fun h => by rw [Bd.returns] at h; cases h)
  refine ⟨_, _, pre0 _ ?_, hrun, hended, _, _, rfl, ?_, ⟨_, rfl⟩, hW, hsame.mono (by decide) (by decide)⟩
  · show Steps p.tables e below (s₁.setTop (mkF m 0 #[.val (.ref ak)] [])) _
    refine XS.aloadN X0.here hx rfl (hb hby d22_0) rfl rfl ?_
    show Steps p.tables e below (s₁.setTop (mkF m 1 #[.val (.ref ak)] [(.ref ak)])) _
    refine st1 _ ?_
    show Steps p.tables e below (T1.setTop (mkF m 4 #[.val (.ref ak)] [(.long sv)])) _
    refine XS.aloadN X1.here hx rfl (hb hby d22_4) rfl rfl ?_
    show Steps p.tables e below (T1.setTop (mkF m 5 #[.val (.ref ak)] [(.ref ak), (.long sv)])) _
    refine st2 _ ?_
    show Steps p.tables e below (T2.setTop (mkF m 8 #[.val (.ref ak)] [(.int nv), (.long sv)])) _
    refine XS.i2l X2.here hx rfl (hb hby d22_8) rfl ?_
    show Steps p.tables e below (T2.setTop (mkF m 9 #[.val (.ref ak)] [(.long (nv.toInt64)), (.long sv)])) _
    refine XS.lor X2.here hx rfl (hb hby d22_9) rfl ?_
    show Steps p.tables e below (T2.setTop (mkF m 10 #[.val (.ref ak)] [(.long (sv ||| (nv.toInt64)))])) _
    refine XS.lconst X2.here hx rfl (hb hby d22_10) ?_
    show Steps p.tables e below (T2.setTop (mkF m 11 #[.val (.ref ak)] [(.long (0 : Int64)), (.long (sv ||| (nv.toInt64)))])) _
    refine XS.lcmp X2.here hx rfl (hb hby d22_11) rfl ?_
    show Steps p.tables e below (T2.setTop (mkF m 12 #[.val (.ref ak)] [(.int (lcmpW (sv ||| (nv.toInt64)) (0 : Int64)))])) _
    refine XS.ifYes X2.here hx rfl (pc0 := 12) (pc' := 19) rfl (hb hby d22_12) rfl ((if0 _ _).trans (feq (fun q => hc12 ((lw_eq (sv ||| (nv.toInt64)) (0 : Int64)).mp q))).2) (by decide) (by decide) ?_
    show Steps p.tables e below (T2.setTop (mkF m 19 #[.val (.ref ak)] [])) _
    refine XS.iconst X2.here hx rfl (hb hby d22_19) ?_
    show Steps p.tables e below (T2.setTop (mkF m 20 #[.val (.ref ak)] [(.int (0 : Int32))])) _
    exact retN X2 hx (t := .boolean) Bd.returns (by simp) (hb hby d22_20) hr
  · show QP (.int (0 : Int32)) h0 n0 _ T2.heap _
    rw [e2]
    exact ⟨rfl, N0, rfl⟩
set_option maxRecDepth 65536 in
set_option maxHeartbeats 40000000 in
theorem rm22_f (l : Launch) (Z : State) (a0 : Array Value) (hw : ∀ d ∈ tables_1, d.before a0 Z = true) (ws : List Jvm.Cond) (ak : Addr) (sv : Int64) (nv : Int32) (h0 : Heap) (n0 : Nat) (Z0 : n0 ≤ h0.size) (E_ak : Exa Z h0 ak "java/time/Duration") (F_aks : Fld Z h0 ak "java/time/Duration" "seconds" "J" (.long sv)) (F_akn : Fld Z h0 ak "java/time/Duration" "nanos" "I" (.int nv)) (r : Int32) (hr0 : r = (1 : Int32)) (hc12 : (sv ||| (nv.toInt64)) = (0 : Int64)) :
    MetFree l (⟨"java/time/Duration", "isZero", "()Z"⟩ : MethodName) (head1 (Jvm.Cond.code (⟨"java/time/Duration", "isZero", "()Z"⟩ : MethodName) jdk_2316_method_21_code 1 (some .boolean) :: ws) ({ frames := 0, cells := 0, slots := 0, locals := 0 } : Room)) (fun a U => a = #[(.ref ak)] ∧ Z.Warmed39 U.vm ∧ U.heap = h0) (fun _ _ _ _ _ => True) (fun _ U o U' => ∃ v L, o = .returned v ∧ QP (.int r) h0 n0 v U'.heap L ∧ FrameEnd U o U' L ({ frames := 0, cells := 0, slots := 0, locals := 0 } : Room).cells ({ frames := 0, cells := 0, slots := 0, locals := 0 } : Room).slots) := by
  rw [hr0]
  refine MetFree.of_bodySF (plainFor_of_name pnm_0) hisR ?_
  intro p e s m args below meth c s₁ Bd hml0 hP hK
  obtain ⟨rfl, hZ, hh⟩ := hP
  have hx := Bd.exec
  have hby := Bd.bytes
  have hml : c.maxLocals = 1 := hml0
  have hown : s.vm.findClass "java/time/Duration" = some m.cls := findClass_of_methodNamed Bd.named
  have hnm := (name_of_methodNamed Bd.named Bd.method).1
  have X0 : Stand p l e ({ frames := 0, cells := 0, slots := 0, locals := 0 } : Room) s m #[(.ref ak)] below meth c s₁ [] 0 0 := Stand.of_body Bd
  have e0 : s₁.heap = h0 := by rw [← hh, Bd.state]; rfl
  have N0 := Fr.nil n0
  have pre0 : ∀ t, Steps p.tables e below (s₁.setTop (mkF m 0 #[.val (.ref ak)] [])) t → Steps p.tables e below (s₁.setTop (entryFrame m #[(.ref ak)] 1)) t := fun t k => castTop (ef_rm22 m ak) k
  obtain ⟨T1, X1, e1, st1⟩ := getF X0 hx hZ hown (host := "") (Or.inl (hw _ (List.mem_of_getElem? (i := 25) rfl))) Via.refl e0 F_aks (g := (mkF m 1 #[.val (.ref ak)] [(.ref ak)])) rfl rfl (hb hby d22_1)
  obtain ⟨T2, X2, e2, st2⟩ := getF X1 hx hZ hown (host := "") (Or.inl (hw _ (List.mem_of_getElem? (i := 27) rfl))) Via.refl e1 F_akn (g := (mkF m 5 #[.val (.ref ak)] [(.ref ak), (.long sv)])) rfl rfl (hb hby d22_5)
  obtain ⟨fs, hr, hrun, hended, hW, hsame⟩ := X2.leave (v := some (.int (1 : Int32))) (fun h => by rw [Bd.returns] at h; cases h)
  refine ⟨_, _, pre0 _ ?_, hrun, hended, _, _, rfl, ?_, ⟨_, rfl⟩, hW, hsame.mono (by decide) (by decide)⟩
  · show Steps p.tables e below (s₁.setTop (mkF m 0 #[.val (.ref ak)] [])) _
    refine XS.aloadN X0.here hx rfl (hb hby d22_0) rfl rfl ?_
    show Steps p.tables e below (s₁.setTop (mkF m 1 #[.val (.ref ak)] [(.ref ak)])) _
    refine st1 _ ?_
    show Steps p.tables e below (T1.setTop (mkF m 4 #[.val (.ref ak)] [(.long sv)])) _
    refine XS.aloadN X1.here hx rfl (hb hby d22_4) rfl rfl ?_
    show Steps p.tables e below (T1.setTop (mkF m 5 #[.val (.ref ak)] [(.ref ak), (.long sv)])) _
    refine st2 _ ?_
    show Steps p.tables e below (T2.setTop (mkF m 8 #[.val (.ref ak)] [(.int nv), (.long sv)])) _
    refine XS.i2l X2.here hx rfl (hb hby d22_8) rfl ?_
    show Steps p.tables e below (T2.setTop (mkF m 9 #[.val (.ref ak)] [(.long (nv.toInt64)), (.long sv)])) _
    refine XS.lor X2.here hx rfl (hb hby d22_9) rfl ?_
    show Steps p.tables e below (T2.setTop (mkF m 10 #[.val (.ref ak)] [(.long (sv ||| (nv.toInt64)))])) _
    refine XS.lconst X2.here hx rfl (hb hby d22_10) ?_
    show Steps p.tables e below (T2.setTop (mkF m 11 #[.val (.ref ak)] [(.long (0 : Int64)), (.long (sv ||| (nv.toInt64)))])) _
    refine XS.lcmp X2.here hx rfl (hb hby d22_11) rfl ?_
    show Steps p.tables e below (T2.setTop (mkF m 12 #[.val (.ref ak)] [(.int (lcmpW (sv ||| (nv.toInt64)) (0 : Int64)))])) _
    refine XS.ifNo X2.here hx rfl (hb hby d22_12) rfl ((if0 _ _).trans (teq ((lw_eq (sv ||| (nv.toInt64)) (0 : Int64)).mpr hc12)).2) ?_
    show Steps p.tables e below (T2.setTop (mkF m 15 #[.val (.ref ak)] [])) _
    refine XS.iconst X2.here hx rfl (hb hby d22_15) ?_
    show Steps p.tables e below (T2.setTop (mkF m 16 #[.val (.ref ak)] [(.int (1 : Int32))])) _
    refine XS.goto X2.here hx rfl (pc0 := 16) (pc' := 20) rfl (hb hby d22_16) (by decide) (by decide) ?_
    show Steps p.tables e below (T2.setTop (mkF m 20 #[.val (.ref ak)] [(.int (1 : Int32))])) _
    exact retN X2 hx (t := .boolean) Bd.returns (by simp) (hb hby d22_20) hr
  · show QP (.int (1 : Int32)) h0 n0 _ T2.heap _
    rw [e2]
    exact ⟨rfl, N0, rfl⟩
set_option maxRecDepth 65536 in
set_option maxHeartbeats 40000000 in
theorem rm22 (l : Launch) (Z : State) (a0 : Array Value) (hw : ∀ d ∈ tables_1, d.before a0 Z = true) (ws : List Jvm.Cond) (ak : Addr) (sv : Int64) (nv : Int32) (h0 : Heap) (n0 : Nat) (Z0 : n0 ≤ h0.size) (E_ak : Exa Z h0 ak "java/time/Duration") (F_aks : Fld Z h0 ak "java/time/Duration" "seconds" "J" (.long sv)) (F_akn : Fld Z h0 ak "java/time/Duration" "nanos" "I" (.int nv)) (r : Int32) (hr0 : r = (if (sv ||| (nv.toInt64)) = (0 : Int64) then (1 : Int32) else (0 : Int32))) :
    MetFree l (⟨"java/time/Duration", "isZero", "()Z"⟩ : MethodName) (head1 (Jvm.Cond.code (⟨"java/time/Duration", "isZero", "()Z"⟩ : MethodName) jdk_2316_method_21_code 1 (some .boolean) :: ws) ({ frames := 0, cells := 0, slots := 0, locals := 0 } : Room)) (fun a U => a = #[(.ref ak)] ∧ Z.Warmed39 U.vm ∧ U.heap = h0) (fun _ _ _ _ _ => True) (fun _ U o U' => ∃ v L, o = .returned v ∧ QP (.int r) h0 n0 v U'.heap L ∧ FrameEnd U o U' L ({ frames := 0, cells := 0, slots := 0, locals := 0 } : Room).cells ({ frames := 0, cells := 0, slots := 0, locals := 0 } : Room).slots) := by
  by_cases hc12 : (sv ||| (nv.toInt64)) = (0 : Int64)
  · exact rm22_f l Z a0 hw ws ak sv nv h0 n0 Z0 E_ak F_aks F_akn r (hr0.trans (if_pos hc12)) hc12
  · exact rm22_t l Z a0 hw ws ak sv nv h0 n0 Z0 E_ak F_aks F_akn r (hr0.trans (if_neg hc12)) hc12
theorem pdm_13 : parseMethodDescriptor "(JJ)Lcom/example/strict_lock/strictlock/Deadline;" = some ⟨[.long, .long], some (.object "com/example/strict_lock/strictlock/Deadline")⟩ := by decide +kernel
theorem pdm_14 : parseMethodDescriptor "()Z" = some ⟨[], some .boolean⟩ := by decide +kernel
set_option maxRecDepth 65536 in
set_option maxHeartbeats 40000000 in
theorem own_tail {p : Program} {l : Launch} {e : Env} {s : State} {m : MethodId} {args : Array Value} {below : List Frame} {meth : Method} {c : Code} {s₁ : State} (Z : State) (a0 : Array Value) (hw : ∀ d ∈ tables_1, d.before a0 Z = true) (q1 : Int64) (q2 : Int64) (p3 : Int32) (sl : Int32) (mm : Int64) (w_LM : Addr) (w_LC : Addr) (w_Z : Addr) (h0 : Heap) (n0 : Nat) (Z0 : n0 ≤ h0.size) (S_LM : Sta Z h0 "com/example/strict_lock/strictlock/Watcher" "LAST_MILLISECOND" "Ljava/time/Duration;" (.ref w_LM)) (E_w_LM : Exa Z h0 w_LM "java/time/Duration") (F_w_LMs : Fld Z h0 w_LM "java/time/Duration" "seconds" "J" (.long (0 : Int64))) (F_w_LMn : Fld Z h0 w_LM "java/time/Duration" "nanos" "I" (.int (1000000 : Int32))) (S_LC : Sta Z h0 "com/example/strict_lock/strictlock/Deadline" "LONGEST_COUNTABLE" "Ljava/time/Duration;" (.ref w_LC)) (E_w_LC : Exa Z h0 w_LC "java/time/Duration") (F_w_LCs : Fld Z h0 w_LC "java/time/Duration" "seconds" "J" (.long (9223372036 : Int64))) (F_w_LCn : Fld Z h0 w_LC "java/time/Duration" "nanos" "I" (.int (854775807 : Int32))) (S_Z : Sta Z h0 "java/time/Duration" "ZERO" "Ljava/time/Duration;" (.ref w_Z)) (E_Z : Exa Z h0 w_Z "java/time/Duration") (F_Zs : Fld Z h0 w_Z "java/time/Duration" "seconds" "J" (.long (0 : Int64))) (F_Zn : Fld Z h0 w_Z "java/time/Duration" "nanos" "I" (.int (0 : Int32))) (hm : ¬ mm < (0 : Int64))
    (X0 : Stand p l e room_1 s m args below meth c s₁ [] 0 0) (hx : p.tables.exec = Jvm.exec) (hZ : Z.Warmed39 s.vm) (hby : c.code = code) (hml : c.maxLocals = 15) (hown : s.vm.findClass "com/example/strict_lock/strictlock/WatcherEndOfKeyPinLaw" = some m.cls) (e0 : s₁.heap = h0) :
    ∃ (T' : State) (Lc : List Loc) (k' n' : Nat) (Ls : Array Slot), Stand p l e room_1 s m args below meth c T' Lc k' n' ∧ Fr n0 Lc ∧ k' ≤ room_1.cells ∧ n' ≤ room_1.slots ∧ ∀ target, Steps p.tables e below (T'.setTop (mkF m 152 Ls [(.int (1 : Int32))])) target → Steps p.tables e below (s₁.setTop (mkF m 87 #[.val (.long q1), .second, .val (.long q2), .second, .val (.int p3), .val (.int sl), .val (.long mm), .second, .unset, .unset, .unset, .unset, .unset, .unset, .unset] [(.long (own_span mm))])) target := by
  have N0 := Fr.nil n0
  obtain ⟨_, _, ⟨T1, L1, k1, n1⟩, -, X1, ⟨Lc1, hQ1, l1, y1, z1⟩, st1⟩ := Jvm.LawKit.callS X0 hx (y := (⟨"com/example/strict_lock/strictlock/Watcher", "endOfKey", "(JJ)Lcom/example/strict_lock/strictlock/Deadline;"⟩ : MethodName)) hown (mvT hZ (hw _ (List.mem_of_getElem? (i := 3) rfl))) (mvT hZ (hw _ (List.mem_of_getElem? (i := 4) rfl))) (mvT hZ (hw _ (List.mem_of_getElem? (i := 5) rfl))) (mvT hZ (hw _ (List.mem_of_getElem? (i := 6) rfl))) (by decide) (backOf (W := 0) (rm1 l Z a0 hw [] q1 mm w_LM w_LC w_Z h0 n0 Z0 S_LM E_w_LM F_w_LMs F_w_LMn S_LC E_w_LC F_w_LCs F_w_LCn S_Z E_Z F_Zs F_Zn hm) hZ (hw _ (List.mem_of_getElem? (i := 6) rfl)) (hw _ (List.mem_of_getElem? (i := 5) rfl)) (by decide) (by decide)) (g := (mkF m 98 #[.val (.long q1), .second, .val (.long q2), .second, .val (.int p3), .val (.int sl), .val (.long mm), .second, .val (.long (own_span mm)), .second, .val (.long (q1 + (own_span mm))), .second, .unset, .unset, .unset] [(.long mm), (.long q1)])) rfl (by rw [hml]; rfl) (argsL := [(.long q1), (.long mm)]) (rest := []) (lenOf pdm_13 rfl) rfl (by show 2 * 0 + _ ≤ _; exact Nat.le_of_eq rfl) (hb hby at_98) (fun _ _ => ⟨rfl, e0, (by decide : 0 + 3 ≤ _), (by decide : 0 + 5 ≤ _)⟩)
  dsimp only [Pt.U, Pt.locs, Pt.cells, Pt.slots] at X1 l1 y1 z1 st1 hQ1
  subst l1 y1 z1
  obtain ⟨b1, rfl, N1q, Ex1, A1, Fn1⟩ := hQ1
  have N1 := Fr.app N0 N1q
  obtain ⟨cq2, kq2, q2a, q2b, q2c⟩ := isOf hZ rfl A1
  obtain ⟨_, _, ⟨T2, L2, k2, n2⟩, -, X2, ⟨Lc2, hQ2, l2, y2, z2⟩, st2⟩ := X1.virtualBack hx (y := (⟨"com/example/strict_lock/strictlock/Deadline", "remaining", "(J)Ljava/time/Duration;"⟩ : MethodName)) (z := (⟨"com/example/strict_lock/strictlock/Deadline", "remaining", "(J)Ljava/time/Duration;"⟩ : MethodName)) hown (mvT hZ (hw _ (List.mem_of_getElem? (i := 99) rfl))) (mvT hZ (hw _ (List.mem_of_getElem? (i := 100) rfl))) (notFace_of_selects (args := #[]) (mvT hZ (hw _ (List.mem_of_getElem? (i := 102) rfl)))) (mvT hZ (hw _ (List.mem_of_getElem? (i := 102) rfl))) (mvT hZ (hw _ (List.mem_of_getElem? (i := 101) rfl))) (by decide) (backOf (W := 0) (rm21z l Z a0 hw [] b1 (q1 + (own_span mm)) (q1 + (own_span mm)) w_Z T1.heap n0 (Nat.le_trans Z0 Ex1.1) A1 Fn1 (S_Z.ext Ex1) (E_Z.ext Ex1) (F_Zs.ext Ex1) (F_Zn.ext Ex1) (own_same _)) hZ (hw _ (List.mem_of_getElem? (i := 103) rfl)) (hw _ (List.mem_of_getElem? (i := 67) rfl)) (by decide) (by decide)) q2a q2c (g := (mkF m 107 #[.val (.long q1), .second, .val (.long q2), .second, .val (.int p3), .val (.int sl), .val (.long mm), .second, .val (.long (own_span mm)), .second, .val (.long (q1 + (own_span mm))), .second, .val (.ref b1), .unset, .unset] [(.long (q1 + (own_span mm))), (.ref b1)])) rfl (by rw [hml]; rfl) (Steps.refl _) (argsL := [(.long (q1 + (own_span mm)))]) (rest := []) (lenOf pdm_10 rfl) rfl (by show 2 * 0 + _ ≤ _; exact Nat.le_of_eq rfl) (hb hby at_107) (fun _ _ => ⟨rfl, rfl, (by decide : 3 + 0 ≤ _), (by decide : 5 + 0 ≤ _)⟩)
  dsimp only [Pt.U, Pt.locs, Pt.cells, Pt.slots] at X2 l2 y2 z2 st2 hQ2
  subst l2 y2 z2
  obtain ⟨b2, rfl, N2q, Ex2, A2, Fs2, Fn2⟩ := hQ2
  have N2 := Fr.app N1 N2q
  obtain ⟨cq3, kq3, q3a, q3b, q3c⟩ := isOf hZ rfl A2
  obtain ⟨_, _, ⟨T3, L3, k3, n3⟩, -, X3, ⟨Lc3, hQ3, l3, y3, z3⟩, st3⟩ := X2.virtualBack hx (y := (⟨"java/time/Duration", "isZero", "()Z"⟩ : MethodName)) (z := (⟨"java/time/Duration", "isZero", "()Z"⟩ : MethodName)) hown (mvT hZ (hw _ (List.mem_of_getElem? (i := 105) rfl))) (mvT hZ (hw _ (List.mem_of_getElem? (i := 106) rfl))) (notFace_of_selects (args := #[]) (mvT hZ (hw _ (List.mem_of_getElem? (i := 108) rfl)))) (mvT hZ (hw _ (List.mem_of_getElem? (i := 108) rfl))) (mvT hZ (hw _ (List.mem_of_getElem? (i := 107) rfl))) (by decide) (backOf (W := 0) (rm22 l Z a0 hw [] b2 (0 : Int64) (0 : Int32) T2.heap n0 (Nat.le_trans (Nat.le_trans Z0 Ex1.1) Ex2.1) A2 Fs2 Fn2 (1 : Int32) (by decide)) hZ (hw _ (List.mem_of_getElem? (i := 109) rfl)) (hw _ (List.mem_of_getElem? (i := 9) rfl)) (by decide) (by decide)) q3a q3c (g := (mkF m 110 #[.val (.long q1), .second, .val (.long q2), .second, .val (.int p3), .val (.int sl), .val (.long mm), .second, .val (.long (own_span mm)), .second, .val (.long (q1 + (own_span mm))), .second, .val (.ref b1), .unset, .unset] [(.ref b2)])) rfl (by rw [hml]; rfl) (Steps.refl _) (argsL := []) (rest := []) (lenOf pdm_14 rfl) rfl (by show 2 * 0 + _ ≤ _; exact Nat.le_of_eq rfl) (hb hby at_110) (fun _ _ => ⟨rfl, rfl, (by decide : 3 + 0 ≤ _), (by decide : 5 + 0 ≤ _)⟩)
  dsimp only [Pt.U, Pt.locs, Pt.cells, Pt.slots] at X3 l3 y3 z3 st3 hQ3
  subst l3 y3 z3
  obtain ⟨rfl, N3q, e3⟩ := hQ3
  have N3 := Fr.app N2 N3q
  obtain ⟨cq4, kq4, q4a, q4b, q4c⟩ := isOf hZ e3 (A1.ext Ex2)
  obtain ⟨_, _, ⟨T4, L4, k4, n4⟩, -, X4, ⟨Lc4, hQ4, l4, y4, z4⟩, st4⟩ := X3.virtualBack hx (y := (⟨"com/example/strict_lock/strictlock/Deadline", "remaining", "(J)Ljava/time/Duration;"⟩ : MethodName)) (z := (⟨"com/example/strict_lock/strictlock/Deadline", "remaining", "(J)Ljava/time/Duration;"⟩ : MethodName)) hown (mvT hZ (hw _ (List.mem_of_getElem? (i := 99) rfl))) (mvT hZ (hw _ (List.mem_of_getElem? (i := 100) rfl))) (notFace_of_selects (args := #[]) (mvT hZ (hw _ (List.mem_of_getElem? (i := 102) rfl)))) (mvT hZ (hw _ (List.mem_of_getElem? (i := 102) rfl))) (mvT hZ (hw _ (List.mem_of_getElem? (i := 101) rfl))) (by decide) (backOf (W := 0) (rm21p l Z a0 hw [] b1 ((q1 + (own_span mm)) - (1 : Int64)) (q1 + (own_span mm)) w_Z T2.heap n0 (Nat.le_trans (Nat.le_trans Z0 Ex1.1) Ex2.1) (A1.ext Ex2) (Fn1.ext Ex2) ((S_Z.ext Ex1).ext Ex2) ((E_Z.ext Ex1).ext Ex2) ((F_Zs.ext Ex1).ext Ex2) ((F_Zn.ext Ex1).ext Ex2) (own_one _)) hZ (hw _ (List.mem_of_getElem? (i := 103) rfl)) (hw _ (List.mem_of_getElem? (i := 67) rfl)) (by decide) (by decide)) q4a q4c (g := (mkF m 121 #[.val (.long q1), .second, .val (.long q2), .second, .val (.int p3), .val (.int sl), .val (.long mm), .second, .val (.long (own_span mm)), .second, .val (.long (q1 + (own_span mm))), .second, .val (.ref b1), .val (.int (1 : Int32)), .unset] [(.long ((q1 + (own_span mm)) - (1 : Int64))), (.ref b1)])) rfl (by rw [hml]; rfl) (Steps.refl _) (argsL := [(.long ((q1 + (own_span mm)) - (1 : Int64)))]) (rest := []) (lenOf pdm_10 rfl) rfl (by show 2 * 0 + _ ≤ _; exact Nat.le_of_eq rfl) (hb hby at_121) (fun _ _ => ⟨rfl, e3, (by decide : 3 + 1 ≤ _), (by decide : 5 + 2 ≤ _)⟩)
  dsimp only [Pt.U, Pt.locs, Pt.cells, Pt.slots] at X4 l4 y4 z4 st4 hQ4
  subst l4 y4 z4
  obtain ⟨b4, rfl, N4q, Ex4, A4, Fs4, Fn4⟩ := hQ4
  have N4 := Fr.app N3 N4q
  obtain ⟨cq5, kq5, q5a, q5b, q5c⟩ := isOf hZ rfl A4
  obtain ⟨_, _, ⟨T5, L5, k5, n5⟩, -, X5, ⟨Lc5, hQ5, l5, y5, z5⟩, st5⟩ := X4.virtualBack hx (y := (⟨"java/time/Duration", "isZero", "()Z"⟩ : MethodName)) (z := (⟨"java/time/Duration", "isZero", "()Z"⟩ : MethodName)) hown (mvT hZ (hw _ (List.mem_of_getElem? (i := 105) rfl))) (mvT hZ (hw _ (List.mem_of_getElem? (i := 106) rfl))) (notFace_of_selects (args := #[]) (mvT hZ (hw _ (List.mem_of_getElem? (i := 108) rfl)))) (mvT hZ (hw _ (List.mem_of_getElem? (i := 108) rfl))) (mvT hZ (hw _ (List.mem_of_getElem? (i := 107) rfl))) (by decide) (backOf (W := 0) (rm22 l Z a0 hw [] b4 ((1 : Int64) / (1000000000 : Int64)) (((1 : Int64) - ((1 : Int64) / (1000000000 : Int64)) * (1000000000 : Int64)).toInt32) T4.heap n0 (Nat.le_trans (Nat.le_trans (Nat.le_trans Z0 Ex1.1) Ex2.1) Ex4.1) A4 Fs4 Fn4 (0 : Int32) (by decide)) hZ (hw _ (List.mem_of_getElem? (i := 109) rfl)) (hw _ (List.mem_of_getElem? (i := 9) rfl)) (by decide) (by decide)) q5a q5c (g := (mkF m 124 #[.val (.long q1), .second, .val (.long q2), .second, .val (.int p3), .val (.int sl), .val (.long mm), .second, .val (.long (own_span mm)), .second, .val (.long (q1 + (own_span mm))), .second, .val (.ref b1), .val (.int (1 : Int32)), .unset] [(.ref b4)])) rfl (by rw [hml]; rfl) (Steps.refl _) (argsL := []) (rest := []) (lenOf pdm_14 rfl) rfl (by show 2 * 0 + _ ≤ _; exact Nat.le_of_eq rfl) (hb hby at_124) (fun _ _ => ⟨rfl, rfl, (by decide : 4 + 0 ≤ _), (by decide : 7 + 0 ≤ _)⟩)
  dsimp only [Pt.U, Pt.locs, Pt.cells, Pt.slots] at X5 l5 y5 z5 st5 hQ5
  subst l5 y5 z5
  obtain ⟨rfl, N5q, e5⟩ := hQ5
  have N5 := Fr.app N4 N5q
  refine ⟨T5, _, _, _, _, X5, N5, (by decide), (by decide), fun target (kt : Steps p.tables e below (T5.setTop (mkF m 152 #[.val (.long q1), .second, .val (.long q2), .second, .val (.int p3), .val (.int sl), .val (.long mm), .second, .val (.long (own_span mm)), .second, .val (.long (q1 + (own_span mm))), .second, .val (.ref b1), .val (.int (1 : Int32)), .val (.int (1 : Int32))] [(.int (1 : Int32))])) target) => ?_⟩
  show Steps p.tables e below (s₁.setTop (mkF m 87 #[.val (.long q1), .second, .val (.long q2), .second, .val (.int p3), .val (.int sl), .val (.long mm), .second, .unset, .unset, .unset, .unset, .unset, .unset, .unset] [(.long (own_span mm))])) _
  refine XS.lstore X0.here hx rfl (hb hby at_87) rfl (l' := #[.val (.long q1), .second, .val (.long q2), .second, .val (.int p3), .val (.int sl), .val (.long mm), .second, .val (.long (own_span mm)), .second, .unset, .unset, .unset, .unset, .unset]) rfl ?_
  show Steps p.tables e below (s₁.setTop (mkF m 89 #[.val (.long q1), .second, .val (.long q2), .second, .val (.int p3), .val (.int sl), .val (.long mm), .second, .val (.long (own_span mm)), .second, .unset, .unset, .unset, .unset, .unset] [])) _
  refine XS.lloadN X0.here hx rfl (hb hby at_89) rfl ?_
  show Steps p.tables e below (s₁.setTop (mkF m 90 #[.val (.long q1), .second, .val (.long q2), .second, .val (.int p3), .val (.int sl), .val (.long mm), .second, .val (.long (own_span mm)), .second, .unset, .unset, .unset, .unset, .unset] [(.long q1)])) _
  refine XS.lload X0.here hx rfl (hb hby at_90) rfl ?_
  show Steps p.tables e below (s₁.setTop (mkF m 92 #[.val (.long q1), .second, .val (.long q2), .second, .val (.int p3), .val (.int sl), .val (.long mm), .second, .val (.long (own_span mm)), .second, .unset, .unset, .unset, .unset, .unset] [(.long (own_span mm)), (.long q1)])) _
  refine XS.ladd X0.here hx rfl (hb hby at_92) rfl ?_
  show Steps p.tables e below (s₁.setTop (mkF m 93 #[.val (.long q1), .second, .val (.long q2), .second, .val (.int p3), .val (.int sl), .val (.long mm), .second, .val (.long (own_span mm)), .second, .unset, .unset, .unset, .unset, .unset] [(.long (q1 + (own_span mm)))])) _
  refine XS.lstore X0.here hx rfl (hb hby at_93) rfl (l' := #[.val (.long q1), .second, .val (.long q2), .second, .val (.int p3), .val (.int sl), .val (.long mm), .second, .val (.long (own_span mm)), .second, .val (.long (q1 + (own_span mm))), .second, .unset, .unset, .unset]) rfl ?_
  show Steps p.tables e below (s₁.setTop (mkF m 95 #[.val (.long q1), .second, .val (.long q2), .second, .val (.int p3), .val (.int sl), .val (.long mm), .second, .val (.long (own_span mm)), .second, .val (.long (q1 + (own_span mm))), .second, .unset, .unset, .unset] [])) _
  refine XS.lloadN X0.here hx rfl (hb hby at_95) rfl ?_
  show Steps p.tables e below (s₁.setTop (mkF m 96 #[.val (.long q1), .second, .val (.long q2), .second, .val (.int p3), .val (.int sl), .val (.long mm), .second, .val (.long (own_span mm)), .second, .val (.long (q1 + (own_span mm))), .second, .unset, .unset, .unset] [(.long q1)])) _
  refine XS.lload X0.here hx rfl (hb hby at_96) rfl ?_
  show Steps p.tables e below (s₁.setTop (mkF m 98 #[.val (.long q1), .second, .val (.long q2), .second, .val (.int p3), .val (.int sl), .val (.long mm), .second, .val (.long (own_span mm)), .second, .val (.long (q1 + (own_span mm))), .second, .unset, .unset, .unset] [(.long mm), (.long q1)])) _
  refine st1 _ ?_
  show Steps p.tables e below (T1.setTop (mkF m 101 #[.val (.long q1), .second, .val (.long q2), .second, .val (.int p3), .val (.int sl), .val (.long mm), .second, .val (.long (own_span mm)), .second, .val (.long (q1 + (own_span mm))), .second, .unset, .unset, .unset] [(.ref b1)])) _
  refine XS.astore X1.here hx rfl (hb hby at_101) rfl rfl (l' := #[.val (.long q1), .second, .val (.long q2), .second, .val (.int p3), .val (.int sl), .val (.long mm), .second, .val (.long (own_span mm)), .second, .val (.long (q1 + (own_span mm))), .second, .val (.ref b1), .unset, .unset]) rfl ?_
  show Steps p.tables e below (T1.setTop (mkF m 103 #[.val (.long q1), .second, .val (.long q2), .second, .val (.int p3), .val (.int sl), .val (.long mm), .second, .val (.long (own_span mm)), .second, .val (.long (q1 + (own_span mm))), .second, .val (.ref b1), .unset, .unset] [])) _
  refine XS.aload X1.here hx rfl (hb hby at_103) rfl rfl ?_
  show Steps p.tables e below (T1.setTop (mkF m 105 #[.val (.long q1), .second, .val (.long q2), .second, .val (.int p3), .val (.int sl), .val (.long mm), .second, .val (.long (own_span mm)), .second, .val (.long (q1 + (own_span mm))), .second, .val (.ref b1), .unset, .unset] [(.ref b1)])) _
  refine XS.lload X1.here hx rfl (hb hby at_105) rfl ?_
  show Steps p.tables e below (T1.setTop (mkF m 107 #[.val (.long q1), .second, .val (.long q2), .second, .val (.int p3), .val (.int sl), .val (.long mm), .second, .val (.long (own_span mm)), .second, .val (.long (q1 + (own_span mm))), .second, .val (.ref b1), .unset, .unset] [(.long (q1 + (own_span mm))), (.ref b1)])) _
  refine st2.trans ?_
  show Steps p.tables e below (T2.setTop (mkF m 110 #[.val (.long q1), .second, .val (.long q2), .second, .val (.int p3), .val (.int sl), .val (.long mm), .second, .val (.long (own_span mm)), .second, .val (.long (q1 + (own_span mm))), .second, .val (.ref b1), .unset, .unset] [(.ref b2)])) _
  refine st3.trans ?_
  show Steps p.tables e below (T3.setTop (mkF m 113 #[.val (.long q1), .second, .val (.long q2), .second, .val (.int p3), .val (.int sl), .val (.long mm), .second, .val (.long (own_span mm)), .second, .val (.long (q1 + (own_span mm))), .second, .val (.ref b1), .unset, .unset] [(.int (1 : Int32))])) _
  refine XS.istore X3.here hx rfl (hb hby at_113) rfl (l' := #[.val (.long q1), .second, .val (.long q2), .second, .val (.int p3), .val (.int sl), .val (.long mm), .second, .val (.long (own_span mm)), .second, .val (.long (q1 + (own_span mm))), .second, .val (.ref b1), .val (.int (1 : Int32)), .unset]) rfl ?_
  show Steps p.tables e below (T3.setTop (mkF m 115 #[.val (.long q1), .second, .val (.long q2), .second, .val (.int p3), .val (.int sl), .val (.long mm), .second, .val (.long (own_span mm)), .second, .val (.long (q1 + (own_span mm))), .second, .val (.ref b1), .val (.int (1 : Int32)), .unset] [])) _
  refine XS.aload X3.here hx rfl (hb hby at_115) rfl rfl ?_
  show Steps p.tables e below (T3.setTop (mkF m 117 #[.val (.long q1), .second, .val (.long q2), .second, .val (.int p3), .val (.int sl), .val (.long mm), .second, .val (.long (own_span mm)), .second, .val (.long (q1 + (own_span mm))), .second, .val (.ref b1), .val (.int (1 : Int32)), .unset] [(.ref b1)])) _
  refine XS.lload X3.here hx rfl (hb hby at_117) rfl ?_
  show Steps p.tables e below (T3.setTop (mkF m 119 #[.val (.long q1), .second, .val (.long q2), .second, .val (.int p3), .val (.int sl), .val (.long mm), .second, .val (.long (own_span mm)), .second, .val (.long (q1 + (own_span mm))), .second, .val (.ref b1), .val (.int (1 : Int32)), .unset] [(.long (q1 + (own_span mm))), (.ref b1)])) _
  refine XS.lconst X3.here hx rfl (hb hby at_119) ?_
  show Steps p.tables e below (T3.setTop (mkF m 120 #[.val (.long q1), .second, .val (.long q2), .second, .val (.int p3), .val (.int sl), .val (.long mm), .second, .val (.long (own_span mm)), .second, .val (.long (q1 + (own_span mm))), .second, .val (.ref b1), .val (.int (1 : Int32)), .unset] [(.long (1 : Int64)), (.long (q1 + (own_span mm))), (.ref b1)])) _
  refine XS.lsub X3.here hx rfl (hb hby at_120) rfl ?_
  show Steps p.tables e below (T3.setTop (mkF m 121 #[.val (.long q1), .second, .val (.long q2), .second, .val (.int p3), .val (.int sl), .val (.long mm), .second, .val (.long (own_span mm)), .second, .val (.long (q1 + (own_span mm))), .second, .val (.ref b1), .val (.int (1 : Int32)), .unset] [(.long ((q1 + (own_span mm)) - (1 : Int64))), (.ref b1)])) _
  refine st4.trans ?_
  show Steps p.tables e below (T4.setTop (mkF m 124 #[.val (.long q1), .second, .val (.long q2), .second, .val (.int p3), .val (.int sl), .val (.long mm), .second, .val (.long (own_span mm)), .second, .val (.long (q1 + (own_span mm))), .second, .val (.ref b1), .val (.int (1 : Int32)), .unset] [(.ref b4)])) _
  refine st5.trans ?_
  show Steps p.tables e below (T5.setTop (mkF m 127 #[.val (.long q1), .second, .val (.long q2), .second, .val (.int p3), .val (.int sl), .val (.long mm), .second, .val (.long (own_span mm)), .second, .val (.long (q1 + (own_span mm))), .second, .val (.ref b1), .val (.int (1 : Int32)), .unset] [(.int (0 : Int32))])) _
  refine XS.ifNo X5.here hx rfl (hb hby at_127) rfl ((if0 _ _).trans (teq (by decide : (0 : Int32) = (0 : Int32))).2) ?_
  show Steps p.tables e below (T5.setTop (mkF m 130 #[.val (.long q1), .second, .val (.long q2), .second, .val (.int p3), .val (.int sl), .val (.long mm), .second, .val (.long (own_span mm)), .second, .val (.long (q1 + (own_span mm))), .second, .val (.ref b1), .val (.int (1 : Int32)), .unset] [])) _
  refine XS.iconst X5.here hx rfl (hb hby at_130) ?_
  show Steps p.tables e below (T5.setTop (mkF m 131 #[.val (.long q1), .second, .val (.long q2), .second, .val (.int p3), .val (.int sl), .val (.long mm), .second, .val (.long (own_span mm)), .second, .val (.long (q1 + (own_span mm))), .second, .val (.ref b1), .val (.int (1 : Int32)), .unset] [(.int (1 : Int32))])) _
  refine XS.goto X5.here hx rfl (pc0 := 131) (pc' := 135) rfl (hb hby at_131) (by decide) (by decide) ?_
  show Steps p.tables e below (T5.setTop (mkF m 135 #[.val (.long q1), .second, .val (.long q2), .second, .val (.int p3), .val (.int sl), .val (.long mm), .second, .val (.long (own_span mm)), .second, .val (.long (q1 + (own_span mm))), .second, .val (.ref b1), .val (.int (1 : Int32)), .unset] [(.int (1 : Int32))])) _
  refine XS.istore X5.here hx rfl (hb hby at_135) rfl (l' := #[.val (.long q1), .second, .val (.long q2), .second, .val (.int p3), .val (.int sl), .val (.long mm), .second, .val (.long (own_span mm)), .second, .val (.long (q1 + (own_span mm))), .second, .val (.ref b1), .val (.int (1 : Int32)), .val (.int (1 : Int32))]) rfl ?_
  show Steps p.tables e below (T5.setTop (mkF m 137 #[.val (.long q1), .second, .val (.long q2), .second, .val (.int p3), .val (.int sl), .val (.long mm), .second, .val (.long (own_span mm)), .second, .val (.long (q1 + (own_span mm))), .second, .val (.ref b1), .val (.int (1 : Int32)), .val (.int (1 : Int32))] [])) _
  refine XS.iload X5.here hx rfl (hb hby at_137) rfl ?_
  show Steps p.tables e below (T5.setTop (mkF m 139 #[.val (.long q1), .second, .val (.long q2), .second, .val (.int p3), .val (.int sl), .val (.long mm), .second, .val (.long (own_span mm)), .second, .val (.long (q1 + (own_span mm))), .second, .val (.ref b1), .val (.int (1 : Int32)), .val (.int (1 : Int32))] [(.int (1 : Int32))])) _
  refine XS.ifNo X5.here hx rfl (hb hby at_139) rfl ((if0 _ _).trans (feq (by decide : ¬ ((1 : Int32) = (0 : Int32)))).1) ?_
  show Steps p.tables e below (T5.setTop (mkF m 142 #[.val (.long q1), .second, .val (.long q2), .second, .val (.int p3), .val (.int sl), .val (.long mm), .second, .val (.long (own_span mm)), .second, .val (.long (q1 + (own_span mm))), .second, .val (.ref b1), .val (.int (1 : Int32)), .val (.int (1 : Int32))] [])) _
  refine XS.iload X5.here hx rfl (hb hby at_142) rfl ?_
  show Steps p.tables e below (T5.setTop (mkF m 144 #[.val (.long q1), .second, .val (.long q2), .second, .val (.int p3), .val (.int sl), .val (.long mm), .second, .val (.long (own_span mm)), .second, .val (.long (q1 + (own_span mm))), .second, .val (.ref b1), .val (.int (1 : Int32)), .val (.int (1 : Int32))] [(.int (1 : Int32))])) _
  refine XS.ifNo X5.here hx rfl (hb hby at_144) rfl ((if0 _ _).trans (feq (by decide : ¬ ((1 : Int32) = (0 : Int32)))).1) ?_
  show Steps p.tables e below (T5.setTop (mkF m 147 #[.val (.long q1), .second, .val (.long q2), .second, .val (.int p3), .val (.int sl), .val (.long mm), .second, .val (.long (own_span mm)), .second, .val (.long (q1 + (own_span mm))), .second, .val (.ref b1), .val (.int (1 : Int32)), .val (.int (1 : Int32))] [])) _
  refine XS.iconst X5.here hx rfl (hb hby at_147) ?_
  show Steps p.tables e below (T5.setTop (mkF m 148 #[.val (.long q1), .second, .val (.long q2), .second, .val (.int p3), .val (.int sl), .val (.long mm), .second, .val (.long (own_span mm)), .second, .val (.long (q1 + (own_span mm))), .second, .val (.ref b1), .val (.int (1 : Int32)), .val (.int (1 : Int32))] [(.int (1 : Int32))])) _
  refine XS.goto X5.here hx rfl (pc0 := 148) (pc' := 152) rfl (hb hby at_148) (by decide) (by decide) ?_
  exact kt
theorem pnm_4 : plainName "com/example/strict_lock/strictlock/WatcherEndOfKeyPinLaw" = true := by first | (simp [plainName, overriddenIn]; done) | decide +kernel
theorem ef_rm0_0 (m : MethodId) (q1 : Int64) (q2 : Int64) (p3 : Int32) : entryFrame m #[(.long q1), (.long q2), (.int p3)] maxLocals = mkF m 0 #[.val (.long q1), .second, .val (.long q2), .second, .val (.int p3), .unset, .unset, .unset, .unset, .unset, .unset, .unset, .unset, .unset, .unset] [] := by first | (simp [entryFrame, mkF, argsToLocals, Value.category, maxLocals]; done) | rfl
set_option maxRecDepth 65536 in
set_option maxHeartbeats 40000000 in
theorem rm0_0_t (l : Launch) (Z : State) (a0 : Array Value) (hw : ∀ d ∈ tables_1, d.before a0 Z = true) (ws : List Jvm.Cond) (q1 : Int64) (q2 : Int64) (p3 : Int32) (mm : Int64) (w_LM : Addr) (w_LC : Addr) (w_Z : Addr) (h0 : Heap) (n0 : Nat) (Z0 : n0 ≤ h0.size) (S_LM : Sta Z h0 "com/example/strict_lock/strictlock/Watcher" "LAST_MILLISECOND" "Ljava/time/Duration;" (.ref w_LM)) (E_w_LM : Exa Z h0 w_LM "java/time/Duration") (F_w_LMs : Fld Z h0 w_LM "java/time/Duration" "seconds" "J" (.long (0 : Int64))) (F_w_LMn : Fld Z h0 w_LM "java/time/Duration" "nanos" "I" (.int (1000000 : Int32))) (S_LC : Sta Z h0 "com/example/strict_lock/strictlock/Deadline" "LONGEST_COUNTABLE" "Ljava/time/Duration;" (.ref w_LC)) (E_w_LC : Exa Z h0 w_LC "java/time/Duration") (F_w_LCs : Fld Z h0 w_LC "java/time/Duration" "seconds" "J" (.long (9223372036 : Int64))) (F_w_LCn : Fld Z h0 w_LC "java/time/Duration" "nanos" "I" (.int (854775807 : Int32))) (S_Z : Sta Z h0 "java/time/Duration" "ZERO" "Ljava/time/Duration;" (.ref w_Z)) (E_Z : Exa Z h0 w_Z "java/time/Duration") (F_Zs : Fld Z h0 w_Z "java/time/Duration" "seconds" "J" (.long (0 : Int64))) (F_Zn : Fld Z h0 w_Z "java/time/Duration" "nanos" "I" (.int (0 : Int32))) (hm : ¬ mm < (0 : Int64)) (hm0 : (q2 &&& (9223372036854775807 : Int64)) = mm) (hs0 : (p3 &&& (3 : Int32)) = (0 : Int32)) (hc70 : ¬ ((9223372036853 : Int64) < mm)) :
    MetFree l x (head1 (Jvm.Cond.code x code maxLocals ret :: ws) room_1) (fun a U => a = #[(.long q1), (.long q2), (.int p3)] ∧ Z.Warmed39 U.vm ∧ U.heap = h0) (fun _ _ _ _ _ => True) (fun _ U o U' => ∃ v L, o = .returned v ∧ QL (.int (1 : Int32)) n0 v U'.heap L ∧ FrameEnd U o U' L room_1.cells room_1.slots) := by
  refine MetFree.of_bodySF (plainFor_of_name pnm_4) hisR ?_
  intro p e s m args below meth c s₁ Bd hml0 hP hK
  obtain ⟨rfl, hZ, hh⟩ := hP
  have hx := Bd.exec
  have hby := Bd.bytes
  have hml : c.maxLocals = 15 := hml0
  have hown : s.vm.findClass "com/example/strict_lock/strictlock/WatcherEndOfKeyPinLaw" = some m.cls := findClass_of_methodNamed Bd.named
  have hnm := (name_of_methodNamed Bd.named Bd.method).1
  have X0 : Stand p l e room_1 s m #[(.long q1), (.long q2), (.int p3)] below meth c s₁ [] 0 0 := Stand.of_body Bd
  have e0 : s₁.heap = h0 := by rw [← hh, Bd.state]; rfl
  have N0 := Fr.nil n0
  have pre0 : ∀ t, Steps p.tables e below (s₁.setTop (mkF m 0 #[.val (.long q1), .second, .val (.long q2), .second, .val (.int p3), .unset, .unset, .unset, .unset, .unset, .unset, .unset, .unset, .unset, .unset] [])) t → Steps p.tables e below (s₁.setTop (entryFrame m #[(.long q1), (.long q2), (.int p3)] maxLocals)) t := fun t k => castTop (ef_rm0_0 m q1 q2 p3) k
  obtain ⟨T1, Lc1, k1, n1, Ls1, X1, N1, hk1, hn1, st1⟩ := own_tail Z a0 hw q1 q2 p3 (p3 &&& (3 : Int32)) mm w_LM w_LC w_Z h0 n0 Z0 S_LM E_w_LM F_w_LMs F_w_LMn S_LC E_w_LC F_w_LCs F_w_LCn S_Z E_Z F_Zs F_Zn hm X0 hx hZ hby hml hown e0
  obtain ⟨fs, hr, hrun, hended, hW, hsame⟩ := X1.leave (v := some (.int (1 : Int32))) (fun h => by rw [Bd.returns] at h; cases h)
  refine ⟨_, _, pre0 _ ?_, hrun, hended, _, _, rfl, ?_, ⟨_, rfl⟩, hW, hsame.mono hk1 hn1⟩
  · show Steps p.tables e below (s₁.setTop (mkF m 0 #[.val (.long q1), .second, .val (.long q2), .second, .val (.int p3), .unset, .unset, .unset, .unset, .unset, .unset, .unset, .unset, .unset, .unset] [])) _
    refine XS.iload X0.here hx rfl (hb hby at_0) rfl ?_
    show Steps p.tables e below (s₁.setTop (mkF m 2 #[.val (.long q1), .second, .val (.long q2), .second, .val (.int p3), .unset, .unset, .unset, .unset, .unset, .unset, .unset, .unset, .unset, .unset] [(.int p3)])) _
    refine XS.iconst X0.here hx rfl (hb hby at_2) ?_
    show Steps p.tables e below (s₁.setTop (mkF m 3 #[.val (.long q1), .second, .val (.long q2), .second, .val (.int p3), .unset, .unset, .unset, .unset, .unset, .unset, .unset, .unset, .unset, .unset] [(.int (3 : Int32)), (.int p3)])) _
    refine XS.iand X0.here hx rfl (hb hby at_3) rfl ?_
    show Steps p.tables e below (s₁.setTop (mkF m 4 #[.val (.long q1), .second, .val (.long q2), .second, .val (.int p3), .unset, .unset, .unset, .unset, .unset, .unset, .unset, .unset, .unset, .unset] [(.int (p3 &&& (3 : Int32)))])) _
    refine XS.istore X0.here hx rfl (hb hby at_4) rfl (l' := #[.val (.long q1), .second, .val (.long q2), .second, .val (.int p3), .val (.int (p3 &&& (3 : Int32))), .unset, .unset, .unset, .unset, .unset, .unset, .unset, .unset, .unset]) rfl ?_
    show Steps p.tables e below (s₁.setTop (mkF m 6 #[.val (.long q1), .second, .val (.long q2), .second, .val (.int p3), .val (.int (p3 &&& (3 : Int32))), .unset, .unset, .unset, .unset, .unset, .unset, .unset, .unset, .unset] [])) _
    refine XS.iload X0.here hx rfl (hb hby at_6) rfl ?_
    show Steps p.tables e below (s₁.setTop (mkF m 8 #[.val (.long q1), .second, .val (.long q2), .second, .val (.int p3), .val (.int (p3 &&& (3 : Int32))), .unset, .unset, .unset, .unset, .unset, .unset, .unset, .unset, .unset] [(.int (p3 &&& (3 : Int32)))])) _
    refine XS.ifNo X0.here hx rfl (hb hby at_8) rfl ((if0 _ _).trans (teq (hs0)).2) ?_
    show Steps p.tables e below (s₁.setTop (mkF m 11 #[.val (.long q1), .second, .val (.long q2), .second, .val (.int p3), .val (.int (p3 &&& (3 : Int32))), .unset, .unset, .unset, .unset, .unset, .unset, .unset, .unset, .unset] [])) _
    refine XS.lloadN X0.here hx rfl (hb hby at_11) rfl ?_
    show Steps p.tables e below (s₁.setTop (mkF m 12 #[.val (.long q1), .second, .val (.long q2), .second, .val (.int p3), .val (.int (p3 &&& (3 : Int32))), .unset, .unset, .unset, .unset, .unset, .unset, .unset, .unset, .unset] [(.long q2)])) _
    refine X0.ldc2Long hx hown (mvT hZ (hw _ (List.mem_of_getElem? (i := 0) rfl))) (g := (mkF m 12 #[.val (.long q1), .second, .val (.long q2), .second, .val (.int p3), .val (.int (p3 &&& (3 : Int32))), .unset, .unset, .unset, .unset, .unset, .unset, .unset, .unset, .unset] [(.long q2)])) rfl (hb hby at_12) _ ?_
    show Steps p.tables e below (s₁.setTop (mkF m 15 #[.val (.long q1), .second, .val (.long q2), .second, .val (.int p3), .val (.int (p3 &&& (3 : Int32))), .unset, .unset, .unset, .unset, .unset, .unset, .unset, .unset, .unset] [(.long (9223372036854775807 : Int64)), (.long q2)])) _
    refine XS.land X0.here hx rfl (hb hby at_15) rfl ?_
    show Steps p.tables e below (s₁.setTop (mkF m 16 #[.val (.long q1), .second, .val (.long q2), .second, .val (.int p3), .val (.int (p3 &&& (3 : Int32))), .unset, .unset, .unset, .unset, .unset, .unset, .unset, .unset, .unset] [(.long (q2 &&& (9223372036854775807 : Int64)))])) _
    refine XS.lstore X0.here hx rfl (hb hby at_16) rfl (l' := #[.val (.long q1), .second, .val (.long q2), .second, .val (.int p3), .val (.int (p3 &&& (3 : Int32))), .val (.long (q2 &&& (9223372036854775807 : Int64))), .second, .unset, .unset, .unset, .unset, .unset, .unset, .unset]) rfl ?_
    show Steps p.tables e below (s₁.setTop (mkF m 18 #[.val (.long q1), .second, .val (.long q2), .second, .val (.int p3), .val (.int (p3 &&& (3 : Int32))), .val (.long (q2 &&& (9223372036854775807 : Int64))), .second, .unset, .unset, .unset, .unset, .unset, .unset, .unset] [])) _
    refine XS.goto X0.here hx rfl (pc0 := 18) (pc' := 64) rfl (hb hby at_18) (by decide) (by decide) ?_
    show Steps p.tables e below (s₁.setTop (mkF m 64 #[.val (.long q1), .second, .val (.long q2), .second, .val (.int p3), .val (.int (p3 &&& (3 : Int32))), .val (.long (q2 &&& (9223372036854775807 : Int64))), .second, .unset, .unset, .unset, .unset, .unset, .unset, .unset] [])) _
    rw [hm0]
    show Steps p.tables e below (s₁.setTop (mkF m 64 #[.val (.long q1), .second, .val (.long q2), .second, .val (.int p3), .val (.int (p3 &&& (3 : Int32))), .val (.long mm), .second, .unset, .unset, .unset, .unset, .unset, .unset, .unset] [])) _
    refine XS.lload X0.here hx rfl (hb hby at_64) rfl ?_
    show Steps p.tables e below (s₁.setTop (mkF m 66 #[.val (.long q1), .second, .val (.long q2), .second, .val (.int p3), .val (.int (p3 &&& (3 : Int32))), .val (.long mm), .second, .unset, .unset, .unset, .unset, .unset, .unset, .unset] [(.long mm)])) _
    refine X0.ldc2Long hx hown (mvT hZ (hw _ (List.mem_of_getElem? (i := 1) rfl))) (g := (mkF m 66 #[.val (.long q1), .second, .val (.long q2), .second, .val (.int p3), .val (.int (p3 &&& (3 : Int32))), .val (.long mm), .second, .unset, .unset, .unset, .unset, .unset, .unset, .unset] [(.long mm)])) rfl (hb hby at_66) _ ?_
    show Steps p.tables e below (s₁.setTop (mkF m 69 #[.val (.long q1), .second, .val (.long q2), .second, .val (.int p3), .val (.int (p3 &&& (3 : Int32))), .val (.long mm), .second, .unset, .unset, .unset, .unset, .unset, .unset, .unset] [(.long (9223372036853 : Int64)), (.long mm)])) _
    refine XS.lcmp X0.here hx rfl (hb hby at_69) rfl ?_
    show Steps p.tables e below (s₁.setTop (mkF m 70 #[.val (.long q1), .second, .val (.long q2), .second, .val (.int p3), .val (.int (p3 &&& (3 : Int32))), .val (.long mm), .second, .unset, .unset, .unset, .unset, .unset, .unset, .unset] [(.int (lcmpW mm (9223372036853 : Int64)))])) _
    refine XS.ifYes X0.here hx rfl (pc0 := 70) (pc' := 79) rfl (hb hby at_70) rfl ((if0 _ _).trans (flt (fun q => hc70 ((lw_gt mm (9223372036853 : Int64)).mp q))).2.2.2) (by decide) (by decide) ?_
    show Steps p.tables e below (s₁.setTop (mkF m 79 #[.val (.long q1), .second, .val (.long q2), .second, .val (.int p3), .val (.int (p3 &&& (3 : Int32))), .val (.long mm), .second, .unset, .unset, .unset, .unset, .unset, .unset, .unset] [])) _
    refine XS.lload X0.here hx rfl (hb hby at_79) rfl ?_
    show Steps p.tables e below (s₁.setTop (mkF m 81 #[.val (.long q1), .second, .val (.long q2), .second, .val (.int p3), .val (.int (p3 &&& (3 : Int32))), .val (.long mm), .second, .unset, .unset, .unset, .unset, .unset, .unset, .unset] [(.long mm)])) _
    refine XS.lconst X0.here hx rfl (hb hby at_81) ?_
    show Steps p.tables e below (s₁.setTop (mkF m 82 #[.val (.long q1), .second, .val (.long q2), .second, .val (.int p3), .val (.int (p3 &&& (3 : Int32))), .val (.long mm), .second, .unset, .unset, .unset, .unset, .unset, .unset, .unset] [(.long (1 : Int64)), (.long mm)])) _
    refine XS.ladd X0.here hx rfl (hb hby at_82) rfl ?_
    show Steps p.tables e below (s₁.setTop (mkF m 83 #[.val (.long q1), .second, .val (.long q2), .second, .val (.int p3), .val (.int (p3 &&& (3 : Int32))), .val (.long mm), .second, .unset, .unset, .unset, .unset, .unset, .unset, .unset] [(.long (mm + (1 : Int64)))])) _
    refine X0.ldc2Long hx hown (mvT hZ (hw _ (List.mem_of_getElem? (i := 2) rfl))) (g := (mkF m 83 #[.val (.long q1), .second, .val (.long q2), .second, .val (.int p3), .val (.int (p3 &&& (3 : Int32))), .val (.long mm), .second, .unset, .unset, .unset, .unset, .unset, .unset, .unset] [(.long (mm + (1 : Int64)))])) rfl (hb hby at_83) _ ?_
    show Steps p.tables e below (s₁.setTop (mkF m 86 #[.val (.long q1), .second, .val (.long q2), .second, .val (.int p3), .val (.int (p3 &&& (3 : Int32))), .val (.long mm), .second, .unset, .unset, .unset, .unset, .unset, .unset, .unset] [(.long (1000000 : Int64)), (.long (mm + (1 : Int64)))])) _
    refine XS.lmul X0.here hx rfl (hb hby at_86) rfl ?_
    show Steps p.tables e below (s₁.setTop (mkF m 87 #[.val (.long q1), .second, .val (.long q2), .second, .val (.int p3), .val (.int (p3 &&& (3 : Int32))), .val (.long mm), .second, .unset, .unset, .unset, .unset, .unset, .unset, .unset] [(.long ((mm + (1 : Int64)) * (1000000 : Int64)))])) _
    rw [show ((mm + (1 : Int64)) * (1000000 : Int64)) = own_span mm from (own_span_f mm hc70)]
    refine st1 _ ?_
    show Steps p.tables e below (T1.setTop (mkF m 152 Ls1 [(.int (1 : Int32))])) _
    exact retN X1 hx (t := .boolean) Bd.returns (by simp) (hb hby at_152) hr
  · show QL (.int (1 : Int32)) n0 _ T1.heap _
    exact ⟨rfl, N1, trivial⟩
set_option maxRecDepth 65536 in
set_option maxHeartbeats 40000000 in
theorem rm0_0_f (l : Launch) (Z : State) (a0 : Array Value) (hw : ∀ d ∈ tables_1, d.before a0 Z = true) (ws : List Jvm.Cond) (q1 : Int64) (q2 : Int64) (p3 : Int32) (mm : Int64) (w_LM : Addr) (w_LC : Addr) (w_Z : Addr) (h0 : Heap) (n0 : Nat) (Z0 : n0 ≤ h0.size) (S_LM : Sta Z h0 "com/example/strict_lock/strictlock/Watcher" "LAST_MILLISECOND" "Ljava/time/Duration;" (.ref w_LM)) (E_w_LM : Exa Z h0 w_LM "java/time/Duration") (F_w_LMs : Fld Z h0 w_LM "java/time/Duration" "seconds" "J" (.long (0 : Int64))) (F_w_LMn : Fld Z h0 w_LM "java/time/Duration" "nanos" "I" (.int (1000000 : Int32))) (S_LC : Sta Z h0 "com/example/strict_lock/strictlock/Deadline" "LONGEST_COUNTABLE" "Ljava/time/Duration;" (.ref w_LC)) (E_w_LC : Exa Z h0 w_LC "java/time/Duration") (F_w_LCs : Fld Z h0 w_LC "java/time/Duration" "seconds" "J" (.long (9223372036 : Int64))) (F_w_LCn : Fld Z h0 w_LC "java/time/Duration" "nanos" "I" (.int (854775807 : Int32))) (S_Z : Sta Z h0 "java/time/Duration" "ZERO" "Ljava/time/Duration;" (.ref w_Z)) (E_Z : Exa Z h0 w_Z "java/time/Duration") (F_Zs : Fld Z h0 w_Z "java/time/Duration" "seconds" "J" (.long (0 : Int64))) (F_Zn : Fld Z h0 w_Z "java/time/Duration" "nanos" "I" (.int (0 : Int32))) (hm : ¬ mm < (0 : Int64)) (hm0 : (q2 &&& (9223372036854775807 : Int64)) = mm) (hs0 : (p3 &&& (3 : Int32)) = (0 : Int32)) (hc70 : (9223372036853 : Int64) < mm) :
    MetFree l x (head1 (Jvm.Cond.code x code maxLocals ret :: ws) room_1) (fun a U => a = #[(.long q1), (.long q2), (.int p3)] ∧ Z.Warmed39 U.vm ∧ U.heap = h0) (fun _ _ _ _ _ => True) (fun _ U o U' => ∃ v L, o = .returned v ∧ QL (.int (1 : Int32)) n0 v U'.heap L ∧ FrameEnd U o U' L room_1.cells room_1.slots) := by
  refine MetFree.of_bodySF (plainFor_of_name pnm_4) hisR ?_
  intro p e s m args below meth c s₁ Bd hml0 hP hK
  obtain ⟨rfl, hZ, hh⟩ := hP
  have hx := Bd.exec
  have hby := Bd.bytes
  have hml : c.maxLocals = 15 := hml0
  have hown : s.vm.findClass "com/example/strict_lock/strictlock/WatcherEndOfKeyPinLaw" = some m.cls := findClass_of_methodNamed Bd.named
  have hnm := (name_of_methodNamed Bd.named Bd.method).1
  have X0 : Stand p l e room_1 s m #[(.long q1), (.long q2), (.int p3)] below meth c s₁ [] 0 0 := Stand.of_body Bd
  have e0 : s₁.heap = h0 := by rw [← hh, Bd.state]; rfl
  have N0 := Fr.nil n0
  have pre0 : ∀ t, Steps p.tables e below (s₁.setTop (mkF m 0 #[.val (.long q1), .second, .val (.long q2), .second, .val (.int p3), .unset, .unset, .unset, .unset, .unset, .unset, .unset, .unset, .unset, .unset] [])) t → Steps p.tables e below (s₁.setTop (entryFrame m #[(.long q1), (.long q2), (.int p3)] maxLocals)) t := fun t k => castTop (ef_rm0_0 m q1 q2 p3) k
  obtain ⟨T1, Lc1, k1, n1, Ls1, X1, N1, hk1, hn1, st1⟩ := own_tail Z a0 hw q1 q2 p3 (p3 &&& (3 : Int32)) mm w_LM w_LC w_Z h0 n0 Z0 S_LM E_w_LM F_w_LMs F_w_LMn S_LC E_w_LC F_w_LCs F_w_LCn S_Z E_Z F_Zs F_Zn hm X0 hx hZ hby hml hown e0
  obtain ⟨fs, hr, hrun, hended, hW, hsame⟩ := X1.leave (v := some (.int (1 : Int32))) (fun h => by rw [Bd.returns] at h; cases h)
  refine ⟨_, _, pre0 _ ?_, hrun, hended, _, _, rfl, ?_, ⟨_, rfl⟩, hW, hsame.mono hk1 hn1⟩
  · show Steps p.tables e below (s₁.setTop (mkF m 0 #[.val (.long q1), .second, .val (.long q2), .second, .val (.int p3), .unset, .unset, .unset, .unset, .unset, .unset, .unset, .unset, .unset, .unset] [])) _
    refine XS.iload X0.here hx rfl (hb hby at_0) rfl ?_
    show Steps p.tables e below (s₁.setTop (mkF m 2 #[.val (.long q1), .second, .val (.long q2), .second, .val (.int p3), .unset, .unset, .unset, .unset, .unset, .unset, .unset, .unset, .unset, .unset] [(.int p3)])) _
    refine XS.iconst X0.here hx rfl (hb hby at_2) ?_
    show Steps p.tables e below (s₁.setTop (mkF m 3 #[.val (.long q1), .second, .val (.long q2), .second, .val (.int p3), .unset, .unset, .unset, .unset, .unset, .unset, .unset, .unset, .unset, .unset] [(.int (3 : Int32)), (.int p3)])) _
    refine XS.iand X0.here hx rfl (hb hby at_3) rfl ?_
    show Steps p.tables e below (s₁.setTop (mkF m 4 #[.val (.long q1), .second, .val (.long q2), .second, .val (.int p3), .unset, .unset, .unset, .unset, .unset, .unset, .unset, .unset, .unset, .unset] [(.int (p3 &&& (3 : Int32)))])) _
    refine XS.istore X0.here hx rfl (hb hby at_4) rfl (l' := #[.val (.long q1), .second, .val (.long q2), .second, .val (.int p3), .val (.int (p3 &&& (3 : Int32))), .unset, .unset, .unset, .unset, .unset, .unset, .unset, .unset, .unset]) rfl ?_
    show Steps p.tables e below (s₁.setTop (mkF m 6 #[.val (.long q1), .second, .val (.long q2), .second, .val (.int p3), .val (.int (p3 &&& (3 : Int32))), .unset, .unset, .unset, .unset, .unset, .unset, .unset, .unset, .unset] [])) _
    refine XS.iload X0.here hx rfl (hb hby at_6) rfl ?_
    show Steps p.tables e below (s₁.setTop (mkF m 8 #[.val (.long q1), .second, .val (.long q2), .second, .val (.int p3), .val (.int (p3 &&& (3 : Int32))), .unset, .unset, .unset, .unset, .unset, .unset, .unset, .unset, .unset] [(.int (p3 &&& (3 : Int32)))])) _
    refine XS.ifNo X0.here hx rfl (hb hby at_8) rfl ((if0 _ _).trans (teq (hs0)).2) ?_
    show Steps p.tables e below (s₁.setTop (mkF m 11 #[.val (.long q1), .second, .val (.long q2), .second, .val (.int p3), .val (.int (p3 &&& (3 : Int32))), .unset, .unset, .unset, .unset, .unset, .unset, .unset, .unset, .unset] [])) _
    refine XS.lloadN X0.here hx rfl (hb hby at_11) rfl ?_
    show Steps p.tables e below (s₁.setTop (mkF m 12 #[.val (.long q1), .second, .val (.long q2), .second, .val (.int p3), .val (.int (p3 &&& (3 : Int32))), .unset, .unset, .unset, .unset, .unset, .unset, .unset, .unset, .unset] [(.long q2)])) _
    refine X0.ldc2Long hx hown (mvT hZ (hw _ (List.mem_of_getElem? (i := 0) rfl))) (g := (mkF m 12 #[.val (.long q1), .second, .val (.long q2), .second, .val (.int p3), .val (.int (p3 &&& (3 : Int32))), .unset, .unset, .unset, .unset, .unset, .unset, .unset, .unset, .unset] [(.long q2)])) rfl (hb hby at_12) _ ?_
    show Steps p.tables e below (s₁.setTop (mkF m 15 #[.val (.long q1), .second, .val (.long q2), .second, .val (.int p3), .val (.int (p3 &&& (3 : Int32))), .unset, .unset, .unset, .unset, .unset, .unset, .unset, .unset, .unset] [(.long (9223372036854775807 : Int64)), (.long q2)])) _
    refine XS.land X0.here hx rfl (hb hby at_15) rfl ?_
    show Steps p.tables e below (s₁.setTop (mkF m 16 #[.val (.long q1), .second, .val (.long q2), .second, .val (.int p3), .val (.int (p3 &&& (3 : Int32))), .unset, .unset, .unset, .unset, .unset, .unset, .unset, .unset, .unset] [(.long (q2 &&& (9223372036854775807 : Int64)))])) _
    refine XS.lstore X0.here hx rfl (hb hby at_16) rfl (l' := #[.val (.long q1), .second, .val (.long q2), .second, .val (.int p3), .val (.int (p3 &&& (3 : Int32))), .val (.long (q2 &&& (9223372036854775807 : Int64))), .second, .unset, .unset, .unset, .unset, .unset, .unset, .unset]) rfl ?_
    show Steps p.tables e below (s₁.setTop (mkF m 18 #[.val (.long q1), .second, .val (.long q2), .second, .val (.int p3), .val (.int (p3 &&& (3 : Int32))), .val (.long (q2 &&& (9223372036854775807 : Int64))), .second, .unset, .unset, .unset, .unset, .unset, .unset, .unset] [])) _
    refine XS.goto X0.here hx rfl (pc0 := 18) (pc' := 64) rfl (hb hby at_18) (by decide) (by decide) ?_
    show Steps p.tables e below (s₁.setTop (mkF m 64 #[.val (.long q1), .second, .val (.long q2), .second, .val (.int p3), .val (.int (p3 &&& (3 : Int32))), .val (.long (q2 &&& (9223372036854775807 : Int64))), .second, .unset, .unset, .unset, .unset, .unset, .unset, .unset] [])) _
    rw [hm0]
    show Steps p.tables e below (s₁.setTop (mkF m 64 #[.val (.long q1), .second, .val (.long q2), .second, .val (.int p3), .val (.int (p3 &&& (3 : Int32))), .val (.long mm), .second, .unset, .unset, .unset, .unset, .unset, .unset, .unset] [])) _
    refine XS.lload X0.here hx rfl (hb hby at_64) rfl ?_
    show Steps p.tables e below (s₁.setTop (mkF m 66 #[.val (.long q1), .second, .val (.long q2), .second, .val (.int p3), .val (.int (p3 &&& (3 : Int32))), .val (.long mm), .second, .unset, .unset, .unset, .unset, .unset, .unset, .unset] [(.long mm)])) _
    refine X0.ldc2Long hx hown (mvT hZ (hw _ (List.mem_of_getElem? (i := 1) rfl))) (g := (mkF m 66 #[.val (.long q1), .second, .val (.long q2), .second, .val (.int p3), .val (.int (p3 &&& (3 : Int32))), .val (.long mm), .second, .unset, .unset, .unset, .unset, .unset, .unset, .unset] [(.long mm)])) rfl (hb hby at_66) _ ?_
    show Steps p.tables e below (s₁.setTop (mkF m 69 #[.val (.long q1), .second, .val (.long q2), .second, .val (.int p3), .val (.int (p3 &&& (3 : Int32))), .val (.long mm), .second, .unset, .unset, .unset, .unset, .unset, .unset, .unset] [(.long (9223372036853 : Int64)), (.long mm)])) _
    refine XS.lcmp X0.here hx rfl (hb hby at_69) rfl ?_
    show Steps p.tables e below (s₁.setTop (mkF m 70 #[.val (.long q1), .second, .val (.long q2), .second, .val (.int p3), .val (.int (p3 &&& (3 : Int32))), .val (.long mm), .second, .unset, .unset, .unset, .unset, .unset, .unset, .unset] [(.int (lcmpW mm (9223372036853 : Int64)))])) _
    refine XS.ifNo X0.here hx rfl (hb hby at_70) rfl ((if0 _ _).trans (tlt ((lw_gt mm (9223372036853 : Int64)).mpr hc70)).2.2.2) ?_
    show Steps p.tables e below (s₁.setTop (mkF m 73 #[.val (.long q1), .second, .val (.long q2), .second, .val (.int p3), .val (.int (p3 &&& (3 : Int32))), .val (.long mm), .second, .unset, .unset, .unset, .unset, .unset, .unset, .unset] [])) _
    refine X0.ldc2Long hx hown (mvT hZ (hw _ (List.mem_of_getElem? (i := 0) rfl))) (g := (mkF m 73 #[.val (.long q1), .second, .val (.long q2), .second, .val (.int p3), .val (.int (p3 &&& (3 : Int32))), .val (.long mm), .second, .unset, .unset, .unset, .unset, .unset, .unset, .unset] [])) rfl (hb hby at_73) _ ?_
    show Steps p.tables e below (s₁.setTop (mkF m 76 #[.val (.long q1), .second, .val (.long q2), .second, .val (.int p3), .val (.int (p3 &&& (3 : Int32))), .val (.long mm), .second, .unset, .unset, .unset, .unset, .unset, .unset, .unset] [(.long (9223372036854775807 : Int64))])) _
    refine XS.goto X0.here hx rfl (pc0 := 76) (pc' := 87) rfl (hb hby at_76) (by decide) (by decide) ?_
    show Steps p.tables e below (s₁.setTop (mkF m 87 #[.val (.long q1), .second, .val (.long q2), .second, .val (.int p3), .val (.int (p3 &&& (3 : Int32))), .val (.long mm), .second, .unset, .unset, .unset, .unset, .unset, .unset, .unset] [(.long (9223372036854775807 : Int64))])) _
    rw [show (9223372036854775807 : Int64) = own_span mm from (own_span_t mm hc70)]
    refine st1 _ ?_
    show Steps p.tables e below (T1.setTop (mkF m 152 Ls1 [(.int (1 : Int32))])) _
    exact retN X1 hx (t := .boolean) Bd.returns (by simp) (hb hby at_152) hr
  · show QL (.int (1 : Int32)) n0 _ T1.heap _
    exact ⟨rfl, N1, trivial⟩
set_option maxRecDepth 65536 in
set_option maxHeartbeats 40000000 in
theorem rm0_0 (l : Launch) (Z : State) (a0 : Array Value) (hw : ∀ d ∈ tables_1, d.before a0 Z = true) (ws : List Jvm.Cond) (q1 : Int64) (q2 : Int64) (p3 : Int32) (mm : Int64) (w_LM : Addr) (w_LC : Addr) (w_Z : Addr) (h0 : Heap) (n0 : Nat) (Z0 : n0 ≤ h0.size) (S_LM : Sta Z h0 "com/example/strict_lock/strictlock/Watcher" "LAST_MILLISECOND" "Ljava/time/Duration;" (.ref w_LM)) (E_w_LM : Exa Z h0 w_LM "java/time/Duration") (F_w_LMs : Fld Z h0 w_LM "java/time/Duration" "seconds" "J" (.long (0 : Int64))) (F_w_LMn : Fld Z h0 w_LM "java/time/Duration" "nanos" "I" (.int (1000000 : Int32))) (S_LC : Sta Z h0 "com/example/strict_lock/strictlock/Deadline" "LONGEST_COUNTABLE" "Ljava/time/Duration;" (.ref w_LC)) (E_w_LC : Exa Z h0 w_LC "java/time/Duration") (F_w_LCs : Fld Z h0 w_LC "java/time/Duration" "seconds" "J" (.long (9223372036 : Int64))) (F_w_LCn : Fld Z h0 w_LC "java/time/Duration" "nanos" "I" (.int (854775807 : Int32))) (S_Z : Sta Z h0 "java/time/Duration" "ZERO" "Ljava/time/Duration;" (.ref w_Z)) (E_Z : Exa Z h0 w_Z "java/time/Duration") (F_Zs : Fld Z h0 w_Z "java/time/Duration" "seconds" "J" (.long (0 : Int64))) (F_Zn : Fld Z h0 w_Z "java/time/Duration" "nanos" "I" (.int (0 : Int32))) (hm : ¬ mm < (0 : Int64)) (hm0 : (q2 &&& (9223372036854775807 : Int64)) = mm) (hs0 : (p3 &&& (3 : Int32)) = (0 : Int32)) :
    MetFree l x (head1 (Jvm.Cond.code x code maxLocals ret :: ws) room_1) (fun a U => a = #[(.long q1), (.long q2), (.int p3)] ∧ Z.Warmed39 U.vm ∧ U.heap = h0) (fun _ _ _ _ _ => True) (fun _ U o U' => ∃ v L, o = .returned v ∧ QL (.int (1 : Int32)) n0 v U'.heap L ∧ FrameEnd U o U' L room_1.cells room_1.slots) := by
  by_cases hc70 : (9223372036853 : Int64) < mm
  · exact rm0_0_f l Z a0 hw ws q1 q2 p3 mm w_LM w_LC w_Z h0 n0 Z0 S_LM E_w_LM F_w_LMs F_w_LMn S_LC E_w_LC F_w_LCs F_w_LCn S_Z E_Z F_Zs F_Zn hm hm0 hs0 hc70
  · exact rm0_0_t l Z a0 hw ws q1 q2 p3 mm w_LM w_LC w_Z h0 n0 Z0 S_LM E_w_LM F_w_LMs F_w_LMn S_LC E_w_LC F_w_LCs F_w_LCn S_Z E_Z F_Zs F_Zn hm hm0 hs0 hc70
theorem ef_rm0_1 (m : MethodId) (q1 : Int64) (q2 : Int64) (p3 : Int32) : entryFrame m #[(.long q1), (.long q2), (.int p3)] maxLocals = mkF m 0 #[.val (.long q1), .second, .val (.long q2), .second, .val (.int p3), .unset, .unset, .unset, .unset, .unset, .unset, .unset, .unset, .unset, .unset] [] := by first | (simp [entryFrame, mkF, argsToLocals, Value.category, maxLocals]; done) | rfl
set_option maxRecDepth 65536 in
set_option maxHeartbeats 40000000 in
theorem rm0_1_t (l : Launch) (Z : State) (a0 : Array Value) (hw : ∀ d ∈ tables_1, d.before a0 Z = true) (ws : List Jvm.Cond) (q1 : Int64) (q2 : Int64) (p3 : Int32) (mm : Int64) (w_LM : Addr) (w_LC : Addr) (w_Z : Addr) (h0 : Heap) (n0 : Nat) (Z0 : n0 ≤ h0.size) (S_LM : Sta Z h0 "com/example/strict_lock/strictlock/Watcher" "LAST_MILLISECOND" "Ljava/time/Duration;" (.ref w_LM)) (E_w_LM : Exa Z h0 w_LM "java/time/Duration") (F_w_LMs : Fld Z h0 w_LM "java/time/Duration" "seconds" "J" (.long (0 : Int64))) (F_w_LMn : Fld Z h0 w_LM "java/time/Duration" "nanos" "I" (.int (1000000 : Int32))) (S_LC : Sta Z h0 "com/example/strict_lock/strictlock/Deadline" "LONGEST_COUNTABLE" "Ljava/time/Duration;" (.ref w_LC)) (E_w_LC : Exa Z h0 w_LC "java/time/Duration") (F_w_LCs : Fld Z h0 w_LC "java/time/Duration" "seconds" "J" (.long (9223372036 : Int64))) (F_w_LCn : Fld Z h0 w_LC "java/time/Duration" "nanos" "I" (.int (854775807 : Int32))) (S_Z : Sta Z h0 "java/time/Duration" "ZERO" "Ljava/time/Duration;" (.ref w_Z)) (E_Z : Exa Z h0 w_Z "java/time/Duration") (F_Zs : Fld Z h0 w_Z "java/time/Duration" "seconds" "J" (.long (0 : Int64))) (F_Zn : Fld Z h0 w_Z "java/time/Duration" "nanos" "I" (.int (0 : Int32))) (hm : ¬ mm < (0 : Int64)) (hm1 : (q2 &&& (17592186044415 : Int64)) = mm) (hs0 : ¬ (p3 &&& (3 : Int32)) = (0 : Int32)) (hs1 : (p3 &&& (3 : Int32)) = (1 : Int32)) (hc70 : ¬ ((9223372036853 : Int64) < mm)) :
    MetFree l x (head1 (Jvm.Cond.code x code maxLocals ret :: ws) room_1) (fun a U => a = #[(.long q1), (.long q2), (.int p3)] ∧ Z.Warmed39 U.vm ∧ U.heap = h0) (fun _ _ _ _ _ => True) (fun _ U o U' => ∃ v L, o = .returned v ∧ QL (.int (1 : Int32)) n0 v U'.heap L ∧ FrameEnd U o U' L room_1.cells room_1.slots) := by
  refine MetFree.of_bodySF (plainFor_of_name pnm_4) hisR ?_
  intro p e s m args below meth c s₁ Bd hml0 hP hK
  obtain ⟨rfl, hZ, hh⟩ := hP
  have hx := Bd.exec
  have hby := Bd.bytes
  have hml : c.maxLocals = 15 := hml0
  have hown : s.vm.findClass "com/example/strict_lock/strictlock/WatcherEndOfKeyPinLaw" = some m.cls := findClass_of_methodNamed Bd.named
  have hnm := (name_of_methodNamed Bd.named Bd.method).1
  have X0 : Stand p l e room_1 s m #[(.long q1), (.long q2), (.int p3)] below meth c s₁ [] 0 0 := Stand.of_body Bd
  have e0 : s₁.heap = h0 := by rw [← hh, Bd.state]; rfl
  have N0 := Fr.nil n0
  have pre0 : ∀ t, Steps p.tables e below (s₁.setTop (mkF m 0 #[.val (.long q1), .second, .val (.long q2), .second, .val (.int p3), .unset, .unset, .unset, .unset, .unset, .unset, .unset, .unset, .unset, .unset] [])) t → Steps p.tables e below (s₁.setTop (entryFrame m #[(.long q1), (.long q2), (.int p3)] maxLocals)) t := fun t k => castTop (ef_rm0_1 m q1 q2 p3) k
  obtain ⟨T1, Lc1, k1, n1, Ls1, X1, N1, hk1, hn1, st1⟩ := own_tail Z a0 hw q1 q2 p3 (p3 &&& (3 : Int32)) mm w_LM w_LC w_Z h0 n0 Z0 S_LM E_w_LM F_w_LMs F_w_LMn S_LC E_w_LC F_w_LCs F_w_LCn S_Z E_Z F_Zs F_Zn hm X0 hx hZ hby hml hown e0
  obtain ⟨fs, hr, hrun, hended, hW, hsame⟩ := X1.leave (v := some (.int (1 : Int32))) (fun h => by rw [Bd.returns] at h; cases h)
  refine ⟨_, _, pre0 _ ?_, hrun, hended, _, _, rfl, ?_, ⟨_, rfl⟩, hW, hsame.mono hk1 hn1⟩
  · show Steps p.tables e below (s₁.setTop (mkF m 0 #[.val (.long q1), .second, .val (.long q2), .second, .val (.int p3), .unset, .unset, .unset, .unset, .unset, .unset, .unset, .unset, .unset, .unset] [])) _
    refine XS.iload X0.here hx rfl (hb hby at_0) rfl ?_
    show Steps p.tables e below (s₁.setTop (mkF m 2 #[.val (.long q1), .second, .val (.long q2), .second, .val (.int p3), .unset, .unset, .unset, .unset, .unset, .unset, .unset, .unset, .unset, .unset] [(.int p3)])) _
    refine XS.iconst X0.here hx rfl (hb hby at_2) ?_
    show Steps p.tables e below (s₁.setTop (mkF m 3 #[.val (.long q1), .second, .val (.long q2), .second, .val (.int p3), .unset, .unset, .unset, .unset, .unset, .unset, .unset, .unset, .unset, .unset] [(.int (3 : Int32)), (.int p3)])) _
    refine XS.iand X0.here hx rfl (hb hby at_3) rfl ?_
    show Steps p.tables e below (s₁.setTop (mkF m 4 #[.val (.long q1), .second, .val (.long q2), .second, .val (.int p3), .unset, .unset, .unset, .unset, .unset, .unset, .unset, .unset, .unset, .unset] [(.int (p3 &&& (3 : Int32)))])) _
    refine XS.istore X0.here hx rfl (hb hby at_4) rfl (l' := #[.val (.long q1), .second, .val (.long q2), .second, .val (.int p3), .val (.int (p3 &&& (3 : Int32))), .unset, .unset, .unset, .unset, .unset, .unset, .unset, .unset, .unset]) rfl ?_
    show Steps p.tables e below (s₁.setTop (mkF m 6 #[.val (.long q1), .second, .val (.long q2), .second, .val (.int p3), .val (.int (p3 &&& (3 : Int32))), .unset, .unset, .unset, .unset, .unset, .unset, .unset, .unset, .unset] [])) _
    refine XS.iload X0.here hx rfl (hb hby at_6) rfl ?_
    show Steps p.tables e below (s₁.setTop (mkF m 8 #[.val (.long q1), .second, .val (.long q2), .second, .val (.int p3), .val (.int (p3 &&& (3 : Int32))), .unset, .unset, .unset, .unset, .unset, .unset, .unset, .unset, .unset] [(.int (p3 &&& (3 : Int32)))])) _
    refine XS.ifYes X0.here hx rfl (pc0 := 8) (pc' := 21) rfl (hb hby at_8) rfl ((if0 _ _).trans (feq (hs0)).2) (by decide) (by decide) ?_
    show Steps p.tables e below (s₁.setTop (mkF m 21 #[.val (.long q1), .second, .val (.long q2), .second, .val (.int p3), .val (.int (p3 &&& (3 : Int32))), .unset, .unset, .unset, .unset, .unset, .unset, .unset, .unset, .unset] [])) _
    refine XS.iload X0.here hx rfl (hb hby at_21) rfl ?_
    show Steps p.tables e below (s₁.setTop (mkF m 23 #[.val (.long q1), .second, .val (.long q2), .second, .val (.int p3), .val (.int (p3 &&& (3 : Int32))), .unset, .unset, .unset, .unset, .unset, .unset, .unset, .unset, .unset] [(.int (p3 &&& (3 : Int32)))])) _
    refine XS.iconst X0.here hx rfl (hb hby at_23) ?_
    show Steps p.tables e below (s₁.setTop (mkF m 24 #[.val (.long q1), .second, .val (.long q2), .second, .val (.int p3), .val (.int (p3 &&& (3 : Int32))), .unset, .unset, .unset, .unset, .unset, .unset, .unset, .unset, .unset] [(.int (1 : Int32)), (.int (p3 &&& (3 : Int32)))])) _
    refine XS.icmpNo X0.here hx rfl (hb hby at_24) rfl (teq (hs1)).2 ?_
    show Steps p.tables e below (s₁.setTop (mkF m 27 #[.val (.long q1), .second, .val (.long q2), .second, .val (.int p3), .val (.int (p3 &&& (3 : Int32))), .unset, .unset, .unset, .unset, .unset, .unset, .unset, .unset, .unset] [])) _
    refine XS.lloadN X0.here hx rfl (hb hby at_27) rfl ?_
    show Steps p.tables e below (s₁.setTop (mkF m 28 #[.val (.long q1), .second, .val (.long q2), .second, .val (.int p3), .val (.int (p3 &&& (3 : Int32))), .unset, .unset, .unset, .unset, .unset, .unset, .unset, .unset, .unset] [(.long q2)])) _
    refine X0.ldc2Long hx hown (mvT hZ (hw _ (List.mem_of_getElem? (i := 116) rfl))) (g := (mkF m 28 #[.val (.long q1), .second, .val (.long q2), .second, .val (.int p3), .val (.int (p3 &&& (3 : Int32))), .unset, .unset, .unset, .unset, .unset, .unset, .unset, .unset, .unset] [(.long q2)])) rfl (hb hby at_28) _ ?_
    show Steps p.tables e below (s₁.setTop (mkF m 31 #[.val (.long q1), .second, .val (.long q2), .second, .val (.int p3), .val (.int (p3 &&& (3 : Int32))), .unset, .unset, .unset, .unset, .unset, .unset, .unset, .unset, .unset] [(.long (17592186044415 : Int64)), (.long q2)])) _
    refine XS.land X0.here hx rfl (hb hby at_31) rfl ?_
    show Steps p.tables e below (s₁.setTop (mkF m 32 #[.val (.long q1), .second, .val (.long q2), .second, .val (.int p3), .val (.int (p3 &&& (3 : Int32))), .unset, .unset, .unset, .unset, .unset, .unset, .unset, .unset, .unset] [(.long (q2 &&& (17592186044415 : Int64)))])) _
    refine XS.lstore X0.here hx rfl (hb hby at_32) rfl (l' := #[.val (.long q1), .second, .val (.long q2), .second, .val (.int p3), .val (.int (p3 &&& (3 : Int32))), .val (.long (q2 &&& (17592186044415 : Int64))), .second, .unset, .unset, .unset, .unset, .unset, .unset, .unset]) rfl ?_
    show Steps p.tables e below (s₁.setTop (mkF m 34 #[.val (.long q1), .second, .val (.long q2), .second, .val (.int p3), .val (.int (p3 &&& (3 : Int32))), .val (.long (q2 &&& (17592186044415 : Int64))), .second, .unset, .unset, .unset, .unset, .unset, .unset, .unset] [])) _
    refine XS.goto X0.here hx rfl (pc0 := 34) (pc' := 64) rfl (hb hby at_34) (by decide) (by decide) ?_
    show Steps p.tables e below (s₁.setTop (mkF m 64 #[.val (.long q1), .second, .val (.long q2), .second, .val (.int p3), .val (.int (p3 &&& (3 : Int32))), .val (.long (q2 &&& (17592186044415 : Int64))), .second, .unset, .unset, .unset, .unset, .unset, .unset, .unset] [])) _
    rw [hm1]
    show Steps p.tables e below (s₁.setTop (mkF m 64 #[.val (.long q1), .second, .val (.long q2), .second, .val (.int p3), .val (.int (p3 &&& (3 : Int32))), .val (.long mm), .second, .unset, .unset, .unset, .unset, .unset, .unset, .unset] [])) _
    refine XS.lload X0.here hx rfl (hb hby at_64) rfl ?_
    show Steps p.tables e below (s₁.setTop (mkF m 66 #[.val (.long q1), .second, .val (.long q2), .second, .val (.int p3), .val (.int (p3 &&& (3 : Int32))), .val (.long mm), .second, .unset, .unset, .unset, .unset, .unset, .unset, .unset] [(.long mm)])) _
    refine X0.ldc2Long hx hown (mvT hZ (hw _ (List.mem_of_getElem? (i := 1) rfl))) (g := (mkF m 66 #[.val (.long q1), .second, .val (.long q2), .second, .val (.int p3), .val (.int (p3 &&& (3 : Int32))), .val (.long mm), .second, .unset, .unset, .unset, .unset, .unset, .unset, .unset] [(.long mm)])) rfl (hb hby at_66) _ ?_
    show Steps p.tables e below (s₁.setTop (mkF m 69 #[.val (.long q1), .second, .val (.long q2), .second, .val (.int p3), .val (.int (p3 &&& (3 : Int32))), .val (.long mm), .second, .unset, .unset, .unset, .unset, .unset, .unset, .unset] [(.long (9223372036853 : Int64)), (.long mm)])) _
    refine XS.lcmp X0.here hx rfl (hb hby at_69) rfl ?_
    show Steps p.tables e below (s₁.setTop (mkF m 70 #[.val (.long q1), .second, .val (.long q2), .second, .val (.int p3), .val (.int (p3 &&& (3 : Int32))), .val (.long mm), .second, .unset, .unset, .unset, .unset, .unset, .unset, .unset] [(.int (lcmpW mm (9223372036853 : Int64)))])) _
    refine XS.ifYes X0.here hx rfl (pc0 := 70) (pc' := 79) rfl (hb hby at_70) rfl ((if0 _ _).trans (flt (fun q => hc70 ((lw_gt mm (9223372036853 : Int64)).mp q))).2.2.2) (by decide) (by decide) ?_
    show Steps p.tables e below (s₁.setTop (mkF m 79 #[.val (.long q1), .second, .val (.long q2), .second, .val (.int p3), .val (.int (p3 &&& (3 : Int32))), .val (.long mm), .second, .unset, .unset, .unset, .unset, .unset, .unset, .unset] [])) _
    refine XS.lload X0.here hx rfl (hb hby at_79) rfl ?_
    show Steps p.tables e below (s₁.setTop (mkF m 81 #[.val (.long q1), .second, .val (.long q2), .second, .val (.int p3), .val (.int (p3 &&& (3 : Int32))), .val (.long mm), .second, .unset, .unset, .unset, .unset, .unset, .unset, .unset] [(.long mm)])) _
    refine XS.lconst X0.here hx rfl (hb hby at_81) ?_
    show Steps p.tables e below (s₁.setTop (mkF m 82 #[.val (.long q1), .second, .val (.long q2), .second, .val (.int p3), .val (.int (p3 &&& (3 : Int32))), .val (.long mm), .second, .unset, .unset, .unset, .unset, .unset, .unset, .unset] [(.long (1 : Int64)), (.long mm)])) _
    refine XS.ladd X0.here hx rfl (hb hby at_82) rfl ?_
    show Steps p.tables e below (s₁.setTop (mkF m 83 #[.val (.long q1), .second, .val (.long q2), .second, .val (.int p3), .val (.int (p3 &&& (3 : Int32))), .val (.long mm), .second, .unset, .unset, .unset, .unset, .unset, .unset, .unset] [(.long (mm + (1 : Int64)))])) _
    refine X0.ldc2Long hx hown (mvT hZ (hw _ (List.mem_of_getElem? (i := 2) rfl))) (g := (mkF m 83 #[.val (.long q1), .second, .val (.long q2), .second, .val (.int p3), .val (.int (p3 &&& (3 : Int32))), .val (.long mm), .second, .unset, .unset, .unset, .unset, .unset, .unset, .unset] [(.long (mm + (1 : Int64)))])) rfl (hb hby at_83) _ ?_
    show Steps p.tables e below (s₁.setTop (mkF m 86 #[.val (.long q1), .second, .val (.long q2), .second, .val (.int p3), .val (.int (p3 &&& (3 : Int32))), .val (.long mm), .second, .unset, .unset, .unset, .unset, .unset, .unset, .unset] [(.long (1000000 : Int64)), (.long (mm + (1 : Int64)))])) _
    refine XS.lmul X0.here hx rfl (hb hby at_86) rfl ?_
    show Steps p.tables e below (s₁.setTop (mkF m 87 #[.val (.long q1), .second, .val (.long q2), .second, .val (.int p3), .val (.int (p3 &&& (3 : Int32))), .val (.long mm), .second, .unset, .unset, .unset, .unset, .unset, .unset, .unset] [(.long ((mm + (1 : Int64)) * (1000000 : Int64)))])) _
    rw [show ((mm + (1 : Int64)) * (1000000 : Int64)) = own_span mm from (own_span_f mm hc70)]
    refine st1 _ ?_
    show Steps p.tables e below (T1.setTop (mkF m 152 Ls1 [(.int (1 : Int32))])) _
    exact retN X1 hx (t := .boolean) Bd.returns (by simp) (hb hby at_152) hr
  · show QL (.int (1 : Int32)) n0 _ T1.heap _
    exact ⟨rfl, N1, trivial⟩
set_option maxRecDepth 65536 in
set_option maxHeartbeats 40000000 in
theorem rm0_1_f (l : Launch) (Z : State) (a0 : Array Value) (hw : ∀ d ∈ tables_1, d.before a0 Z = true) (ws : List Jvm.Cond) (q1 : Int64) (q2 : Int64) (p3 : Int32) (mm : Int64) (w_LM : Addr) (w_LC : Addr) (w_Z : Addr) (h0 : Heap) (n0 : Nat) (Z0 : n0 ≤ h0.size) (S_LM : Sta Z h0 "com/example/strict_lock/strictlock/Watcher" "LAST_MILLISECOND" "Ljava/time/Duration;" (.ref w_LM)) (E_w_LM : Exa Z h0 w_LM "java/time/Duration") (F_w_LMs : Fld Z h0 w_LM "java/time/Duration" "seconds" "J" (.long (0 : Int64))) (F_w_LMn : Fld Z h0 w_LM "java/time/Duration" "nanos" "I" (.int (1000000 : Int32))) (S_LC : Sta Z h0 "com/example/strict_lock/strictlock/Deadline" "LONGEST_COUNTABLE" "Ljava/time/Duration;" (.ref w_LC)) (E_w_LC : Exa Z h0 w_LC "java/time/Duration") (F_w_LCs : Fld Z h0 w_LC "java/time/Duration" "seconds" "J" (.long (9223372036 : Int64))) (F_w_LCn : Fld Z h0 w_LC "java/time/Duration" "nanos" "I" (.int (854775807 : Int32))) (S_Z : Sta Z h0 "java/time/Duration" "ZERO" "Ljava/time/Duration;" (.ref w_Z)) (E_Z : Exa Z h0 w_Z "java/time/Duration") (F_Zs : Fld Z h0 w_Z "java/time/Duration" "seconds" "J" (.long (0 : Int64))) (F_Zn : Fld Z h0 w_Z "java/time/Duration" "nanos" "I" (.int (0 : Int32))) (hm : ¬ mm < (0 : Int64)) (hm1 : (q2 &&& (17592186044415 : Int64)) = mm) (hs0 : ¬ (p3 &&& (3 : Int32)) = (0 : Int32)) (hs1 : (p3 &&& (3 : Int32)) = (1 : Int32)) (hc70 : (9223372036853 : Int64) < mm) :
    MetFree l x (head1 (Jvm.Cond.code x code maxLocals ret :: ws) room_1) (fun a U => a = #[(.long q1), (.long q2), (.int p3)] ∧ Z.Warmed39 U.vm ∧ U.heap = h0) (fun _ _ _ _ _ => True) (fun _ U o U' => ∃ v L, o = .returned v ∧ QL (.int (1 : Int32)) n0 v U'.heap L ∧ FrameEnd U o U' L room_1.cells room_1.slots) := by
  refine MetFree.of_bodySF (plainFor_of_name pnm_4) hisR ?_
  intro p e s m args below meth c s₁ Bd hml0 hP hK
  obtain ⟨rfl, hZ, hh⟩ := hP
  have hx := Bd.exec
  have hby := Bd.bytes
  have hml : c.maxLocals = 15 := hml0
  have hown : s.vm.findClass "com/example/strict_lock/strictlock/WatcherEndOfKeyPinLaw" = some m.cls := findClass_of_methodNamed Bd.named
  have hnm := (name_of_methodNamed Bd.named Bd.method).1
  have X0 : Stand p l e room_1 s m #[(.long q1), (.long q2), (.int p3)] below meth c s₁ [] 0 0 := Stand.of_body Bd
  have e0 : s₁.heap = h0 := by rw [← hh, Bd.state]; rfl
  have N0 := Fr.nil n0
  have pre0 : ∀ t, Steps p.tables e below (s₁.setTop (mkF m 0 #[.val (.long q1), .second, .val (.long q2), .second, .val (.int p3), .unset, .unset, .unset, .unset, .unset, .unset, .unset, .unset, .unset, .unset] [])) t → Steps p.tables e below (s₁.setTop (entryFrame m #[(.long q1), (.long q2), (.int p3)] maxLocals)) t := fun t k => castTop (ef_rm0_1 m q1 q2 p3) k
  obtain ⟨T1, Lc1, k1, n1, Ls1, X1, N1, hk1, hn1, st1⟩ := own_tail Z a0 hw q1 q2 p3 (p3 &&& (3 : Int32)) mm w_LM w_LC w_Z h0 n0 Z0 S_LM E_w_LM F_w_LMs F_w_LMn S_LC E_w_LC F_w_LCs F_w_LCn S_Z E_Z F_Zs F_Zn hm X0 hx hZ hby hml hown e0
  obtain ⟨fs, hr, hrun, hended, hW, hsame⟩ := X1.leave (v := some (.int (1 : Int32))) (fun h => by rw [Bd.returns] at h; cases h)
  refine ⟨_, _, pre0 _ ?_, hrun, hended, _, _, rfl, ?_, ⟨_, rfl⟩, hW, hsame.mono hk1 hn1⟩
  · show Steps p.tables e below (s₁.setTop (mkF m 0 #[.val (.long q1), .second, .val (.long q2), .second, .val (.int p3), .unset, .unset, .unset, .unset, .unset, .unset, .unset, .unset, .unset, .unset] [])) _
    refine XS.iload X0.here hx rfl (hb hby at_0) rfl ?_
    show Steps p.tables e below (s₁.setTop (mkF m 2 #[.val (.long q1), .second, .val (.long q2), .second, .val (.int p3), .unset, .unset, .unset, .unset, .unset, .unset, .unset, .unset, .unset, .unset] [(.int p3)])) _
    refine XS.iconst X0.here hx rfl (hb hby at_2) ?_
    show Steps p.tables e below (s₁.setTop (mkF m 3 #[.val (.long q1), .second, .val (.long q2), .second, .val (.int p3), .unset, .unset, .unset, .unset, .unset, .unset, .unset, .unset, .unset, .unset] [(.int (3 : Int32)), (.int p3)])) _
    refine XS.iand X0.here hx rfl (hb hby at_3) rfl ?_
    show Steps p.tables e below (s₁.setTop (mkF m 4 #[.val (.long q1), .second, .val (.long q2), .second, .val (.int p3), .unset, .unset, .unset, .unset, .unset, .unset, .unset, .unset, .unset, .unset] [(.int (p3 &&& (3 : Int32)))])) _
    refine XS.istore X0.here hx rfl (hb hby at_4) rfl (l' := #[.val (.long q1), .second, .val (.long q2), .second, .val (.int p3), .val (.int (p3 &&& (3 : Int32))), .unset, .unset, .unset, .unset, .unset, .unset, .unset, .unset, .unset]) rfl ?_
    show Steps p.tables e below (s₁.setTop (mkF m 6 #[.val (.long q1), .second, .val (.long q2), .second, .val (.int p3), .val (.int (p3 &&& (3 : Int32))), .unset, .unset, .unset, .unset, .unset, .unset, .unset, .unset, .unset] [])) _
    refine XS.iload X0.here hx rfl (hb hby at_6) rfl ?_
    show Steps p.tables e below (s₁.setTop (mkF m 8 #[.val (.long q1), .second, .val (.long q2), .second, .val (.int p3), .val (.int (p3 &&& (3 : Int32))), .unset, .unset, .unset, .unset, .unset, .unset, .unset, .unset, .unset] [(.int (p3 &&& (3 : Int32)))])) _
    refine XS.ifYes X0.here hx rfl (pc0 := 8) (pc' := 21) rfl (hb hby at_8) rfl ((if0 _ _).trans (feq (hs0)).2) (by decide) (by decide) ?_
    show Steps p.tables e below (s₁.setTop (mkF m 21 #[.val (.long q1), .second, .val (.long q2), .second, .val (.int p3), .val (.int (p3 &&& (3 : Int32))), .unset, .unset, .unset, .unset, .unset, .unset, .unset, .unset, .unset] [])) _
    refine XS.iload X0.here hx rfl (hb hby at_21) rfl ?_
    show Steps p.tables e below (s₁.setTop (mkF m 23 #[.val (.long q1), .second, .val (.long q2), .second, .val (.int p3), .val (.int (p3 &&& (3 : Int32))), .unset, .unset, .unset, .unset, .unset, .unset, .unset, .unset, .unset] [(.int (p3 &&& (3 : Int32)))])) _
    refine XS.iconst X0.here hx rfl (hb hby at_23) ?_
    show Steps p.tables e below (s₁.setTop (mkF m 24 #[.val (.long q1), .second, .val (.long q2), .second, .val (.int p3), .val (.int (p3 &&& (3 : Int32))), .unset, .unset, .unset, .unset, .unset, .unset, .unset, .unset, .unset] [(.int (1 : Int32)), (.int (p3 &&& (3 : Int32)))])) _
    refine XS.icmpNo X0.here hx rfl (hb hby at_24) rfl (teq (hs1)).2 ?_
    show Steps p.tables e below (s₁.setTop (mkF m 27 #[.val (.long q1), .second, .val (.long q2), .second, .val (.int p3), .val (.int (p3 &&& (3 : Int32))), .unset, .unset, .unset, .unset, .unset, .unset, .unset, .unset, .unset] [])) _
    refine XS.lloadN X0.here hx rfl (hb hby at_27) rfl ?_
    show Steps p.tables e below (s₁.setTop (mkF m 28 #[.val (.long q1), .second, .val (.long q2), .second, .val (.int p3), .val (.int (p3 &&& (3 : Int32))), .unset, .unset, .unset, .unset, .unset, .unset, .unset, .unset, .unset] [(.long q2)])) _
    refine X0.ldc2Long hx hown (mvT hZ (hw _ (List.mem_of_getElem? (i := 116) rfl))) (g := (mkF m 28 #[.val (.long q1), .second, .val (.long q2), .second, .val (.int p3), .val (.int (p3 &&& (3 : Int32))), .unset, .unset, .unset, .unset, .unset, .unset, .unset, .unset, .unset] [(.long q2)])) rfl (hb hby at_28) _ ?_
    show Steps p.tables e below (s₁.setTop (mkF m 31 #[.val (.long q1), .second, .val (.long q2), .second, .val (.int p3), .val (.int (p3 &&& (3 : Int32))), .unset, .unset, .unset, .unset, .unset, .unset, .unset, .unset, .unset] [(.long (17592186044415 : Int64)), (.long q2)])) _
    refine XS.land X0.here hx rfl (hb hby at_31) rfl ?_
    show Steps p.tables e below (s₁.setTop (mkF m 32 #[.val (.long q1), .second, .val (.long q2), .second, .val (.int p3), .val (.int (p3 &&& (3 : Int32))), .unset, .unset, .unset, .unset, .unset, .unset, .unset, .unset, .unset] [(.long (q2 &&& (17592186044415 : Int64)))])) _
    refine XS.lstore X0.here hx rfl (hb hby at_32) rfl (l' := #[.val (.long q1), .second, .val (.long q2), .second, .val (.int p3), .val (.int (p3 &&& (3 : Int32))), .val (.long (q2 &&& (17592186044415 : Int64))), .second, .unset, .unset, .unset, .unset, .unset, .unset, .unset]) rfl ?_
    show Steps p.tables e below (s₁.setTop (mkF m 34 #[.val (.long q1), .second, .val (.long q2), .second, .val (.int p3), .val (.int (p3 &&& (3 : Int32))), .val (.long (q2 &&& (17592186044415 : Int64))), .second, .unset, .unset, .unset, .unset, .unset, .unset, .unset] [])) _
    refine XS.goto X0.here hx rfl (pc0 := 34) (pc' := 64) rfl (hb hby at_34) (by decide) (by decide) ?_
    show Steps p.tables e below (s₁.setTop (mkF m 64 #[.val (.long q1), .second, .val (.long q2), .second, .val (.int p3), .val (.int (p3 &&& (3 : Int32))), .val (.long (q2 &&& (17592186044415 : Int64))), .second, .unset, .unset, .unset, .unset, .unset, .unset, .unset] [])) _
    rw [hm1]
    show Steps p.tables e below (s₁.setTop (mkF m 64 #[.val (.long q1), .second, .val (.long q2), .second, .val (.int p3), .val (.int (p3 &&& (3 : Int32))), .val (.long mm), .second, .unset, .unset, .unset, .unset, .unset, .unset, .unset] [])) _
    refine XS.lload X0.here hx rfl (hb hby at_64) rfl ?_
    show Steps p.tables e below (s₁.setTop (mkF m 66 #[.val (.long q1), .second, .val (.long q2), .second, .val (.int p3), .val (.int (p3 &&& (3 : Int32))), .val (.long mm), .second, .unset, .unset, .unset, .unset, .unset, .unset, .unset] [(.long mm)])) _
    refine X0.ldc2Long hx hown (mvT hZ (hw _ (List.mem_of_getElem? (i := 1) rfl))) (g := (mkF m 66 #[.val (.long q1), .second, .val (.long q2), .second, .val (.int p3), .val (.int (p3 &&& (3 : Int32))), .val (.long mm), .second, .unset, .unset, .unset, .unset, .unset, .unset, .unset] [(.long mm)])) rfl (hb hby at_66) _ ?_
    show Steps p.tables e below (s₁.setTop (mkF m 69 #[.val (.long q1), .second, .val (.long q2), .second, .val (.int p3), .val (.int (p3 &&& (3 : Int32))), .val (.long mm), .second, .unset, .unset, .unset, .unset, .unset, .unset, .unset] [(.long (9223372036853 : Int64)), (.long mm)])) _
    refine XS.lcmp X0.here hx rfl (hb hby at_69) rfl ?_
    show Steps p.tables e below (s₁.setTop (mkF m 70 #[.val (.long q1), .second, .val (.long q2), .second, .val (.int p3), .val (.int (p3 &&& (3 : Int32))), .val (.long mm), .second, .unset, .unset, .unset, .unset, .unset, .unset, .unset] [(.int (lcmpW mm (9223372036853 : Int64)))])) _
    refine XS.ifNo X0.here hx rfl (hb hby at_70) rfl ((if0 _ _).trans (tlt ((lw_gt mm (9223372036853 : Int64)).mpr hc70)).2.2.2) ?_
    show Steps p.tables e below (s₁.setTop (mkF m 73 #[.val (.long q1), .second, .val (.long q2), .second, .val (.int p3), .val (.int (p3 &&& (3 : Int32))), .val (.long mm), .second, .unset, .unset, .unset, .unset, .unset, .unset, .unset] [])) _
    refine X0.ldc2Long hx hown (mvT hZ (hw _ (List.mem_of_getElem? (i := 0) rfl))) (g := (mkF m 73 #[.val (.long q1), .second, .val (.long q2), .second, .val (.int p3), .val (.int (p3 &&& (3 : Int32))), .val (.long mm), .second, .unset, .unset, .unset, .unset, .unset, .unset, .unset] [])) rfl (hb hby at_73) _ ?_
    show Steps p.tables e below (s₁.setTop (mkF m 76 #[.val (.long q1), .second, .val (.long q2), .second, .val (.int p3), .val (.int (p3 &&& (3 : Int32))), .val (.long mm), .second, .unset, .unset, .unset, .unset, .unset, .unset, .unset] [(.long (9223372036854775807 : Int64))])) _
    refine XS.goto X0.here hx rfl (pc0 := 76) (pc' := 87) rfl (hb hby at_76) (by decide) (by decide) ?_
    show Steps p.tables e below (s₁.setTop (mkF m 87 #[.val (.long q1), .second, .val (.long q2), .second, .val (.int p3), .val (.int (p3 &&& (3 : Int32))), .val (.long mm), .second, .unset, .unset, .unset, .unset, .unset, .unset, .unset] [(.long (9223372036854775807 : Int64))])) _
    rw [show (9223372036854775807 : Int64) = own_span mm from (own_span_t mm hc70)]
    refine st1 _ ?_
    show Steps p.tables e below (T1.setTop (mkF m 152 Ls1 [(.int (1 : Int32))])) _
    exact retN X1 hx (t := .boolean) Bd.returns (by simp) (hb hby at_152) hr
  · show QL (.int (1 : Int32)) n0 _ T1.heap _
    exact ⟨rfl, N1, trivial⟩
set_option maxRecDepth 65536 in
set_option maxHeartbeats 40000000 in
theorem rm0_1 (l : Launch) (Z : State) (a0 : Array Value) (hw : ∀ d ∈ tables_1, d.before a0 Z = true) (ws : List Jvm.Cond) (q1 : Int64) (q2 : Int64) (p3 : Int32) (mm : Int64) (w_LM : Addr) (w_LC : Addr) (w_Z : Addr) (h0 : Heap) (n0 : Nat) (Z0 : n0 ≤ h0.size) (S_LM : Sta Z h0 "com/example/strict_lock/strictlock/Watcher" "LAST_MILLISECOND" "Ljava/time/Duration;" (.ref w_LM)) (E_w_LM : Exa Z h0 w_LM "java/time/Duration") (F_w_LMs : Fld Z h0 w_LM "java/time/Duration" "seconds" "J" (.long (0 : Int64))) (F_w_LMn : Fld Z h0 w_LM "java/time/Duration" "nanos" "I" (.int (1000000 : Int32))) (S_LC : Sta Z h0 "com/example/strict_lock/strictlock/Deadline" "LONGEST_COUNTABLE" "Ljava/time/Duration;" (.ref w_LC)) (E_w_LC : Exa Z h0 w_LC "java/time/Duration") (F_w_LCs : Fld Z h0 w_LC "java/time/Duration" "seconds" "J" (.long (9223372036 : Int64))) (F_w_LCn : Fld Z h0 w_LC "java/time/Duration" "nanos" "I" (.int (854775807 : Int32))) (S_Z : Sta Z h0 "java/time/Duration" "ZERO" "Ljava/time/Duration;" (.ref w_Z)) (E_Z : Exa Z h0 w_Z "java/time/Duration") (F_Zs : Fld Z h0 w_Z "java/time/Duration" "seconds" "J" (.long (0 : Int64))) (F_Zn : Fld Z h0 w_Z "java/time/Duration" "nanos" "I" (.int (0 : Int32))) (hm : ¬ mm < (0 : Int64)) (hm1 : (q2 &&& (17592186044415 : Int64)) = mm) (hs0 : ¬ (p3 &&& (3 : Int32)) = (0 : Int32)) (hs1 : (p3 &&& (3 : Int32)) = (1 : Int32)) :
    MetFree l x (head1 (Jvm.Cond.code x code maxLocals ret :: ws) room_1) (fun a U => a = #[(.long q1), (.long q2), (.int p3)] ∧ Z.Warmed39 U.vm ∧ U.heap = h0) (fun _ _ _ _ _ => True) (fun _ U o U' => ∃ v L, o = .returned v ∧ QL (.int (1 : Int32)) n0 v U'.heap L ∧ FrameEnd U o U' L room_1.cells room_1.slots) := by
  by_cases hc70 : (9223372036853 : Int64) < mm
  · exact rm0_1_f l Z a0 hw ws q1 q2 p3 mm w_LM w_LC w_Z h0 n0 Z0 S_LM E_w_LM F_w_LMs F_w_LMn S_LC E_w_LC F_w_LCs F_w_LCn S_Z E_Z F_Zs F_Zn hm hm1 hs0 hs1 hc70
  · exact rm0_1_t l Z a0 hw ws q1 q2 p3 mm w_LM w_LC w_Z h0 n0 Z0 S_LM E_w_LM F_w_LMs F_w_LMn S_LC E_w_LC F_w_LCs F_w_LCn S_Z E_Z F_Zs F_Zn hm hm1 hs0 hs1 hc70
theorem ef_rm0_2 (m : MethodId) (q1 : Int64) (q2 : Int64) (p3 : Int32) : entryFrame m #[(.long q1), (.long q2), (.int p3)] maxLocals = mkF m 0 #[.val (.long q1), .second, .val (.long q2), .second, .val (.int p3), .unset, .unset, .unset, .unset, .unset, .unset, .unset, .unset, .unset, .unset] [] := by first | (simp [entryFrame, mkF, argsToLocals, Value.category, maxLocals]; done) | rfl
set_option maxRecDepth 65536 in
set_option maxHeartbeats 40000000 in
theorem rm0_2_t (l : Launch) (Z : State) (a0 : Array Value) (hw : ∀ d ∈ tables_1, d.before a0 Z = true) (ws : List Jvm.Cond) (q1 : Int64) (q2 : Int64) (p3 : Int32) (mm : Int64) (w_LM : Addr) (w_LC : Addr) (w_Z : Addr) (h0 : Heap) (n0 : Nat) (Z0 : n0 ≤ h0.size) (S_LM : Sta Z h0 "com/example/strict_lock/strictlock/Watcher" "LAST_MILLISECOND" "Ljava/time/Duration;" (.ref w_LM)) (E_w_LM : Exa Z h0 w_LM "java/time/Duration") (F_w_LMs : Fld Z h0 w_LM "java/time/Duration" "seconds" "J" (.long (0 : Int64))) (F_w_LMn : Fld Z h0 w_LM "java/time/Duration" "nanos" "I" (.int (1000000 : Int32))) (S_LC : Sta Z h0 "com/example/strict_lock/strictlock/Deadline" "LONGEST_COUNTABLE" "Ljava/time/Duration;" (.ref w_LC)) (E_w_LC : Exa Z h0 w_LC "java/time/Duration") (F_w_LCs : Fld Z h0 w_LC "java/time/Duration" "seconds" "J" (.long (9223372036 : Int64))) (F_w_LCn : Fld Z h0 w_LC "java/time/Duration" "nanos" "I" (.int (854775807 : Int32))) (S_Z : Sta Z h0 "java/time/Duration" "ZERO" "Ljava/time/Duration;" (.ref w_Z)) (E_Z : Exa Z h0 w_Z "java/time/Duration") (F_Zs : Fld Z h0 w_Z "java/time/Duration" "seconds" "J" (.long (0 : Int64))) (F_Zn : Fld Z h0 w_Z "java/time/Duration" "nanos" "I" (.int (0 : Int32))) (hm : ¬ mm < (0 : Int64)) (hm2 : (q2 &&& (16777215 : Int64)) = mm) (hs0 : ¬ (p3 &&& (3 : Int32)) = (0 : Int32)) (hs1 : ¬ (p3 &&& (3 : Int32)) = (1 : Int32)) (hs2 : (p3 &&& (3 : Int32)) = (2 : Int32)) (hc70 : ¬ ((9223372036853 : Int64) < mm)) :
    MetFree l x (head1 (Jvm.Cond.code x code maxLocals ret :: ws) room_1) (fun a U => a = #[(.long q1), (.long q2), (.int p3)] ∧ Z.Warmed39 U.vm ∧ U.heap = h0) (fun _ _ _ _ _ => True) (fun _ U o U' => ∃ v L, o = .returned v ∧ QL (.int (1 : Int32)) n0 v U'.heap L ∧ FrameEnd U o U' L room_1.cells room_1.slots) := by
  refine MetFree.of_bodySF (plainFor_of_name pnm_4) hisR ?_
  intro p e s m args below meth c s₁ Bd hml0 hP hK
  obtain ⟨rfl, hZ, hh⟩ := hP
  have hx := Bd.exec
  have hby := Bd.bytes
  have hml : c.maxLocals = 15 := hml0
  have hown : s.vm.findClass "com/example/strict_lock/strictlock/WatcherEndOfKeyPinLaw" = some m.cls := findClass_of_methodNamed Bd.named
  have hnm := (name_of_methodNamed Bd.named Bd.method).1
  have X0 : Stand p l e room_1 s m #[(.long q1), (.long q2), (.int p3)] below meth c s₁ [] 0 0 := Stand.of_body Bd
  have e0 : s₁.heap = h0 := by rw [← hh, Bd.state]; rfl
  have N0 := Fr.nil n0
  have pre0 : ∀ t, Steps p.tables e below (s₁.setTop (mkF m 0 #[.val (.long q1), .second, .val (.long q2), .second, .val (.int p3), .unset, .unset, .unset, .unset, .unset, .unset, .unset, .unset, .unset, .unset] [])) t → Steps p.tables e below (s₁.setTop (entryFrame m #[(.long q1), (.long q2), (.int p3)] maxLocals)) t := fun t k => castTop (ef_rm0_2 m q1 q2 p3) k
  obtain ⟨T1, Lc1, k1, n1, Ls1, X1, N1, hk1, hn1, st1⟩ := own_tail Z a0 hw q1 q2 p3 (p3 &&& (3 : Int32)) mm w_LM w_LC w_Z h0 n0 Z0 S_LM E_w_LM F_w_LMs F_w_LMn S_LC E_w_LC F_w_LCs F_w_LCn S_Z E_Z F_Zs F_Zn hm X0 hx hZ hby hml hown e0
  obtain ⟨fs, hr, hrun, hended, hW, hsame⟩ := X1.leave (v := some (.int (1 : Int32))) (fun h => by rw [Bd.returns] at h; cases h)
  refine ⟨_, _, pre0 _ ?_, hrun, hended, _, _, rfl, ?_, ⟨_, rfl⟩, hW, hsame.mono hk1 hn1⟩
  · show Steps p.tables e below (s₁.setTop (mkF m 0 #[.val (.long q1), .second, .val (.long q2), .second, .val (.int p3), .unset, .unset, .unset, .unset, .unset, .unset, .unset, .unset, .unset, .unset] [])) _
    refine XS.iload X0.here hx rfl (hb hby at_0) rfl ?_
    show Steps p.tables e below (s₁.setTop (mkF m 2 #[.val (.long q1), .second, .val (.long q2), .second, .val (.int p3), .unset, .unset, .unset, .unset, .unset, .unset, .unset, .unset, .unset, .unset] [(.int p3)])) _
    refine XS.iconst X0.here hx rfl (hb hby at_2) ?_
    show Steps p.tables e below (s₁.setTop (mkF m 3 #[.val (.long q1), .second, .val (.long q2), .second, .val (.int p3), .unset, .unset, .unset, .unset, .unset, .unset, .unset, .unset, .unset, .unset] [(.int (3 : Int32)), (.int p3)])) _
    refine XS.iand X0.here hx rfl (hb hby at_3) rfl ?_
    show Steps p.tables e below (s₁.setTop (mkF m 4 #[.val (.long q1), .second, .val (.long q2), .second, .val (.int p3), .unset, .unset, .unset, .unset, .unset, .unset, .unset, .unset, .unset, .unset] [(.int (p3 &&& (3 : Int32)))])) _
    refine XS.istore X0.here hx rfl (hb hby at_4) rfl (l' := #[.val (.long q1), .second, .val (.long q2), .second, .val (.int p3), .val (.int (p3 &&& (3 : Int32))), .unset, .unset, .unset, .unset, .unset, .unset, .unset, .unset, .unset]) rfl ?_
    show Steps p.tables e below (s₁.setTop (mkF m 6 #[.val (.long q1), .second, .val (.long q2), .second, .val (.int p3), .val (.int (p3 &&& (3 : Int32))), .unset, .unset, .unset, .unset, .unset, .unset, .unset, .unset, .unset] [])) _
    refine XS.iload X0.here hx rfl (hb hby at_6) rfl ?_
    show Steps p.tables e below (s₁.setTop (mkF m 8 #[.val (.long q1), .second, .val (.long q2), .second, .val (.int p3), .val (.int (p3 &&& (3 : Int32))), .unset, .unset, .unset, .unset, .unset, .unset, .unset, .unset, .unset] [(.int (p3 &&& (3 : Int32)))])) _
    refine XS.ifYes X0.here hx rfl (pc0 := 8) (pc' := 21) rfl (hb hby at_8) rfl ((if0 _ _).trans (feq (hs0)).2) (by decide) (by decide) ?_
    show Steps p.tables e below (s₁.setTop (mkF m 21 #[.val (.long q1), .second, .val (.long q2), .second, .val (.int p3), .val (.int (p3 &&& (3 : Int32))), .unset, .unset, .unset, .unset, .unset, .unset, .unset, .unset, .unset] [])) _
    refine XS.iload X0.here hx rfl (hb hby at_21) rfl ?_
    show Steps p.tables e below (s₁.setTop (mkF m 23 #[.val (.long q1), .second, .val (.long q2), .second, .val (.int p3), .val (.int (p3 &&& (3 : Int32))), .unset, .unset, .unset, .unset, .unset, .unset, .unset, .unset, .unset] [(.int (p3 &&& (3 : Int32)))])) _
    refine XS.iconst X0.here hx rfl (hb hby at_23) ?_
    show Steps p.tables e below (s₁.setTop (mkF m 24 #[.val (.long q1), .second, .val (.long q2), .second, .val (.int p3), .val (.int (p3 &&& (3 : Int32))), .unset, .unset, .unset, .unset, .unset, .unset, .unset, .unset, .unset] [(.int (1 : Int32)), (.int (p3 &&& (3 : Int32)))])) _
    refine XS.icmpYes X0.here hx rfl (pc0 := 24) (pc' := 37) rfl (hb hby at_24) rfl (feq (hs1)).2 (by decide) (by decide) ?_
    show Steps p.tables e below (s₁.setTop (mkF m 37 #[.val (.long q1), .second, .val (.long q2), .second, .val (.int p3), .val (.int (p3 &&& (3 : Int32))), .unset, .unset, .unset, .unset, .unset, .unset, .unset, .unset, .unset] [])) _
    refine XS.iload X0.here hx rfl (hb hby at_37) rfl ?_
    show Steps p.tables e below (s₁.setTop (mkF m 39 #[.val (.long q1), .second, .val (.long q2), .second, .val (.int p3), .val (.int (p3 &&& (3 : Int32))), .unset, .unset, .unset, .unset, .unset, .unset, .unset, .unset, .unset] [(.int (p3 &&& (3 : Int32)))])) _
    refine XS.iconst X0.here hx rfl (hb hby at_39) ?_
    show Steps p.tables e below (s₁.setTop (mkF m 40 #[.val (.long q1), .second, .val (.long q2), .second, .val (.int p3), .val (.int (p3 &&& (3 : Int32))), .unset, .unset, .unset, .unset, .unset, .unset, .unset, .unset, .unset] [(.int (2 : Int32)), (.int (p3 &&& (3 : Int32)))])) _
    refine XS.icmpNo X0.here hx rfl (hb hby at_40) rfl (teq (hs2)).2 ?_
    show Steps p.tables e below (s₁.setTop (mkF m 43 #[.val (.long q1), .second, .val (.long q2), .second, .val (.int p3), .val (.int (p3 &&& (3 : Int32))), .unset, .unset, .unset, .unset, .unset, .unset, .unset, .unset, .unset] [])) _
    refine XS.lloadN X0.here hx rfl (hb hby at_43) rfl ?_
    show Steps p.tables e below (s₁.setTop (mkF m 44 #[.val (.long q1), .second, .val (.long q2), .second, .val (.int p3), .val (.int (p3 &&& (3 : Int32))), .unset, .unset, .unset, .unset, .unset, .unset, .unset, .unset, .unset] [(.long q2)])) _
    refine X0.ldc2Long hx hown (mvT hZ (hw _ (List.mem_of_getElem? (i := 117) rfl))) (g := (mkF m 44 #[.val (.long q1), .second, .val (.long q2), .second, .val (.int p3), .val (.int (p3 &&& (3 : Int32))), .unset, .unset, .unset, .unset, .unset, .unset, .unset, .unset, .unset] [(.long q2)])) rfl (hb hby at_44) _ ?_
    show Steps p.tables e below (s₁.setTop (mkF m 47 #[.val (.long q1), .second, .val (.long q2), .second, .val (.int p3), .val (.int (p3 &&& (3 : Int32))), .unset, .unset, .unset, .unset, .unset, .unset, .unset, .unset, .unset] [(.long (16777215 : Int64)), (.long q2)])) _
    refine XS.land X0.here hx rfl (hb hby at_47) rfl ?_
    show Steps p.tables e below (s₁.setTop (mkF m 48 #[.val (.long q1), .second, .val (.long q2), .second, .val (.int p3), .val (.int (p3 &&& (3 : Int32))), .unset, .unset, .unset, .unset, .unset, .unset, .unset, .unset, .unset] [(.long (q2 &&& (16777215 : Int64)))])) _
    refine XS.lstore X0.here hx rfl (hb hby at_48) rfl (l' := #[.val (.long q1), .second, .val (.long q2), .second, .val (.int p3), .val (.int (p3 &&& (3 : Int32))), .val (.long (q2 &&& (16777215 : Int64))), .second, .unset, .unset, .unset, .unset, .unset, .unset, .unset]) rfl ?_
    show Steps p.tables e below (s₁.setTop (mkF m 50 #[.val (.long q1), .second, .val (.long q2), .second, .val (.int p3), .val (.int (p3 &&& (3 : Int32))), .val (.long (q2 &&& (16777215 : Int64))), .second, .unset, .unset, .unset, .unset, .unset, .unset, .unset] [])) _
    refine XS.goto X0.here hx rfl (pc0 := 50) (pc' := 64) rfl (hb hby at_50) (by decide) (by decide) ?_
    show Steps p.tables e below (s₁.setTop (mkF m 64 #[.val (.long q1), .second, .val (.long q2), .second, .val (.int p3), .val (.int (p3 &&& (3 : Int32))), .val (.long (q2 &&& (16777215 : Int64))), .second, .unset, .unset, .unset, .unset, .unset, .unset, .unset] [])) _
    rw [hm2]
    show Steps p.tables e below (s₁.setTop (mkF m 64 #[.val (.long q1), .second, .val (.long q2), .second, .val (.int p3), .val (.int (p3 &&& (3 : Int32))), .val (.long mm), .second, .unset, .unset, .unset, .unset, .unset, .unset, .unset] [])) _
    refine XS.lload X0.here hx rfl (hb hby at_64) rfl ?_
    show Steps p.tables e below (s₁.setTop (mkF m 66 #[.val (.long q1), .second, .val (.long q2), .second, .val (.int p3), .val (.int (p3 &&& (3 : Int32))), .val (.long mm), .second, .unset, .unset, .unset, .unset, .unset, .unset, .unset] [(.long mm)])) _
    refine X0.ldc2Long hx hown (mvT hZ (hw _ (List.mem_of_getElem? (i := 1) rfl))) (g := (mkF m 66 #[.val (.long q1), .second, .val (.long q2), .second, .val (.int p3), .val (.int (p3 &&& (3 : Int32))), .val (.long mm), .second, .unset, .unset, .unset, .unset, .unset, .unset, .unset] [(.long mm)])) rfl (hb hby at_66) _ ?_
    show Steps p.tables e below (s₁.setTop (mkF m 69 #[.val (.long q1), .second, .val (.long q2), .second, .val (.int p3), .val (.int (p3 &&& (3 : Int32))), .val (.long mm), .second, .unset, .unset, .unset, .unset, .unset, .unset, .unset] [(.long (9223372036853 : Int64)), (.long mm)])) _
    refine XS.lcmp X0.here hx rfl (hb hby at_69) rfl ?_
    show Steps p.tables e below (s₁.setTop (mkF m 70 #[.val (.long q1), .second, .val (.long q2), .second, .val (.int p3), .val (.int (p3 &&& (3 : Int32))), .val (.long mm), .second, .unset, .unset, .unset, .unset, .unset, .unset, .unset] [(.int (lcmpW mm (9223372036853 : Int64)))])) _
    refine XS.ifYes X0.here hx rfl (pc0 := 70) (pc' := 79) rfl (hb hby at_70) rfl ((if0 _ _).trans (flt (fun q => hc70 ((lw_gt mm (9223372036853 : Int64)).mp q))).2.2.2) (by decide) (by decide) ?_
    show Steps p.tables e below (s₁.setTop (mkF m 79 #[.val (.long q1), .second, .val (.long q2), .second, .val (.int p3), .val (.int (p3 &&& (3 : Int32))), .val (.long mm), .second, .unset, .unset, .unset, .unset, .unset, .unset, .unset] [])) _
    refine XS.lload X0.here hx rfl (hb hby at_79) rfl ?_
    show Steps p.tables e below (s₁.setTop (mkF m 81 #[.val (.long q1), .second, .val (.long q2), .second, .val (.int p3), .val (.int (p3 &&& (3 : Int32))), .val (.long mm), .second, .unset, .unset, .unset, .unset, .unset, .unset, .unset] [(.long mm)])) _
    refine XS.lconst X0.here hx rfl (hb hby at_81) ?_
    show Steps p.tables e below (s₁.setTop (mkF m 82 #[.val (.long q1), .second, .val (.long q2), .second, .val (.int p3), .val (.int (p3 &&& (3 : Int32))), .val (.long mm), .second, .unset, .unset, .unset, .unset, .unset, .unset, .unset] [(.long (1 : Int64)), (.long mm)])) _
    refine XS.ladd X0.here hx rfl (hb hby at_82) rfl ?_
    show Steps p.tables e below (s₁.setTop (mkF m 83 #[.val (.long q1), .second, .val (.long q2), .second, .val (.int p3), .val (.int (p3 &&& (3 : Int32))), .val (.long mm), .second, .unset, .unset, .unset, .unset, .unset, .unset, .unset] [(.long (mm + (1 : Int64)))])) _
    refine X0.ldc2Long hx hown (mvT hZ (hw _ (List.mem_of_getElem? (i := 2) rfl))) (g := (mkF m 83 #[.val (.long q1), .second, .val (.long q2), .second, .val (.int p3), .val (.int (p3 &&& (3 : Int32))), .val (.long mm), .second, .unset, .unset, .unset, .unset, .unset, .unset, .unset] [(.long (mm + (1 : Int64)))])) rfl (hb hby at_83) _ ?_
    show Steps p.tables e below (s₁.setTop (mkF m 86 #[.val (.long q1), .second, .val (.long q2), .second, .val (.int p3), .val (.int (p3 &&& (3 : Int32))), .val (.long mm), .second, .unset, .unset, .unset, .unset, .unset, .unset, .unset] [(.long (1000000 : Int64)), (.long (mm + (1 : Int64)))])) _
    refine XS.lmul X0.here hx rfl (hb hby at_86) rfl ?_
    show Steps p.tables e below (s₁.setTop (mkF m 87 #[.val (.long q1), .second, .val (.long q2), .second, .val (.int p3), .val (.int (p3 &&& (3 : Int32))), .val (.long mm), .second, .unset, .unset, .unset, .unset, .unset, .unset, .unset] [(.long ((mm + (1 : Int64)) * (1000000 : Int64)))])) _
    rw [show ((mm + (1 : Int64)) * (1000000 : Int64)) = own_span mm from (own_span_f mm hc70)]
    refine st1 _ ?_
    show Steps p.tables e below (T1.setTop (mkF m 152 Ls1 [(.int (1 : Int32))])) _
    exact retN X1 hx (t := .boolean) Bd.returns (by simp) (hb hby at_152) hr
  · show QL (.int (1 : Int32)) n0 _ T1.heap _
    exact ⟨rfl, N1, trivial⟩
set_option maxRecDepth 65536 in
set_option maxHeartbeats 40000000 in
theorem rm0_2_f (l : Launch) (Z : State) (a0 : Array Value) (hw : ∀ d ∈ tables_1, d.before a0 Z = true) (ws : List Jvm.Cond) (q1 : Int64) (q2 : Int64) (p3 : Int32) (mm : Int64) (w_LM : Addr) (w_LC : Addr) (w_Z : Addr) (h0 : Heap) (n0 : Nat) (Z0 : n0 ≤ h0.size) (S_LM : Sta Z h0 "com/example/strict_lock/strictlock/Watcher" "LAST_MILLISECOND" "Ljava/time/Duration;" (.ref w_LM)) (E_w_LM : Exa Z h0 w_LM "java/time/Duration") (F_w_LMs : Fld Z h0 w_LM "java/time/Duration" "seconds" "J" (.long (0 : Int64))) (F_w_LMn : Fld Z h0 w_LM "java/time/Duration" "nanos" "I" (.int (1000000 : Int32))) (S_LC : Sta Z h0 "com/example/strict_lock/strictlock/Deadline" "LONGEST_COUNTABLE" "Ljava/time/Duration;" (.ref w_LC)) (E_w_LC : Exa Z h0 w_LC "java/time/Duration") (F_w_LCs : Fld Z h0 w_LC "java/time/Duration" "seconds" "J" (.long (9223372036 : Int64))) (F_w_LCn : Fld Z h0 w_LC "java/time/Duration" "nanos" "I" (.int (854775807 : Int32))) (S_Z : Sta Z h0 "java/time/Duration" "ZERO" "Ljava/time/Duration;" (.ref w_Z)) (E_Z : Exa Z h0 w_Z "java/time/Duration") (F_Zs : Fld Z h0 w_Z "java/time/Duration" "seconds" "J" (.long (0 : Int64))) (F_Zn : Fld Z h0 w_Z "java/time/Duration" "nanos" "I" (.int (0 : Int32))) (hm : ¬ mm < (0 : Int64)) (hm2 : (q2 &&& (16777215 : Int64)) = mm) (hs0 : ¬ (p3 &&& (3 : Int32)) = (0 : Int32)) (hs1 : ¬ (p3 &&& (3 : Int32)) = (1 : Int32)) (hs2 : (p3 &&& (3 : Int32)) = (2 : Int32)) (hc70 : (9223372036853 : Int64) < mm) :
    MetFree l x (head1 (Jvm.Cond.code x code maxLocals ret :: ws) room_1) (fun a U => a = #[(.long q1), (.long q2), (.int p3)] ∧ Z.Warmed39 U.vm ∧ U.heap = h0) (fun _ _ _ _ _ => True) (fun _ U o U' => ∃ v L, o = .returned v ∧ QL (.int (1 : Int32)) n0 v U'.heap L ∧ FrameEnd U o U' L room_1.cells room_1.slots) := by
  refine MetFree.of_bodySF (plainFor_of_name pnm_4) hisR ?_
  intro p e s m args below meth c s₁ Bd hml0 hP hK
  obtain ⟨rfl, hZ, hh⟩ := hP
  have hx := Bd.exec
  have hby := Bd.bytes
  have hml : c.maxLocals = 15 := hml0
  have hown : s.vm.findClass "com/example/strict_lock/strictlock/WatcherEndOfKeyPinLaw" = some m.cls := findClass_of_methodNamed Bd.named
  have hnm := (name_of_methodNamed Bd.named Bd.method).1
  have X0 : Stand p l e room_1 s m #[(.long q1), (.long q2), (.int p3)] below meth c s₁ [] 0 0 := Stand.of_body Bd
  have e0 : s₁.heap = h0 := by rw [← hh, Bd.state]; rfl
  have N0 := Fr.nil n0
  have pre0 : ∀ t, Steps p.tables e below (s₁.setTop (mkF m 0 #[.val (.long q1), .second, .val (.long q2), .second, .val (.int p3), .unset, .unset, .unset, .unset, .unset, .unset, .unset, .unset, .unset, .unset] [])) t → Steps p.tables e below (s₁.setTop (entryFrame m #[(.long q1), (.long q2), (.int p3)] maxLocals)) t := fun t k => castTop (ef_rm0_2 m q1 q2 p3) k
  obtain ⟨T1, Lc1, k1, n1, Ls1, X1, N1, hk1, hn1, st1⟩ := own_tail Z a0 hw q1 q2 p3 (p3 &&& (3 : Int32)) mm w_LM w_LC w_Z h0 n0 Z0 S_LM E_w_LM F_w_LMs F_w_LMn S_LC E_w_LC F_w_LCs F_w_LCn S_Z E_Z F_Zs F_Zn hm X0 hx hZ hby hml hown e0
  obtain ⟨fs, hr, hrun, hended, hW, hsame⟩ := X1.leave (v := some (.int (1 : Int32))) (fun h => by rw [Bd.returns] at h; cases h)
  refine ⟨_, _, pre0 _ ?_, hrun, hended, _, _, rfl, ?_, ⟨_, rfl⟩, hW, hsame.mono hk1 hn1⟩
  · show Steps p.tables e below (s₁.setTop (mkF m 0 #[.val (.long q1), .second, .val (.long q2), .second, .val (.int p3), .unset, .unset, .unset, .unset, .unset, .unset, .unset, .unset, .unset, .unset] [])) _
    refine XS.iload X0.here hx rfl (hb hby at_0) rfl ?_
    show Steps p.tables e below (s₁.setTop (mkF m 2 #[.val (.long q1), .second, .val (.long q2), .second, .val (.int p3), .unset, .unset, .unset, .unset, .unset, .unset, .unset, .unset, .unset, .unset] [(.int p3)])) _
    refine XS.iconst X0.here hx rfl (hb hby at_2) ?_
    show Steps p.tables e below (s₁.setTop (mkF m 3 #[.val (.long q1), .second, .val (.long q2), .second, .val (.int p3), .unset, .unset, .unset, .unset, .unset, .unset, .unset, .unset, .unset, .unset] [(.int (3 : Int32)), (.int p3)])) _
    refine XS.iand X0.here hx rfl (hb hby at_3) rfl ?_
    show Steps p.tables e below (s₁.setTop (mkF m 4 #[.val (.long q1), .second, .val (.long q2), .second, .val (.int p3), .unset, .unset, .unset, .unset, .unset, .unset, .unset, .unset, .unset, .unset] [(.int (p3 &&& (3 : Int32)))])) _
    refine XS.istore X0.here hx rfl (hb hby at_4) rfl (l' := #[.val (.long q1), .second, .val (.long q2), .second, .val (.int p3), .val (.int (p3 &&& (3 : Int32))), .unset, .unset, .unset, .unset, .unset, .unset, .unset, .unset, .unset]) rfl ?_
    show Steps p.tables e below (s₁.setTop (mkF m 6 #[.val (.long q1), .second, .val (.long q2), .second, .val (.int p3), .val (.int (p3 &&& (3 : Int32))), .unset, .unset, .unset, .unset, .unset, .unset, .unset, .unset, .unset] [])) _
    refine XS.iload X0.here hx rfl (hb hby at_6) rfl ?_
    show Steps p.tables e below (s₁.setTop (mkF m 8 #[.val (.long q1), .second, .val (.long q2), .second, .val (.int p3), .val (.int (p3 &&& (3 : Int32))), .unset, .unset, .unset, .unset, .unset, .unset, .unset, .unset, .unset] [(.int (p3 &&& (3 : Int32)))])) _
    refine XS.ifYes X0.here hx rfl (pc0 := 8) (pc' := 21) rfl (hb hby at_8) rfl ((if0 _ _).trans (feq (hs0)).2) (by decide) (by decide) ?_
    show Steps p.tables e below (s₁.setTop (mkF m 21 #[.val (.long q1), .second, .val (.long q2), .second, .val (.int p3), .val (.int (p3 &&& (3 : Int32))), .unset, .unset, .unset, .unset, .unset, .unset, .unset, .unset, .unset] [])) _
    refine XS.iload X0.here hx rfl (hb hby at_21) rfl ?_
    show Steps p.tables e below (s₁.setTop (mkF m 23 #[.val (.long q1), .second, .val (.long q2), .second, .val (.int p3), .val (.int (p3 &&& (3 : Int32))), .unset, .unset, .unset, .unset, .unset, .unset, .unset, .unset, .unset] [(.int (p3 &&& (3 : Int32)))])) _
    refine XS.iconst X0.here hx rfl (hb hby at_23) ?_
    show Steps p.tables e below (s₁.setTop (mkF m 24 #[.val (.long q1), .second, .val (.long q2), .second, .val (.int p3), .val (.int (p3 &&& (3 : Int32))), .unset, .unset, .unset, .unset, .unset, .unset, .unset, .unset, .unset] [(.int (1 : Int32)), (.int (p3 &&& (3 : Int32)))])) _
    refine XS.icmpYes X0.here hx rfl (pc0 := 24) (pc' := 37) rfl (hb hby at_24) rfl (feq (hs1)).2 (by decide) (by decide) ?_
    show Steps p.tables e below (s₁.setTop (mkF m 37 #[.val (.long q1), .second, .val (.long q2), .second, .val (.int p3), .val (.int (p3 &&& (3 : Int32))), .unset, .unset, .unset, .unset, .unset, .unset, .unset, .unset, .unset] [])) _
    refine XS.iload X0.here hx rfl (hb hby at_37) rfl ?_
    show Steps p.tables e below (s₁.setTop (mkF m 39 #[.val (.long q1), .second, .val (.long q2), .second, .val (.int p3), .val (.int (p3 &&& (3 : Int32))), .unset, .unset, .unset, .unset, .unset, .unset, .unset, .unset, .unset] [(.int (p3 &&& (3 : Int32)))])) _
    refine XS.iconst X0.here hx rfl (hb hby at_39) ?_
    show Steps p.tables e below (s₁.setTop (mkF m 40 #[.val (.long q1), .second, .val (.long q2), .second, .val (.int p3), .val (.int (p3 &&& (3 : Int32))), .unset, .unset, .unset, .unset, .unset, .unset, .unset, .unset, .unset] [(.int (2 : Int32)), (.int (p3 &&& (3 : Int32)))])) _
    refine XS.icmpNo X0.here hx rfl (hb hby at_40) rfl (teq (hs2)).2 ?_
    show Steps p.tables e below (s₁.setTop (mkF m 43 #[.val (.long q1), .second, .val (.long q2), .second, .val (.int p3), .val (.int (p3 &&& (3 : Int32))), .unset, .unset, .unset, .unset, .unset, .unset, .unset, .unset, .unset] [])) _
    refine XS.lloadN X0.here hx rfl (hb hby at_43) rfl ?_
    show Steps p.tables e below (s₁.setTop (mkF m 44 #[.val (.long q1), .second, .val (.long q2), .second, .val (.int p3), .val (.int (p3 &&& (3 : Int32))), .unset, .unset, .unset, .unset, .unset, .unset, .unset, .unset, .unset] [(.long q2)])) _
    refine X0.ldc2Long hx hown (mvT hZ (hw _ (List.mem_of_getElem? (i := 117) rfl))) (g := (mkF m 44 #[.val (.long q1), .second, .val (.long q2), .second, .val (.int p3), .val (.int (p3 &&& (3 : Int32))), .unset, .unset, .unset, .unset, .unset, .unset, .unset, .unset, .unset] [(.long q2)])) rfl (hb hby at_44) _ ?_
    show Steps p.tables e below (s₁.setTop (mkF m 47 #[.val (.long q1), .second, .val (.long q2), .second, .val (.int p3), .val (.int (p3 &&& (3 : Int32))), .unset, .unset, .unset, .unset, .unset, .unset, .unset, .unset, .unset] [(.long (16777215 : Int64)), (.long q2)])) _
    refine XS.land X0.here hx rfl (hb hby at_47) rfl ?_
    show Steps p.tables e below (s₁.setTop (mkF m 48 #[.val (.long q1), .second, .val (.long q2), .second, .val (.int p3), .val (.int (p3 &&& (3 : Int32))), .unset, .unset, .unset, .unset, .unset, .unset, .unset, .unset, .unset] [(.long (q2 &&& (16777215 : Int64)))])) _
    refine XS.lstore X0.here hx rfl (hb hby at_48) rfl (l' := #[.val (.long q1), .second, .val (.long q2), .second, .val (.int p3), .val (.int (p3 &&& (3 : Int32))), .val (.long (q2 &&& (16777215 : Int64))), .second, .unset, .unset, .unset, .unset, .unset, .unset, .unset]) rfl ?_
    show Steps p.tables e below (s₁.setTop (mkF m 50 #[.val (.long q1), .second, .val (.long q2), .second, .val (.int p3), .val (.int (p3 &&& (3 : Int32))), .val (.long (q2 &&& (16777215 : Int64))), .second, .unset, .unset, .unset, .unset, .unset, .unset, .unset] [])) _
    refine XS.goto X0.here hx rfl (pc0 := 50) (pc' := 64) rfl (hb hby at_50) (by decide) (by decide) ?_
    show Steps p.tables e below (s₁.setTop (mkF m 64 #[.val (.long q1), .second, .val (.long q2), .second, .val (.int p3), .val (.int (p3 &&& (3 : Int32))), .val (.long (q2 &&& (16777215 : Int64))), .second, .unset, .unset, .unset, .unset, .unset, .unset, .unset] [])) _
    rw [hm2]
    show Steps p.tables e below (s₁.setTop (mkF m 64 #[.val (.long q1), .second, .val (.long q2), .second, .val (.int p3), .val (.int (p3 &&& (3 : Int32))), .val (.long mm), .second, .unset, .unset, .unset, .unset, .unset, .unset, .unset] [])) _
    refine XS.lload X0.here hx rfl (hb hby at_64) rfl ?_
    show Steps p.tables e below (s₁.setTop (mkF m 66 #[.val (.long q1), .second, .val (.long q2), .second, .val (.int p3), .val (.int (p3 &&& (3 : Int32))), .val (.long mm), .second, .unset, .unset, .unset, .unset, .unset, .unset, .unset] [(.long mm)])) _
    refine X0.ldc2Long hx hown (mvT hZ (hw _ (List.mem_of_getElem? (i := 1) rfl))) (g := (mkF m 66 #[.val (.long q1), .second, .val (.long q2), .second, .val (.int p3), .val (.int (p3 &&& (3 : Int32))), .val (.long mm), .second, .unset, .unset, .unset, .unset, .unset, .unset, .unset] [(.long mm)])) rfl (hb hby at_66) _ ?_
    show Steps p.tables e below (s₁.setTop (mkF m 69 #[.val (.long q1), .second, .val (.long q2), .second, .val (.int p3), .val (.int (p3 &&& (3 : Int32))), .val (.long mm), .second, .unset, .unset, .unset, .unset, .unset, .unset, .unset] [(.long (9223372036853 : Int64)), (.long mm)])) _
    refine XS.lcmp X0.here hx rfl (hb hby at_69) rfl ?_
    show Steps p.tables e below (s₁.setTop (mkF m 70 #[.val (.long q1), .second, .val (.long q2), .second, .val (.int p3), .val (.int (p3 &&& (3 : Int32))), .val (.long mm), .second, .unset, .unset, .unset, .unset, .unset, .unset, .unset] [(.int (lcmpW mm (9223372036853 : Int64)))])) _
    refine XS.ifNo X0.here hx rfl (hb hby at_70) rfl ((if0 _ _).trans (tlt ((lw_gt mm (9223372036853 : Int64)).mpr hc70)).2.2.2) ?_
    show Steps p.tables e below (s₁.setTop (mkF m 73 #[.val (.long q1), .second, .val (.long q2), .second, .val (.int p3), .val (.int (p3 &&& (3 : Int32))), .val (.long mm), .second, .unset, .unset, .unset, .unset, .unset, .unset, .unset] [])) _
    refine X0.ldc2Long hx hown (mvT hZ (hw _ (List.mem_of_getElem? (i := 0) rfl))) (g := (mkF m 73 #[.val (.long q1), .second, .val (.long q2), .second, .val (.int p3), .val (.int (p3 &&& (3 : Int32))), .val (.long mm), .second, .unset, .unset, .unset, .unset, .unset, .unset, .unset] [])) rfl (hb hby at_73) _ ?_
    show Steps p.tables e below (s₁.setTop (mkF m 76 #[.val (.long q1), .second, .val (.long q2), .second, .val (.int p3), .val (.int (p3 &&& (3 : Int32))), .val (.long mm), .second, .unset, .unset, .unset, .unset, .unset, .unset, .unset] [(.long (9223372036854775807 : Int64))])) _
    refine XS.goto X0.here hx rfl (pc0 := 76) (pc' := 87) rfl (hb hby at_76) (by decide) (by decide) ?_
    show Steps p.tables e below (s₁.setTop (mkF m 87 #[.val (.long q1), .second, .val (.long q2), .second, .val (.int p3), .val (.int (p3 &&& (3 : Int32))), .val (.long mm), .second, .unset, .unset, .unset, .unset, .unset, .unset, .unset] [(.long (9223372036854775807 : Int64))])) _
    rw [show (9223372036854775807 : Int64) = own_span mm from (own_span_t mm hc70)]
    refine st1 _ ?_
    show Steps p.tables e below (T1.setTop (mkF m 152 Ls1 [(.int (1 : Int32))])) _
    exact retN X1 hx (t := .boolean) Bd.returns (by simp) (hb hby at_152) hr
  · show QL (.int (1 : Int32)) n0 _ T1.heap _
    exact ⟨rfl, N1, trivial⟩
set_option maxRecDepth 65536 in
set_option maxHeartbeats 40000000 in
theorem rm0_2 (l : Launch) (Z : State) (a0 : Array Value) (hw : ∀ d ∈ tables_1, d.before a0 Z = true) (ws : List Jvm.Cond) (q1 : Int64) (q2 : Int64) (p3 : Int32) (mm : Int64) (w_LM : Addr) (w_LC : Addr) (w_Z : Addr) (h0 : Heap) (n0 : Nat) (Z0 : n0 ≤ h0.size) (S_LM : Sta Z h0 "com/example/strict_lock/strictlock/Watcher" "LAST_MILLISECOND" "Ljava/time/Duration;" (.ref w_LM)) (E_w_LM : Exa Z h0 w_LM "java/time/Duration") (F_w_LMs : Fld Z h0 w_LM "java/time/Duration" "seconds" "J" (.long (0 : Int64))) (F_w_LMn : Fld Z h0 w_LM "java/time/Duration" "nanos" "I" (.int (1000000 : Int32))) (S_LC : Sta Z h0 "com/example/strict_lock/strictlock/Deadline" "LONGEST_COUNTABLE" "Ljava/time/Duration;" (.ref w_LC)) (E_w_LC : Exa Z h0 w_LC "java/time/Duration") (F_w_LCs : Fld Z h0 w_LC "java/time/Duration" "seconds" "J" (.long (9223372036 : Int64))) (F_w_LCn : Fld Z h0 w_LC "java/time/Duration" "nanos" "I" (.int (854775807 : Int32))) (S_Z : Sta Z h0 "java/time/Duration" "ZERO" "Ljava/time/Duration;" (.ref w_Z)) (E_Z : Exa Z h0 w_Z "java/time/Duration") (F_Zs : Fld Z h0 w_Z "java/time/Duration" "seconds" "J" (.long (0 : Int64))) (F_Zn : Fld Z h0 w_Z "java/time/Duration" "nanos" "I" (.int (0 : Int32))) (hm : ¬ mm < (0 : Int64)) (hm2 : (q2 &&& (16777215 : Int64)) = mm) (hs0 : ¬ (p3 &&& (3 : Int32)) = (0 : Int32)) (hs1 : ¬ (p3 &&& (3 : Int32)) = (1 : Int32)) (hs2 : (p3 &&& (3 : Int32)) = (2 : Int32)) :
    MetFree l x (head1 (Jvm.Cond.code x code maxLocals ret :: ws) room_1) (fun a U => a = #[(.long q1), (.long q2), (.int p3)] ∧ Z.Warmed39 U.vm ∧ U.heap = h0) (fun _ _ _ _ _ => True) (fun _ U o U' => ∃ v L, o = .returned v ∧ QL (.int (1 : Int32)) n0 v U'.heap L ∧ FrameEnd U o U' L room_1.cells room_1.slots) := by
  by_cases hc70 : (9223372036853 : Int64) < mm
  · exact rm0_2_f l Z a0 hw ws q1 q2 p3 mm w_LM w_LC w_Z h0 n0 Z0 S_LM E_w_LM F_w_LMs F_w_LMn S_LC E_w_LC F_w_LCs F_w_LCn S_Z E_Z F_Zs F_Zn hm hm2 hs0 hs1 hs2 hc70
  · exact rm0_2_t l Z a0 hw ws q1 q2 p3 mm w_LM w_LC w_Z h0 n0 Z0 S_LM E_w_LM F_w_LMs F_w_LMn S_LC E_w_LC F_w_LCs F_w_LCn S_Z E_Z F_Zs F_Zn hm hm2 hs0 hs1 hs2 hc70
theorem ef_rm0_3 (m : MethodId) (q1 : Int64) (q2 : Int64) (p3 : Int32) : entryFrame m #[(.long q1), (.long q2), (.int p3)] maxLocals = mkF m 0 #[.val (.long q1), .second, .val (.long q2), .second, .val (.int p3), .unset, .unset, .unset, .unset, .unset, .unset, .unset, .unset, .unset, .unset] [] := by first | (simp [entryFrame, mkF, argsToLocals, Value.category, maxLocals]; done) | rfl
set_option maxRecDepth 65536 in
set_option maxHeartbeats 40000000 in
theorem rm0_3_t (l : Launch) (Z : State) (a0 : Array Value) (hw : ∀ d ∈ tables_1, d.before a0 Z = true) (ws : List Jvm.Cond) (q1 : Int64) (q2 : Int64) (p3 : Int32) (mm : Int64) (w_LM : Addr) (w_LC : Addr) (w_Z : Addr) (h0 : Heap) (n0 : Nat) (Z0 : n0 ≤ h0.size) (S_LM : Sta Z h0 "com/example/strict_lock/strictlock/Watcher" "LAST_MILLISECOND" "Ljava/time/Duration;" (.ref w_LM)) (E_w_LM : Exa Z h0 w_LM "java/time/Duration") (F_w_LMs : Fld Z h0 w_LM "java/time/Duration" "seconds" "J" (.long (0 : Int64))) (F_w_LMn : Fld Z h0 w_LM "java/time/Duration" "nanos" "I" (.int (1000000 : Int32))) (S_LC : Sta Z h0 "com/example/strict_lock/strictlock/Deadline" "LONGEST_COUNTABLE" "Ljava/time/Duration;" (.ref w_LC)) (E_w_LC : Exa Z h0 w_LC "java/time/Duration") (F_w_LCs : Fld Z h0 w_LC "java/time/Duration" "seconds" "J" (.long (9223372036 : Int64))) (F_w_LCn : Fld Z h0 w_LC "java/time/Duration" "nanos" "I" (.int (854775807 : Int32))) (S_Z : Sta Z h0 "java/time/Duration" "ZERO" "Ljava/time/Duration;" (.ref w_Z)) (E_Z : Exa Z h0 w_Z "java/time/Duration") (F_Zs : Fld Z h0 w_Z "java/time/Duration" "seconds" "J" (.long (0 : Int64))) (F_Zn : Fld Z h0 w_Z "java/time/Duration" "nanos" "I" (.int (0 : Int32))) (hm : ¬ mm < (0 : Int64)) (hm3 : ((9223372036852 : Int64) + (q2 &&& (3 : Int64))) = mm) (hs0 : ¬ (p3 &&& (3 : Int32)) = (0 : Int32)) (hs1 : ¬ (p3 &&& (3 : Int32)) = (1 : Int32)) (hs2 : ¬ (p3 &&& (3 : Int32)) = (2 : Int32)) (hc70 : ¬ ((9223372036853 : Int64) < mm)) :
    MetFree l x (head1 (Jvm.Cond.code x code maxLocals ret :: ws) room_1) (fun a U => a = #[(.long q1), (.long q2), (.int p3)] ∧ Z.Warmed39 U.vm ∧ U.heap = h0) (fun _ _ _ _ _ => True) (fun _ U o U' => ∃ v L, o = .returned v ∧ QL (.int (1 : Int32)) n0 v U'.heap L ∧ FrameEnd U o U' L room_1.cells room_1.slots) := by
  refine MetFree.of_bodySF (plainFor_of_name pnm_4) hisR ?_
  intro p e s m args below meth c s₁ Bd hml0 hP hK
  obtain ⟨rfl, hZ, hh⟩ := hP
  have hx := Bd.exec
  have hby := Bd.bytes
  have hml : c.maxLocals = 15 := hml0
  have hown : s.vm.findClass "com/example/strict_lock/strictlock/WatcherEndOfKeyPinLaw" = some m.cls := findClass_of_methodNamed Bd.named
  have hnm := (name_of_methodNamed Bd.named Bd.method).1
  have X0 : Stand p l e room_1 s m #[(.long q1), (.long q2), (.int p3)] below meth c s₁ [] 0 0 := Stand.of_body Bd
  have e0 : s₁.heap = h0 := by rw [← hh, Bd.state]; rfl
  have N0 := Fr.nil n0
  have pre0 : ∀ t, Steps p.tables e below (s₁.setTop (mkF m 0 #[.val (.long q1), .second, .val (.long q2), .second, .val (.int p3), .unset, .unset, .unset, .unset, .unset, .unset, .unset, .unset, .unset, .unset] [])) t → Steps p.tables e below (s₁.setTop (entryFrame m #[(.long q1), (.long q2), (.int p3)] maxLocals)) t := fun t k => castTop (ef_rm0_3 m q1 q2 p3) k
  obtain ⟨T1, Lc1, k1, n1, Ls1, X1, N1, hk1, hn1, st1⟩ := own_tail Z a0 hw q1 q2 p3 (p3 &&& (3 : Int32)) mm w_LM w_LC w_Z h0 n0 Z0 S_LM E_w_LM F_w_LMs F_w_LMn S_LC E_w_LC F_w_LCs F_w_LCn S_Z E_Z F_Zs F_Zn hm X0 hx hZ hby hml hown e0
  obtain ⟨fs, hr, hrun, hended, hW, hsame⟩ := X1.leave (v := some (.int (1 : Int32))) (fun h => by rw [Bd.returns] at h; cases h)
  refine ⟨_, _, pre0 _ ?_, hrun, hended, _, _, rfl, ?_, ⟨_, rfl⟩, hW, hsame.mono hk1 hn1⟩
  · show Steps p.tables e below (s₁.setTop (mkF m 0 #[.val (.long q1), .second, .val (.long q2), .second, .val (.int p3), .unset, .unset, .unset, .unset, .unset, .unset, .unset, .unset, .unset, .unset] [])) _
    refine XS.iload X0.here hx rfl (hb hby at_0) rfl ?_
    show Steps p.tables e below (s₁.setTop (mkF m 2 #[.val (.long q1), .second, .val (.long q2), .second, .val (.int p3), .unset, .unset, .unset, .unset, .unset, .unset, .unset, .unset, .unset, .unset] [(.int p3)])) _
    refine XS.iconst X0.here hx rfl (hb hby at_2) ?_
    show Steps p.tables e below (s₁.setTop (mkF m 3 #[.val (.long q1), .second, .val (.long q2), .second, .val (.int p3), .unset, .unset, .unset, .unset, .unset, .unset, .unset, .unset, .unset, .unset] [(.int (3 : Int32)), (.int p3)])) _
    refine XS.iand X0.here hx rfl (hb hby at_3) rfl ?_
    show Steps p.tables e below (s₁.setTop (mkF m 4 #[.val (.long q1), .second, .val (.long q2), .second, .val (.int p3), .unset, .unset, .unset, .unset, .unset, .unset, .unset, .unset, .unset, .unset] [(.int (p3 &&& (3 : Int32)))])) _
    refine XS.istore X0.here hx rfl (hb hby at_4) rfl (l' := #[.val (.long q1), .second, .val (.long q2), .second, .val (.int p3), .val (.int (p3 &&& (3 : Int32))), .unset, .unset, .unset, .unset, .unset, .unset, .unset, .unset, .unset]) rfl ?_
    show Steps p.tables e below (s₁.setTop (mkF m 6 #[.val (.long q1), .second, .val (.long q2), .second, .val (.int p3), .val (.int (p3 &&& (3 : Int32))), .unset, .unset, .unset, .unset, .unset, .unset, .unset, .unset, .unset] [])) _
    refine XS.iload X0.here hx rfl (hb hby at_6) rfl ?_
    show Steps p.tables e below (s₁.setTop (mkF m 8 #[.val (.long q1), .second, .val (.long q2), .second, .val (.int p3), .val (.int (p3 &&& (3 : Int32))), .unset, .unset, .unset, .unset, .unset, .unset, .unset, .unset, .unset] [(.int (p3 &&& (3 : Int32)))])) _
    refine XS.ifYes X0.here hx rfl (pc0 := 8) (pc' := 21) rfl (hb hby at_8) rfl ((if0 _ _).trans (feq (hs0)).2) (by decide) (by decide) ?_
    show Steps p.tables e below (s₁.setTop (mkF m 21 #[.val (.long q1), .second, .val (.long q2), .second, .val (.int p3), .val (.int (p3 &&& (3 : Int32))), .unset, .unset, .unset, .unset, .unset, .unset, .unset, .unset, .unset] [])) _
    refine XS.iload X0.here hx rfl (hb hby at_21) rfl ?_
    show Steps p.tables e below (s₁.setTop (mkF m 23 #[.val (.long q1), .second, .val (.long q2), .second, .val (.int p3), .val (.int (p3 &&& (3 : Int32))), .unset, .unset, .unset, .unset, .unset, .unset, .unset, .unset, .unset] [(.int (p3 &&& (3 : Int32)))])) _
    refine XS.iconst X0.here hx rfl (hb hby at_23) ?_
    show Steps p.tables e below (s₁.setTop (mkF m 24 #[.val (.long q1), .second, .val (.long q2), .second, .val (.int p3), .val (.int (p3 &&& (3 : Int32))), .unset, .unset, .unset, .unset, .unset, .unset, .unset, .unset, .unset] [(.int (1 : Int32)), (.int (p3 &&& (3 : Int32)))])) _
    refine XS.icmpYes X0.here hx rfl (pc0 := 24) (pc' := 37) rfl (hb hby at_24) rfl (feq (hs1)).2 (by decide) (by decide) ?_
    show Steps p.tables e below (s₁.setTop (mkF m 37 #[.val (.long q1), .second, .val (.long q2), .second, .val (.int p3), .val (.int (p3 &&& (3 : Int32))), .unset, .unset, .unset, .unset, .unset, .unset, .unset, .unset, .unset] [])) _
    refine XS.iload X0.here hx rfl (hb hby at_37) rfl ?_
    show Steps p.tables e below (s₁.setTop (mkF m 39 #[.val (.long q1), .second, .val (.long q2), .second, .val (.int p3), .val (.int (p3 &&& (3 : Int32))), .unset, .unset, .unset, .unset, .unset, .unset, .unset, .unset, .unset] [(.int (p3 &&& (3 : Int32)))])) _
    refine XS.iconst X0.here hx rfl (hb hby at_39) ?_
    show Steps p.tables e below (s₁.setTop (mkF m 40 #[.val (.long q1), .second, .val (.long q2), .second, .val (.int p3), .val (.int (p3 &&& (3 : Int32))), .unset, .unset, .unset, .unset, .unset, .unset, .unset, .unset, .unset] [(.int (2 : Int32)), (.int (p3 &&& (3 : Int32)))])) _
    refine XS.icmpYes X0.here hx rfl (pc0 := 40) (pc' := 53) rfl (hb hby at_40) rfl (feq (hs2)).2 (by decide) (by decide) ?_
    show Steps p.tables e below (s₁.setTop (mkF m 53 #[.val (.long q1), .second, .val (.long q2), .second, .val (.int p3), .val (.int (p3 &&& (3 : Int32))), .unset, .unset, .unset, .unset, .unset, .unset, .unset, .unset, .unset] [])) _
    refine X0.ldc2Long hx hown (mvT hZ (hw _ (List.mem_of_getElem? (i := 113) rfl))) (g := (mkF m 53 #[.val (.long q1), .second, .val (.long q2), .second, .val (.int p3), .val (.int (p3 &&& (3 : Int32))), .unset, .unset, .unset, .unset, .unset, .unset, .unset, .unset, .unset] [])) rfl (hb hby at_53) _ ?_
    show Steps p.tables e below (s₁.setTop (mkF m 56 #[.val (.long q1), .second, .val (.long q2), .second, .val (.int p3), .val (.int (p3 &&& (3 : Int32))), .unset, .unset, .unset, .unset, .unset, .unset, .unset, .unset, .unset] [(.long (9223372036852 : Int64))])) _
    refine XS.lloadN X0.here hx rfl (hb hby at_56) rfl ?_
    show Steps p.tables e below (s₁.setTop (mkF m 57 #[.val (.long q1), .second, .val (.long q2), .second, .val (.int p3), .val (.int (p3 &&& (3 : Int32))), .unset, .unset, .unset, .unset, .unset, .unset, .unset, .unset, .unset] [(.long q2), (.long (9223372036852 : Int64))])) _
    refine X0.ldc2Long hx hown (mvT hZ (hw _ (List.mem_of_getElem? (i := 114) rfl))) (g := (mkF m 57 #[.val (.long q1), .second, .val (.long q2), .second, .val (.int p3), .val (.int (p3 &&& (3 : Int32))), .unset, .unset, .unset, .unset, .unset, .unset, .unset, .unset, .unset] [(.long q2), (.long (9223372036852 : Int64))])) rfl (hb hby at_57) _ ?_
    show Steps p.tables e below (s₁.setTop (mkF m 60 #[.val (.long q1), .second, .val (.long q2), .second, .val (.int p3), .val (.int (p3 &&& (3 : Int32))), .unset, .unset, .unset, .unset, .unset, .unset, .unset, .unset, .unset] [(.long (3 : Int64)), (.long q2), (.long (9223372036852 : Int64))])) _
    refine XS.land X0.here hx rfl (hb hby at_60) rfl ?_
    show Steps p.tables e below (s₁.setTop (mkF m 61 #[.val (.long q1), .second, .val (.long q2), .second, .val (.int p3), .val (.int (p3 &&& (3 : Int32))), .unset, .unset, .unset, .unset, .unset, .unset, .unset, .unset, .unset] [(.long (q2 &&& (3 : Int64))), (.long (9223372036852 : Int64))])) _
    refine XS.ladd X0.here hx rfl (hb hby at_61) rfl ?_
    show Steps p.tables e below (s₁.setTop (mkF m 62 #[.val (.long q1), .second, .val (.long q2), .second, .val (.int p3), .val (.int (p3 &&& (3 : Int32))), .unset, .unset, .unset, .unset, .unset, .unset, .unset, .unset, .unset] [(.long ((9223372036852 : Int64) + (q2 &&& (3 : Int64))))])) _
    refine XS.lstore X0.here hx rfl (hb hby at_62) rfl (l' := #[.val (.long q1), .second, .val (.long q2), .second, .val (.int p3), .val (.int (p3 &&& (3 : Int32))), .val (.long ((9223372036852 : Int64) + (q2 &&& (3 : Int64)))), .second, .unset, .unset, .unset, .unset, .unset, .unset, .unset]) rfl ?_
    show Steps p.tables e below (s₁.setTop (mkF m 64 #[.val (.long q1), .second, .val (.long q2), .second, .val (.int p3), .val (.int (p3 &&& (3 : Int32))), .val (.long ((9223372036852 : Int64) + (q2 &&& (3 : Int64)))), .second, .unset, .unset, .unset, .unset, .unset, .unset, .unset] [])) _
    rw [hm3]
    show Steps p.tables e below (s₁.setTop (mkF m 64 #[.val (.long q1), .second, .val (.long q2), .second, .val (.int p3), .val (.int (p3 &&& (3 : Int32))), .val (.long mm), .second, .unset, .unset, .unset, .unset, .unset, .unset, .unset] [])) _
    refine XS.lload X0.here hx rfl (hb hby at_64) rfl ?_
    show Steps p.tables e below (s₁.setTop (mkF m 66 #[.val (.long q1), .second, .val (.long q2), .second, .val (.int p3), .val (.int (p3 &&& (3 : Int32))), .val (.long mm), .second, .unset, .unset, .unset, .unset, .unset, .unset, .unset] [(.long mm)])) _
    refine X0.ldc2Long hx hown (mvT hZ (hw _ (List.mem_of_getElem? (i := 1) rfl))) (g := (mkF m 66 #[.val (.long q1), .second, .val (.long q2), .second, .val (.int p3), .val (.int (p3 &&& (3 : Int32))), .val (.long mm), .second, .unset, .unset, .unset, .unset, .unset, .unset, .unset] [(.long mm)])) rfl (hb hby at_66) _ ?_
    show Steps p.tables e below (s₁.setTop (mkF m 69 #[.val (.long q1), .second, .val (.long q2), .second, .val (.int p3), .val (.int (p3 &&& (3 : Int32))), .val (.long mm), .second, .unset, .unset, .unset, .unset, .unset, .unset, .unset] [(.long (9223372036853 : Int64)), (.long mm)])) _
    refine XS.lcmp X0.here hx rfl (hb hby at_69) rfl ?_
    show Steps p.tables e below (s₁.setTop (mkF m 70 #[.val (.long q1), .second, .val (.long q2), .second, .val (.int p3), .val (.int (p3 &&& (3 : Int32))), .val (.long mm), .second, .unset, .unset, .unset, .unset, .unset, .unset, .unset] [(.int (lcmpW mm (9223372036853 : Int64)))])) _
    refine XS.ifYes X0.here hx rfl (pc0 := 70) (pc' := 79) rfl (hb hby at_70) rfl ((if0 _ _).trans (flt (fun q => hc70 ((lw_gt mm (9223372036853 : Int64)).mp q))).2.2.2) (by decide) (by decide) ?_
    show Steps p.tables e below (s₁.setTop (mkF m 79 #[.val (.long q1), .second, .val (.long q2), .second, .val (.int p3), .val (.int (p3 &&& (3 : Int32))), .val (.long mm), .second, .unset, .unset, .unset, .unset, .unset, .unset, .unset] [])) _
    refine XS.lload X0.here hx rfl (hb hby at_79) rfl ?_
    show Steps p.tables e below (s₁.setTop (mkF m 81 #[.val (.long q1), .second, .val (.long q2), .second, .val (.int p3), .val (.int (p3 &&& (3 : Int32))), .val (.long mm), .second, .unset, .unset, .unset, .unset, .unset, .unset, .unset] [(.long mm)])) _
    refine XS.lconst X0.here hx rfl (hb hby at_81) ?_
    show Steps p.tables e below (s₁.setTop (mkF m 82 #[.val (.long q1), .second, .val (.long q2), .second, .val (.int p3), .val (.int (p3 &&& (3 : Int32))), .val (.long mm), .second, .unset, .unset, .unset, .unset, .unset, .unset, .unset] [(.long (1 : Int64)), (.long mm)])) _
    refine XS.ladd X0.here hx rfl (hb hby at_82) rfl ?_
    show Steps p.tables e below (s₁.setTop (mkF m 83 #[.val (.long q1), .second, .val (.long q2), .second, .val (.int p3), .val (.int (p3 &&& (3 : Int32))), .val (.long mm), .second, .unset, .unset, .unset, .unset, .unset, .unset, .unset] [(.long (mm + (1 : Int64)))])) _
    refine X0.ldc2Long hx hown (mvT hZ (hw _ (List.mem_of_getElem? (i := 2) rfl))) (g := (mkF m 83 #[.val (.long q1), .second, .val (.long q2), .second, .val (.int p3), .val (.int (p3 &&& (3 : Int32))), .val (.long mm), .second, .unset, .unset, .unset, .unset, .unset, .unset, .unset] [(.long (mm + (1 : Int64)))])) rfl (hb hby at_83) _ ?_
    show Steps p.tables e below (s₁.setTop (mkF m 86 #[.val (.long q1), .second, .val (.long q2), .second, .val (.int p3), .val (.int (p3 &&& (3 : Int32))), .val (.long mm), .second, .unset, .unset, .unset, .unset, .unset, .unset, .unset] [(.long (1000000 : Int64)), (.long (mm + (1 : Int64)))])) _
    refine XS.lmul X0.here hx rfl (hb hby at_86) rfl ?_
    show Steps p.tables e below (s₁.setTop (mkF m 87 #[.val (.long q1), .second, .val (.long q2), .second, .val (.int p3), .val (.int (p3 &&& (3 : Int32))), .val (.long mm), .second, .unset, .unset, .unset, .unset, .unset, .unset, .unset] [(.long ((mm + (1 : Int64)) * (1000000 : Int64)))])) _
    rw [show ((mm + (1 : Int64)) * (1000000 : Int64)) = own_span mm from (own_span_f mm hc70)]
    refine st1 _ ?_
    show Steps p.tables e below (T1.setTop (mkF m 152 Ls1 [(.int (1 : Int32))])) _
    exact retN X1 hx (t := .boolean) Bd.returns (by simp) (hb hby at_152) hr
  · show QL (.int (1 : Int32)) n0 _ T1.heap _
    exact ⟨rfl, N1, trivial⟩
set_option maxRecDepth 65536 in
set_option maxHeartbeats 40000000 in
theorem rm0_3_f (l : Launch) (Z : State) (a0 : Array Value) (hw : ∀ d ∈ tables_1, d.before a0 Z = true) (ws : List Jvm.Cond) (q1 : Int64) (q2 : Int64) (p3 : Int32) (mm : Int64) (w_LM : Addr) (w_LC : Addr) (w_Z : Addr) (h0 : Heap) (n0 : Nat) (Z0 : n0 ≤ h0.size) (S_LM : Sta Z h0 "com/example/strict_lock/strictlock/Watcher" "LAST_MILLISECOND" "Ljava/time/Duration;" (.ref w_LM)) (E_w_LM : Exa Z h0 w_LM "java/time/Duration") (F_w_LMs : Fld Z h0 w_LM "java/time/Duration" "seconds" "J" (.long (0 : Int64))) (F_w_LMn : Fld Z h0 w_LM "java/time/Duration" "nanos" "I" (.int (1000000 : Int32))) (S_LC : Sta Z h0 "com/example/strict_lock/strictlock/Deadline" "LONGEST_COUNTABLE" "Ljava/time/Duration;" (.ref w_LC)) (E_w_LC : Exa Z h0 w_LC "java/time/Duration") (F_w_LCs : Fld Z h0 w_LC "java/time/Duration" "seconds" "J" (.long (9223372036 : Int64))) (F_w_LCn : Fld Z h0 w_LC "java/time/Duration" "nanos" "I" (.int (854775807 : Int32))) (S_Z : Sta Z h0 "java/time/Duration" "ZERO" "Ljava/time/Duration;" (.ref w_Z)) (E_Z : Exa Z h0 w_Z "java/time/Duration") (F_Zs : Fld Z h0 w_Z "java/time/Duration" "seconds" "J" (.long (0 : Int64))) (F_Zn : Fld Z h0 w_Z "java/time/Duration" "nanos" "I" (.int (0 : Int32))) (hm : ¬ mm < (0 : Int64)) (hm3 : ((9223372036852 : Int64) + (q2 &&& (3 : Int64))) = mm) (hs0 : ¬ (p3 &&& (3 : Int32)) = (0 : Int32)) (hs1 : ¬ (p3 &&& (3 : Int32)) = (1 : Int32)) (hs2 : ¬ (p3 &&& (3 : Int32)) = (2 : Int32)) (hc70 : (9223372036853 : Int64) < mm) :
    MetFree l x (head1 (Jvm.Cond.code x code maxLocals ret :: ws) room_1) (fun a U => a = #[(.long q1), (.long q2), (.int p3)] ∧ Z.Warmed39 U.vm ∧ U.heap = h0) (fun _ _ _ _ _ => True) (fun _ U o U' => ∃ v L, o = .returned v ∧ QL (.int (1 : Int32)) n0 v U'.heap L ∧ FrameEnd U o U' L room_1.cells room_1.slots) := by
  refine MetFree.of_bodySF (plainFor_of_name pnm_4) hisR ?_
  intro p e s m args below meth c s₁ Bd hml0 hP hK
  obtain ⟨rfl, hZ, hh⟩ := hP
  have hx := Bd.exec
  have hby := Bd.bytes
  have hml : c.maxLocals = 15 := hml0
  have hown : s.vm.findClass "com/example/strict_lock/strictlock/WatcherEndOfKeyPinLaw" = some m.cls := findClass_of_methodNamed Bd.named
  have hnm := (name_of_methodNamed Bd.named Bd.method).1
  have X0 : Stand p l e room_1 s m #[(.long q1), (.long q2), (.int p3)] below meth c s₁ [] 0 0 := Stand.of_body Bd
  have e0 : s₁.heap = h0 := by rw [← hh, Bd.state]; rfl
  have N0 := Fr.nil n0
  have pre0 : ∀ t, Steps p.tables e below (s₁.setTop (mkF m 0 #[.val (.long q1), .second, .val (.long q2), .second, .val (.int p3), .unset, .unset, .unset, .unset, .unset, .unset, .unset, .unset, .unset, .unset] [])) t → Steps p.tables e below (s₁.setTop (entryFrame m #[(.long q1), (.long q2), (.int p3)] maxLocals)) t := fun t k => castTop (ef_rm0_3 m q1 q2 p3) k
  obtain ⟨T1, Lc1, k1, n1, Ls1, X1, N1, hk1, hn1, st1⟩ := own_tail Z a0 hw q1 q2 p3 (p3 &&& (3 : Int32)) mm w_LM w_LC w_Z h0 n0 Z0 S_LM E_w_LM F_w_LMs F_w_LMn S_LC E_w_LC F_w_LCs F_w_LCn S_Z E_Z F_Zs F_Zn hm X0 hx hZ hby hml hown e0
  obtain ⟨fs, hr, hrun, hended, hW, hsame⟩ := X1.leave (v := some (.int (1 : Int32))) (fun h => by rw [Bd.returns] at h; cases h)
  refine ⟨_, _, pre0 _ ?_, hrun, hended, _, _, rfl, ?_, ⟨_, rfl⟩, hW, hsame.mono hk1 hn1⟩
  · show Steps p.tables e below (s₁.setTop (mkF m 0 #[.val (.long q1), .second, .val (.long q2), .second, .val (.int p3), .unset, .unset, .unset, .unset, .unset, .unset, .unset, .unset, .unset, .unset] [])) _
    refine XS.iload X0.here hx rfl (hb hby at_0) rfl ?_
    show Steps p.tables e below (s₁.setTop (mkF m 2 #[.val (.long q1), .second, .val (.long q2), .second, .val (.int p3), .unset, .unset, .unset, .unset, .unset, .unset, .unset, .unset, .unset, .unset] [(.int p3)])) _
    refine XS.iconst X0.here hx rfl (hb hby at_2) ?_
    show Steps p.tables e below (s₁.setTop (mkF m 3 #[.val (.long q1), .second, .val (.long q2), .second, .val (.int p3), .unset, .unset, .unset, .unset, .unset, .unset, .unset, .unset, .unset, .unset] [(.int (3 : Int32)), (.int p3)])) _
    refine XS.iand X0.here hx rfl (hb hby at_3) rfl ?_
    show Steps p.tables e below (s₁.setTop (mkF m 4 #[.val (.long q1), .second, .val (.long q2), .second, .val (.int p3), .unset, .unset, .unset, .unset, .unset, .unset, .unset, .unset, .unset, .unset] [(.int (p3 &&& (3 : Int32)))])) _
    refine XS.istore X0.here hx rfl (hb hby at_4) rfl (l' := #[.val (.long q1), .second, .val (.long q2), .second, .val (.int p3), .val (.int (p3 &&& (3 : Int32))), .unset, .unset, .unset, .unset, .unset, .unset, .unset, .unset, .unset]) rfl ?_
    show Steps p.tables e below (s₁.setTop (mkF m 6 #[.val (.long q1), .second, .val (.long q2), .second, .val (.int p3), .val (.int (p3 &&& (3 : Int32))), .unset, .unset, .unset, .unset, .unset, .unset, .unset, .unset, .unset] [])) _
    refine XS.iload X0.here hx rfl (hb hby at_6) rfl ?_
    show Steps p.tables e below (s₁.setTop (mkF m 8 #[.val (.long q1), .second, .val (.long q2), .second, .val (.int p3), .val (.int (p3 &&& (3 : Int32))), .unset, .unset, .unset, .unset, .unset, .unset, .unset, .unset, .unset] [(.int (p3 &&& (3 : Int32)))])) _
    refine XS.ifYes X0.here hx rfl (pc0 := 8) (pc' := 21) rfl (hb hby at_8) rfl ((if0 _ _).trans (feq (hs0)).2) (by decide) (by decide) ?_
    show Steps p.tables e below (s₁.setTop (mkF m 21 #[.val (.long q1), .second, .val (.long q2), .second, .val (.int p3), .val (.int (p3 &&& (3 : Int32))), .unset, .unset, .unset, .unset, .unset, .unset, .unset, .unset, .unset] [])) _
    refine XS.iload X0.here hx rfl (hb hby at_21) rfl ?_
    show Steps p.tables e below (s₁.setTop (mkF m 23 #[.val (.long q1), .second, .val (.long q2), .second, .val (.int p3), .val (.int (p3 &&& (3 : Int32))), .unset, .unset, .unset, .unset, .unset, .unset, .unset, .unset, .unset] [(.int (p3 &&& (3 : Int32)))])) _
    refine XS.iconst X0.here hx rfl (hb hby at_23) ?_
    show Steps p.tables e below (s₁.setTop (mkF m 24 #[.val (.long q1), .second, .val (.long q2), .second, .val (.int p3), .val (.int (p3 &&& (3 : Int32))), .unset, .unset, .unset, .unset, .unset, .unset, .unset, .unset, .unset] [(.int (1 : Int32)), (.int (p3 &&& (3 : Int32)))])) _
    refine XS.icmpYes X0.here hx rfl (pc0 := 24) (pc' := 37) rfl (hb hby at_24) rfl (feq (hs1)).2 (by decide) (by decide) ?_
    show Steps p.tables e below (s₁.setTop (mkF m 37 #[.val (.long q1), .second, .val (.long q2), .second, .val (.int p3), .val (.int (p3 &&& (3 : Int32))), .unset, .unset, .unset, .unset, .unset, .unset, .unset, .unset, .unset] [])) _
    refine XS.iload X0.here hx rfl (hb hby at_37) rfl ?_
    show Steps p.tables e below (s₁.setTop (mkF m 39 #[.val (.long q1), .second, .val (.long q2), .second, .val (.int p3), .val (.int (p3 &&& (3 : Int32))), .unset, .unset, .unset, .unset, .unset, .unset, .unset, .unset, .unset] [(.int (p3 &&& (3 : Int32)))])) _
    refine XS.iconst X0.here hx rfl (hb hby at_39) ?_
    show Steps p.tables e below (s₁.setTop (mkF m 40 #[.val (.long q1), .second, .val (.long q2), .second, .val (.int p3), .val (.int (p3 &&& (3 : Int32))), .unset, .unset, .unset, .unset, .unset, .unset, .unset, .unset, .unset] [(.int (2 : Int32)), (.int (p3 &&& (3 : Int32)))])) _
    refine XS.icmpYes X0.here hx rfl (pc0 := 40) (pc' := 53) rfl (hb hby at_40) rfl (feq (hs2)).2 (by decide) (by decide) ?_
    show Steps p.tables e below (s₁.setTop (mkF m 53 #[.val (.long q1), .second, .val (.long q2), .second, .val (.int p3), .val (.int (p3 &&& (3 : Int32))), .unset, .unset, .unset, .unset, .unset, .unset, .unset, .unset, .unset] [])) _
    refine X0.ldc2Long hx hown (mvT hZ (hw _ (List.mem_of_getElem? (i := 113) rfl))) (g := (mkF m 53 #[.val (.long q1), .second, .val (.long q2), .second, .val (.int p3), .val (.int (p3 &&& (3 : Int32))), .unset, .unset, .unset, .unset, .unset, .unset, .unset, .unset, .unset] [])) rfl (hb hby at_53) _ ?_
    show Steps p.tables e below (s₁.setTop (mkF m 56 #[.val (.long q1), .second, .val (.long q2), .second, .val (.int p3), .val (.int (p3 &&& (3 : Int32))), .unset, .unset, .unset, .unset, .unset, .unset, .unset, .unset, .unset] [(.long (9223372036852 : Int64))])) _
    refine XS.lloadN X0.here hx rfl (hb hby at_56) rfl ?_
    show Steps p.tables e below (s₁.setTop (mkF m 57 #[.val (.long q1), .second, .val (.long q2), .second, .val (.int p3), .val (.int (p3 &&& (3 : Int32))), .unset, .unset, .unset, .unset, .unset, .unset, .unset, .unset, .unset] [(.long q2), (.long (9223372036852 : Int64))])) _
    refine X0.ldc2Long hx hown (mvT hZ (hw _ (List.mem_of_getElem? (i := 114) rfl))) (g := (mkF m 57 #[.val (.long q1), .second, .val (.long q2), .second, .val (.int p3), .val (.int (p3 &&& (3 : Int32))), .unset, .unset, .unset, .unset, .unset, .unset, .unset, .unset, .unset] [(.long q2), (.long (9223372036852 : Int64))])) rfl (hb hby at_57) _ ?_
    show Steps p.tables e below (s₁.setTop (mkF m 60 #[.val (.long q1), .second, .val (.long q2), .second, .val (.int p3), .val (.int (p3 &&& (3 : Int32))), .unset, .unset, .unset, .unset, .unset, .unset, .unset, .unset, .unset] [(.long (3 : Int64)), (.long q2), (.long (9223372036852 : Int64))])) _
    refine XS.land X0.here hx rfl (hb hby at_60) rfl ?_
    show Steps p.tables e below (s₁.setTop (mkF m 61 #[.val (.long q1), .second, .val (.long q2), .second, .val (.int p3), .val (.int (p3 &&& (3 : Int32))), .unset, .unset, .unset, .unset, .unset, .unset, .unset, .unset, .unset] [(.long (q2 &&& (3 : Int64))), (.long (9223372036852 : Int64))])) _
    refine XS.ladd X0.here hx rfl (hb hby at_61) rfl ?_
    show Steps p.tables e below (s₁.setTop (mkF m 62 #[.val (.long q1), .second, .val (.long q2), .second, .val (.int p3), .val (.int (p3 &&& (3 : Int32))), .unset, .unset, .unset, .unset, .unset, .unset, .unset, .unset, .unset] [(.long ((9223372036852 : Int64) + (q2 &&& (3 : Int64))))])) _
    refine XS.lstore X0.here hx rfl (hb hby at_62) rfl (l' := #[.val (.long q1), .second, .val (.long q2), .second, .val (.int p3), .val (.int (p3 &&& (3 : Int32))), .val (.long ((9223372036852 : Int64) + (q2 &&& (3 : Int64)))), .second, .unset, .unset, .unset, .unset, .unset, .unset, .unset]) rfl ?_
    show Steps p.tables e below (s₁.setTop (mkF m 64 #[.val (.long q1), .second, .val (.long q2), .second, .val (.int p3), .val (.int (p3 &&& (3 : Int32))), .val (.long ((9223372036852 : Int64) + (q2 &&& (3 : Int64)))), .second, .unset, .unset, .unset, .unset, .unset, .unset, .unset] [])) _
    rw [hm3]
    show Steps p.tables e below (s₁.setTop (mkF m 64 #[.val (.long q1), .second, .val (.long q2), .second, .val (.int p3), .val (.int (p3 &&& (3 : Int32))), .val (.long mm), .second, .unset, .unset, .unset, .unset, .unset, .unset, .unset] [])) _
    refine XS.lload X0.here hx rfl (hb hby at_64) rfl ?_
    show Steps p.tables e below (s₁.setTop (mkF m 66 #[.val (.long q1), .second, .val (.long q2), .second, .val (.int p3), .val (.int (p3 &&& (3 : Int32))), .val (.long mm), .second, .unset, .unset, .unset, .unset, .unset, .unset, .unset] [(.long mm)])) _
    refine X0.ldc2Long hx hown (mvT hZ (hw _ (List.mem_of_getElem? (i := 1) rfl))) (g := (mkF m 66 #[.val (.long q1), .second, .val (.long q2), .second, .val (.int p3), .val (.int (p3 &&& (3 : Int32))), .val (.long mm), .second, .unset, .unset, .unset, .unset, .unset, .unset, .unset] [(.long mm)])) rfl (hb hby at_66) _ ?_
    show Steps p.tables e below (s₁.setTop (mkF m 69 #[.val (.long q1), .second, .val (.long q2), .second, .val (.int p3), .val (.int (p3 &&& (3 : Int32))), .val (.long mm), .second, .unset, .unset, .unset, .unset, .unset, .unset, .unset] [(.long (9223372036853 : Int64)), (.long mm)])) _
    refine XS.lcmp X0.here hx rfl (hb hby at_69) rfl ?_
    show Steps p.tables e below (s₁.setTop (mkF m 70 #[.val (.long q1), .second, .val (.long q2), .second, .val (.int p3), .val (.int (p3 &&& (3 : Int32))), .val (.long mm), .second, .unset, .unset, .unset, .unset, .unset, .unset, .unset] [(.int (lcmpW mm (9223372036853 : Int64)))])) _
    refine XS.ifNo X0.here hx rfl (hb hby at_70) rfl ((if0 _ _).trans (tlt ((lw_gt mm (9223372036853 : Int64)).mpr hc70)).2.2.2) ?_
    show Steps p.tables e below (s₁.setTop (mkF m 73 #[.val (.long q1), .second, .val (.long q2), .second, .val (.int p3), .val (.int (p3 &&& (3 : Int32))), .val (.long mm), .second, .unset, .unset, .unset, .unset, .unset, .unset, .unset] [])) _
    refine X0.ldc2Long hx hown (mvT hZ (hw _ (List.mem_of_getElem? (i := 0) rfl))) (g := (mkF m 73 #[.val (.long q1), .second, .val (.long q2), .second, .val (.int p3), .val (.int (p3 &&& (3 : Int32))), .val (.long mm), .second, .unset, .unset, .unset, .unset, .unset, .unset, .unset] [])) rfl (hb hby at_73) _ ?_
    show Steps p.tables e below (s₁.setTop (mkF m 76 #[.val (.long q1), .second, .val (.long q2), .second, .val (.int p3), .val (.int (p3 &&& (3 : Int32))), .val (.long mm), .second, .unset, .unset, .unset, .unset, .unset, .unset, .unset] [(.long (9223372036854775807 : Int64))])) _
    refine XS.goto X0.here hx rfl (pc0 := 76) (pc' := 87) rfl (hb hby at_76) (by decide) (by decide) ?_
    show Steps p.tables e below (s₁.setTop (mkF m 87 #[.val (.long q1), .second, .val (.long q2), .second, .val (.int p3), .val (.int (p3 &&& (3 : Int32))), .val (.long mm), .second, .unset, .unset, .unset, .unset, .unset, .unset, .unset] [(.long (9223372036854775807 : Int64))])) _
    rw [show (9223372036854775807 : Int64) = own_span mm from (own_span_t mm hc70)]
    refine st1 _ ?_
    show Steps p.tables e below (T1.setTop (mkF m 152 Ls1 [(.int (1 : Int32))])) _
    exact retN X1 hx (t := .boolean) Bd.returns (by simp) (hb hby at_152) hr
  · show QL (.int (1 : Int32)) n0 _ T1.heap _
    exact ⟨rfl, N1, trivial⟩
set_option maxRecDepth 65536 in
set_option maxHeartbeats 40000000 in
theorem rm0_3 (l : Launch) (Z : State) (a0 : Array Value) (hw : ∀ d ∈ tables_1, d.before a0 Z = true) (ws : List Jvm.Cond) (q1 : Int64) (q2 : Int64) (p3 : Int32) (mm : Int64) (w_LM : Addr) (w_LC : Addr) (w_Z : Addr) (h0 : Heap) (n0 : Nat) (Z0 : n0 ≤ h0.size) (S_LM : Sta Z h0 "com/example/strict_lock/strictlock/Watcher" "LAST_MILLISECOND" "Ljava/time/Duration;" (.ref w_LM)) (E_w_LM : Exa Z h0 w_LM "java/time/Duration") (F_w_LMs : Fld Z h0 w_LM "java/time/Duration" "seconds" "J" (.long (0 : Int64))) (F_w_LMn : Fld Z h0 w_LM "java/time/Duration" "nanos" "I" (.int (1000000 : Int32))) (S_LC : Sta Z h0 "com/example/strict_lock/strictlock/Deadline" "LONGEST_COUNTABLE" "Ljava/time/Duration;" (.ref w_LC)) (E_w_LC : Exa Z h0 w_LC "java/time/Duration") (F_w_LCs : Fld Z h0 w_LC "java/time/Duration" "seconds" "J" (.long (9223372036 : Int64))) (F_w_LCn : Fld Z h0 w_LC "java/time/Duration" "nanos" "I" (.int (854775807 : Int32))) (S_Z : Sta Z h0 "java/time/Duration" "ZERO" "Ljava/time/Duration;" (.ref w_Z)) (E_Z : Exa Z h0 w_Z "java/time/Duration") (F_Zs : Fld Z h0 w_Z "java/time/Duration" "seconds" "J" (.long (0 : Int64))) (F_Zn : Fld Z h0 w_Z "java/time/Duration" "nanos" "I" (.int (0 : Int32))) (hm : ¬ mm < (0 : Int64)) (hm3 : ((9223372036852 : Int64) + (q2 &&& (3 : Int64))) = mm) (hs0 : ¬ (p3 &&& (3 : Int32)) = (0 : Int32)) (hs1 : ¬ (p3 &&& (3 : Int32)) = (1 : Int32)) (hs2 : ¬ (p3 &&& (3 : Int32)) = (2 : Int32)) :
    MetFree l x (head1 (Jvm.Cond.code x code maxLocals ret :: ws) room_1) (fun a U => a = #[(.long q1), (.long q2), (.int p3)] ∧ Z.Warmed39 U.vm ∧ U.heap = h0) (fun _ _ _ _ _ => True) (fun _ U o U' => ∃ v L, o = .returned v ∧ QL (.int (1 : Int32)) n0 v U'.heap L ∧ FrameEnd U o U' L room_1.cells room_1.slots) := by
  by_cases hc70 : (9223372036853 : Int64) < mm
  · exact rm0_3_f l Z a0 hw ws q1 q2 p3 mm w_LM w_LC w_Z h0 n0 Z0 S_LM E_w_LM F_w_LMs F_w_LMn S_LC E_w_LC F_w_LCs F_w_LCn S_Z E_Z F_Zs F_Zn hm hm3 hs0 hs1 hs2 hc70
  · exact rm0_3_t l Z a0 hw ws q1 q2 p3 mm w_LM w_LC w_Z h0 n0 Z0 S_LM E_w_LM F_w_LMs F_w_LMn S_LC E_w_LC F_w_LCs F_w_LCn S_Z E_Z F_Zs F_Zn hm hm3 hs0 hs1 hs2 hc70
set_option maxRecDepth 65536 in
set_option maxHeartbeats 40000000 in
theorem comes_1 {Post : Tables → Env → Array Value → State → Outcome → State → Prop} (hpost : ∀ tb e args s v u, (limb_1_1.after args s (.returned v) u = true ∧ limb_1_2.after args s (.returned v) u = true ∧ True) → FrameEnd s (.returned v) u (Jvm.fieldLocs frame_1_writes args s ++ Jvm.arrayLocs frame_1_arrays args s ++ Jvm.staticLocs frame_1_statics s) 16 128 → Post tb e args s (.returned v) u) :
    ArmFor flags0 classFile x code maxLocals ret World_1 tables_1 room_1 Calls_1 rest_1 Pre_1 Post := by
  intro l hfl _ _ p e ha hc hk s m args below hf hA hF happ hP
  obtain ⟨hcalls, hrest, hpre⟩ := hP
  obtain ⟨-, -, -, hnamed, -, -, -, hat⟩ := (Spec.applies_iff hf).mp happ
  obtain ⟨hg, hn⟩ := and_e (Cond.before_iff.mp (show (Jvm.Cond.and given_1 narrow_1).before args s = true from hpre))
  obtain ⟨hg0, hgr0⟩ := and_e hg
  obtain ⟨hg1, hgr1⟩ := and_e hgr0
  obtain ⟨hg2, hgr2⟩ := and_e hgr1
  have hg3 := hgr2
  obtain ⟨w0, w1, w2, rfl⟩ : ∃ w0 w1 w2 : Value, args = #[w0, w1, w2] := by
    have hs : args.size = 3 := by simpa [Cond.value, given_1] using hg0
    obtain ⟨L⟩ := args
    match L, hs with
    | [w0, w1, w2], _ => exact ⟨w0, w1, w2, rfl⟩
  have hw := fun d (hd : d ∈ tables_1) => atoms_spec (ws := Jvm.Cond.code x code maxLocals ret :: tables_1) hat d (List.mem_cons_of_mem _ hd)
  have hfit : Fit s := fun {y c} hc i hi => by
    obtain ⟨ha, rfl⟩ := Array.getElem?_eq_some_iff.mp hc
    have q := List.all_eq_true.mp ((Array.all_eq_true_iff_forall_mem.mp hF) _ (Array.getElem_mem ha)) i (List.mem_range.mpr hi)
    simpa [Array.getElem?_eq_getElem hi] using q
  obtain ⟨hsets, hown0⟩ := atoms_of _ (rest_1_c_eq ▸ (show rest_1_c.before _ s = true from hrest))
  obtain ⟨i0, ei0⟩ := isL_v hg1
  obtain rfl : w0 = (.long i0) := Option.some.inj ei0
  obtain ⟨i1, ei1⟩ := isL_v hg2
  obtain rfl : w1 = (.long i1) := Option.some.inj ei1
  obtain ⟨i2, ei2⟩ := is_v hg3
  obtain rfl : w2 = (.int i2) := Option.some.inj ei2
  obtain ⟨hn0, hnr0⟩ := and_e hn
  obtain ⟨hn1, hnr1⟩ := and_e hnr0
  obtain ⟨hn2, hnr2⟩ := and_e hnr1
  obtain ⟨hn3, hnr3⟩ := and_e hnr2
  obtain ⟨hn4, hnr4⟩ := and_e hnr3
  have hn5 := hnr4
  obtain ⟨w_LAST_MILLISECOND, ev_LAST_MILLISECOND⟩ := exa_v hn0
  have S_LAST_MILLISECOND := Sta.start ev_LAST_MILLISECOND (Or.inr ⟨(hw _ (List.mem_of_getElem? (i := 5) rfl)), (hw _ (List.mem_of_getElem? (i := 30) rfl))⟩)
  have E_LAST_MILLISECOND := Exa.start ev_LAST_MILLISECOND hn0
  obtain ⟨w_LONGEST_COUNTABLE, ev_LONGEST_COUNTABLE⟩ := exa_v hn3
  have S_LONGEST_COUNTABLE := Sta.start ev_LONGEST_COUNTABLE (Or.inr ⟨(hw _ (List.mem_of_getElem? (i := 67) rfl)), (hw _ (List.mem_of_getElem? (i := 70) rfl))⟩)
  have E_LONGEST_COUNTABLE := Exa.start ev_LONGEST_COUNTABLE hn3
  have F_LAST_MILLISECOND_seconds := own_fldJ ev_LAST_MILLISECOND hn1
  have F_LAST_MILLISECOND_nanos := own_fldI ev_LAST_MILLISECOND hn2
  have F_LONGEST_COUNTABLE_seconds := own_fldJ ev_LONGEST_COUNTABLE hn4
  have F_LONGEST_COUNTABLE_nanos := own_fldI ev_LONGEST_COUNTABLE hn5
  obtain ⟨w_Z, ev_Z⟩ := exa_v (Cond.before_iff.mp (hsets _ (List.mem_of_getElem? (i := 2) rfl)))
  have S_Z := Sta.start ev_Z (Or.inl (hsets _ (List.mem_of_getElem? (i := 1) rfl)))
  have E_Z := Exa.start ev_Z (Cond.before_iff.mp (hsets _ (List.mem_of_getElem? (i := 2) rfl)))
  have F_Zs := own_fldJ ev_Z (Cond.before_iff.mp (hsets _ (List.mem_of_getElem? (i := 3) rfl)))
  have F_Zn := own_fldI ev_Z (Cond.before_iff.mp (hsets _ (List.mem_of_getElem? (i := 4) rfl)))
  by_cases hs0 : (i2 &&& (3 : Int32)) = (0 : Int32)
  · obtain ⟨n, o, h1, h2, h3, _, L, rfl, ⟨rfl, N, -⟩, hq⟩ := rm0_0 l s _ hw tables_1 i0 i1 i2 _ w_LAST_MILLISECOND w_LONGEST_COUNTABLE w_Z s.heap s.heap.size (Nat.le_refl _) S_LAST_MILLISECOND E_LAST_MILLISECOND F_LAST_MILLISECOND_seconds F_LAST_MILLISECOND_nanos S_LONGEST_COUNTABLE E_LONGEST_COUNTABLE F_LONGEST_COUNTABLE_seconds F_LONGEST_COUNTABLE_nanos S_Z E_Z F_Zs F_Zn (own_m0 i1) rfl hs0 p e ha hc hk s m _ below hf ((Spec.applies_iff_loose hf).mp happ).1 ⟨rfl, State.Warmed39.refl s, rfl⟩ trivial
    exact ⟨n, _, h1, h2, h3, hpost _ _ _ _ _ _ ⟨Cond.after_iff.mpr rfl, Cond.after_iff.mpr (eq_i res_at (Term.int_eval (1)) rfl), trivial⟩ ⟨hq.1, hq.2.1, (hq.2.2.sift fun y hy => Or.inr (N y hy)).mono (by decide) (by decide)⟩⟩
  · by_cases hs1 : (i2 &&& (3 : Int32)) = (1 : Int32)
    · obtain ⟨n, o, h1, h2, h3, _, L, rfl, ⟨rfl, N, -⟩, hq⟩ := rm0_1 l s _ hw tables_1 i0 i1 i2 _ w_LAST_MILLISECOND w_LONGEST_COUNTABLE w_Z s.heap s.heap.size (Nat.le_refl _) S_LAST_MILLISECOND E_LAST_MILLISECOND F_LAST_MILLISECOND_seconds F_LAST_MILLISECOND_nanos S_LONGEST_COUNTABLE E_LONGEST_COUNTABLE F_LONGEST_COUNTABLE_seconds F_LONGEST_COUNTABLE_nanos S_Z E_Z F_Zs F_Zn (own_m1 i1) rfl hs0 hs1 p e ha hc hk s m _ below hf ((Spec.applies_iff_loose hf).mp happ).1 ⟨rfl, State.Warmed39.refl s, rfl⟩ trivial
      exact ⟨n, _, h1, h2, h3, hpost _ _ _ _ _ _ ⟨Cond.after_iff.mpr rfl, Cond.after_iff.mpr (eq_i res_at (Term.int_eval (1)) rfl), trivial⟩ ⟨hq.1, hq.2.1, (hq.2.2.sift fun y hy => Or.inr (N y hy)).mono (by decide) (by decide)⟩⟩
    · by_cases hs2 : (i2 &&& (3 : Int32)) = (2 : Int32)
      · obtain ⟨n, o, h1, h2, h3, _, L, rfl, ⟨rfl, N, -⟩, hq⟩ := rm0_2 l s _ hw tables_1 i0 i1 i2 _ w_LAST_MILLISECOND w_LONGEST_COUNTABLE w_Z s.heap s.heap.size (Nat.le_refl _) S_LAST_MILLISECOND E_LAST_MILLISECOND F_LAST_MILLISECOND_seconds F_LAST_MILLISECOND_nanos S_LONGEST_COUNTABLE E_LONGEST_COUNTABLE F_LONGEST_COUNTABLE_seconds F_LONGEST_COUNTABLE_nanos S_Z E_Z F_Zs F_Zn (own_m2 i1) rfl hs0 hs1 hs2 p e ha hc hk s m _ below hf ((Spec.applies_iff_loose hf).mp happ).1 ⟨rfl, State.Warmed39.refl s, rfl⟩ trivial
        exact ⟨n, _, h1, h2, h3, hpost _ _ _ _ _ _ ⟨Cond.after_iff.mpr rfl, Cond.after_iff.mpr (eq_i res_at (Term.int_eval (1)) rfl), trivial⟩ ⟨hq.1, hq.2.1, (hq.2.2.sift fun y hy => Or.inr (N y hy)).mono (by decide) (by decide)⟩⟩
      · obtain ⟨n, o, h1, h2, h3, _, L, rfl, ⟨rfl, N, -⟩, hq⟩ := rm0_3 l s _ hw tables_1 i0 i1 i2 _ w_LAST_MILLISECOND w_LONGEST_COUNTABLE w_Z s.heap s.heap.size (Nat.le_refl _) S_LAST_MILLISECOND E_LAST_MILLISECOND F_LAST_MILLISECOND_seconds F_LAST_MILLISECOND_nanos S_LONGEST_COUNTABLE E_LONGEST_COUNTABLE F_LONGEST_COUNTABLE_seconds F_LONGEST_COUNTABLE_nanos S_Z E_Z F_Zs F_Zn (own_m3 i1) rfl hs0 hs1 hs2 p e ha hc hk s m _ below hf ((Spec.applies_iff_loose hf).mp happ).1 ⟨rfl, State.Warmed39.refl s, rfl⟩ trivial
        exact ⟨n, _, h1, h2, h3, hpost _ _ _ _ _ _ ⟨Cond.after_iff.mpr rfl, Cond.after_iff.mpr (eq_i res_at (Term.int_eval (1)) rfl), trivial⟩ ⟨hq.1, hq.2.1, (hq.2.2.sift fun y hy => Or.inr (N y hy)).mono (by decide) (by decide)⟩⟩
theorem main_1_1 : Claimed_1_1 := comes_1 fun _ _ _ _ _ _ h hF => ⟨h.1, hF⟩
theorem main_1_2 : Claimed_1_2 := comes_1 fun _ _ _ _ _ _ h hF => ⟨h.2.1, hF⟩
end Jvm.Pilot.@@N@@
namespace Jvm.Pilot.@@N@@
open Jvm Jvm.ClassFile Sem Op Lib Jvm.Free Jvm.Stand Jvm.Pilot.@@N@@.Jvm.D
/-! MADE BY PROGRAM (witnessworld.py) out of the Statement's table words and the real class files: 18 classes; the members and pool entries that the words name. The judged class is class 1, her method 1. -/
namespace start1
open Jvm.ClassFile
def u (s : String) : CpInfo := .utf8 (stringToUtf16 s)
/-- a pool by its gaps: so many unusable entries, then the entry; so many at the end -/
def gap : Nat → List CpInfo → List CpInfo
  | 0, r => r
  | n + 1, r => .unusable :: gap n r
def poolList (es : List (Nat × CpInfo)) (last : Nat) : List CpInfo := es.foldr (fun e r => gap e.1 (e.2 :: r)) (gap last [])
def pool (es : List (Nat × CpInfo)) (last : Nat) : Array CpInfo := ⟨poolList es last⟩
def fileOf (pool : Array CpInfo) (this : Nat) (attrs : Array Attribute := #[]) (ms : Array MethodInfo := #[]) (fl : Nat := 33) (sup : Nat := 0) (ifs : Array Nat := #[]) (fds : Array FieldInfo := #[]) : ClassFile where
  minorVersion := 0
  majorVersion := 65
  constantPool := pool
  accessFlags := fl
  thisClass := this
  superClass := sup
  interfaces := ifs
  fields := fds
  methods := ms
  attributes := attrs
def plain (name : String) (sup : Option ClassId) : Class where
  name := name
  kind := .ordinary
  loader := none
  accessFlags := 33
  super := sup
  interfaces := #[]
  cf := none
  fields := #[]
  methods := #[]
  instanceTypes := #[]
  staticTypes := #[]
  resolved := #[]
  callSites := []
  init := .initialized
  statics := none
  mirror := none

def pool0 : Array CpInfo := pool [(5, u "<init>"), (0, u "()V"), (1, .class_ 10), (1, u "java/lang/Object")] 113

def k0c0 : Code := { maxStack := 0, maxLocals := 1, code := object_method_1_code, exceptionTable := #[], attributes := #[] }
def k0m0 : Method := { name := "<init>", desc := "()V", sig := { parameters := [], returnType := none }, accessFlags := 1, code := some k0c0 }
/-- java/lang/Object -/
def k0 : Class := { plain "java/lang/Object" none with
  accessFlags := 33
  interfaces := #[]
  cf := some (fileOf pool0 8 #[] #[{ accessFlags := 1, nameIndex := 5, descriptorIndex := 6, attributes := #[] }] 33 0 #[] #[])
  fields := #[]
  methods := #[k0m0]
  instanceTypes := #[]
  staticTypes := #[]
  resolved := Array.replicate 124 none
  statics := none }

def pool1 : Array CpInfo := pool [(2, .class_ 4), (1, u "java/lang/Object"), (0, u "<init>"), (0, u "()V"), (2, .long 9223372036854775807), (1, .long 17592186044415), (1, .long 16777215), (1, .long 9223372036852), (1, .long 3), (1, .class_ 20), (0, u "com/example/strict_lock/strictlock/WatcherEndOfKeyPinLaw"), (0, .long 9223372036853), (1, .long 1000000), (1, .methodref 26 27), (0, .class_ 28), (0, .nameAndType 29 30), (0, u "com/example/strict_lock/strictlock/Watcher"), (0, u "endOfKey"), (0, u "(JJ)Lcom/example/strict_lock/strictlock/Deadline;"), (0, .methodref 32 33), (0, .class_ 34), (0, .nameAndType 35 36), (0, u "com/example/strict_lock/strictlock/Deadline"), (0, u "remaining"), (0, u "(J)Ljava/time/Duration;"), (0, .methodref 38 39), (0, .class_ 40), (0, .nameAndType 41 42), (0, u "java/time/Duration"), (0, u "isZero"), (0, u "()Z"), (0, u "LAST_UNCAPPED"), (0, u "J"), (3, u "law"), (0, u "(JJI)Z")] 3

def k1m0 : Method := { name := "<init>", desc := "()V", sig := { parameters := [], returnType := none }, accessFlags := 1, code := none }
def k1c1 : Code := { maxStack := 6, maxLocals := 15, code := code, exceptionTable := #[], attributes := #[] }
def k1m1 : Method := { name := "law", desc := "(JJI)Z", sig := { parameters := [.long, .long, .int], returnType := some .boolean }, accessFlags := 9, code := some k1c1 }
/-- com/example/strict_lock/strictlock/WatcherEndOfKeyPinLaw -/
def k1 : Class := { plain "com/example/strict_lock/strictlock/WatcherEndOfKeyPinLaw" (some 0) with
  accessFlags := 49
  interfaces := #[]
  cf := some (fileOf pool1 19 #[] #[{ accessFlags := 1, nameIndex := 5, descriptorIndex := 6, attributes := #[] }, { accessFlags := 9, nameIndex := 48, descriptorIndex := 49, attributes := #[] }] 49 2 #[] #[{ accessFlags := 26, nameIndex := 43, descriptorIndex := 44, attributes := #[] }])
  fields := #[{ name := "LAST_UNCAPPED", type := .long, accessFlags := 26, slot := 0, constantValue := 0 }]
  methods := #[k1m0, k1m1]
  instanceTypes := #[]
  staticTypes := #[.long]
  resolved := Array.replicate 53 none
  statics := none }

def pool2 : Array CpInfo := pool [(2, .class_ 4), (1, u "java/lang/Object"), (6, .class_ 13), (1, u "com/example/strict_lock/strictlock/Watcher"), (0, u "perMaster"), (0, u "Ljava/util/List;"), (5, u "channels"), (0, u "Ljava/util/Map;"), (24, .class_ 48), (0, u "com/example/strict_lock/strictlock/Watcher$Master"), (13, u "quorum"), (2, u "I"), (0, .methodref 67 68), (0, .class_ 69), (0, .nameAndType 70 71), (0, u "java/time/Duration"), (0, u "ofMillis"), (0, u "(J)Ljava/time/Duration;"), (0, .fieldref 11 73), (0, .nameAndType 74 75), (0, u "LAST_MILLISECOND"), (0, u "Ljava/time/Duration;"), (0, .methodref 67 77), (0, .nameAndType 78 79), (0, u "plus"), (0, u "(Ljava/time/Duration;)Ljava/time/Duration;"), (0, .methodref 81 82), (0, .class_ 83), (0, .nameAndType 84 85), (0, u "com/example/strict_lock/strictlock/Deadline"), (0, u "after"), (0, u "(JLjava/time/Duration;)Lcom/example/strict_lock/strictlock/Deadline;"), (6, .class_ 93), (0, u "com/example/strict_lock/strictlock/Watcher$Channel"), (11, .class_ 106), (0, u "com/example/strict_lock/strictlock/Watcher$Watch"), (11, u "FIRST_RETRY_PAUSE"), (7, u "endOfKey"), (0, u "(JJ)Lcom/example/strict_lock/strictlock/Deadline;"), (10, .class_ 139), (0, u "com/example/strict_lock/strictlock/Watcher$Connection")] 5

def k2c0 : Code := { maxStack := 4, maxLocals := 4, code := prog_32_method_2_code, exceptionTable := #[], attributes := #[] }
def k2m0 : Method := { name := "endOfKey", desc := "(JJ)Lcom/example/strict_lock/strictlock/Deadline;", sig := { parameters := [.long, .long], returnType := some (.object "com/example/strict_lock/strictlock/Deadline") }, accessFlags := 8, code := some k2c0 }
/-- com/example/strict_lock/strictlock/Watcher -/
def k2 : Class := { plain "com/example/strict_lock/strictlock/Watcher" (some 0) with
  accessFlags := 48
  interfaces := #[]
  cf := some (fileOf pool2 11 #[.nestMembers #[138, 47, 92, 105]] #[{ accessFlags := 8, nameIndex := 126, descriptorIndex := 127, attributes := #[] }] 48 2 #[] #[{ accessFlags := 26, nameIndex := 118, descriptorIndex := 75, attributes := #[] }, { accessFlags := 26, nameIndex := 74, descriptorIndex := 75, attributes := #[] }, { accessFlags := 18, nameIndex := 14, descriptorIndex := 15, attributes := #[] }, { accessFlags := 18, nameIndex := 62, descriptorIndex := 65, attributes := #[] }, { accessFlags := 18, nameIndex := 21, descriptorIndex := 22, attributes := #[] }])
  fields := #[{ name := "FIRST_RETRY_PAUSE", type := (.object "java/time/Duration"), accessFlags := 26, slot := 0, constantValue := 0 }, { name := "LAST_MILLISECOND", type := (.object "java/time/Duration"), accessFlags := 26, slot := 1, constantValue := 0 }, { name := "perMaster", type := (.object "java/util/List"), accessFlags := 18, slot := 0, constantValue := 0 }, { name := "quorum", type := .int, accessFlags := 18, slot := 1, constantValue := 0 }, { name := "channels", type := (.object "java/util/Map"), accessFlags := 18, slot := 2, constantValue := 0 }]
  methods := #[k2m0]
  instanceTypes := #[(.object "java/util/List"), .int, (.object "java/util/Map")]
  staticTypes := #[(.object "java/time/Duration"), (.object "java/time/Duration")]
  resolved := Array.replicate 145 none
  statics := some 0 }

def pool3 : Array CpInfo := pool [(1, .class_ 2), (0, u "java/time/temporal/TemporalAmount"), (0, .class_ 4), (0, u "java/lang/Object")] 11

/-- java/time/temporal/TemporalAmount -/
def k3 : Class := { plain "java/time/temporal/TemporalAmount" (some 0) with
  accessFlags := 1537
  interfaces := #[]
  cf := some (fileOf pool3 1 #[] #[] 1537 3 #[] #[])
  fields := #[]
  methods := #[]
  instanceTypes := #[]
  staticTypes := #[]
  resolved := Array.replicate 16 none
  statics := none }

def pool4 : Array CpInfo := pool [(1, .class_ 2), (0, u "java/lang/Comparable"), (0, .class_ 4), (0, u "java/lang/Object")] 7

/-- java/lang/Comparable -/
def k4 : Class := { plain "java/lang/Comparable" (some 0) with
  accessFlags := 1537
  interfaces := #[]
  cf := some (fileOf pool4 1 #[] #[] 1537 3 #[] #[])
  fields := #[]
  methods := #[]
  instanceTypes := #[]
  staticTypes := #[]
  resolved := Array.replicate 12 none
  statics := none }

def pool5 : Array CpInfo := pool [(1, .class_ 2), (0, u "java/io/Serializable"), (0, .class_ 4), (0, u "java/lang/Object")] 2

/-- java/io/Serializable -/
def k5 : Class := { plain "java/io/Serializable" (some 0) with
  accessFlags := 1537
  interfaces := #[]
  cf := some (fileOf pool5 1 #[] #[] 1537 3 #[] #[])
  fields := #[]
  methods := #[]
  instanceTypes := #[]
  staticTypes := #[]
  resolved := Array.replicate 7 none
  statics := none }

def pool6 : Array CpInfo := pool [(5, .class_ 7), (1, u "java/lang/Math"), (0, u "multiplyExact"), (1, .methodref 11 12), (0, .class_ 13), (0, .nameAndType 14 15), (0, u "java/time/Duration"), (0, u "create"), (0, u "(JI)Ljava/time/Duration;"), (0, .long 1000000000), (1, .methodref 5 19), (0, .nameAndType 20 21), (0, u "floorDiv"), (0, u "(JJ)J"), (0, .methodref 5 23), (0, .nameAndType 24 21), (0, u "addExact"), (0, .methodref 5 26), (0, .nameAndType 27 21), (0, u "floorMod"), (0, .long 1000), (1, .integer 1000000), (1, .fieldref 11 33), (0, .nameAndType 34 35), (0, u "ZERO"), (0, u "Ljava/time/Duration;"), (2, u "plus"), (10, .class_ 51), (1, u "java/time/temporal/TemporalAmount"), (13, u "()Z"), (13, .class_ 81), (1, u "java/time/Duration$Lazy"), (35, u "seconds"), (21, u "<init>"), (7, .class_ 149), (1, u "java/lang/Long"), (7, .nameAndType 139 158), (0, u "()V"), (17, .methodref 11 177), (0, .nameAndType 178 179), (0, u "ofSeconds"), (0, u "(JJ)Ljava/time/Duration;"), (18, u "ofNanos"), (0, u "(J)Ljava/time/Duration;"), (15, .methodref 11 216), (0, .nameAndType 139 217), (0, u "(JI)V"), (0, .methodref 219 157), (0, .class_ 220), (0, u "java/lang/Object"), (0, .fieldref 11 222), (0, .nameAndType 117 223), (0, u "J"), (0, .fieldref 11 225), (0, .nameAndType 226 227), (0, u "nanos"), (0, u "I"), (11, .class_ 241), (1, u "java/time/Duration$DurationUnits"), (6, .methodref 11 249), (0, .nameAndType 250 251), (0, u "getSeconds"), (0, u "()J"), (0, .methodref 11 253), (0, .nameAndType 254 255), (0, u "getNano"), (0, u "()I"), (0, .methodref 11 257), (0, .nameAndType 38 179), (11, .class_ 271), (1, u "java/time/Duration$1"), (17, .methodref 5 290), (0, .nameAndType 8 21), (72, u "BI_NANOS_PER_SECOND"), (0, u "Ljava/math/BigInteger;"), (46, u "toNanos"), (4, .methodref 147 417), (0, .nameAndType 418 419), (0, u "compare"), (0, u "(JJ)I"), (60, u "compareTo"), (0, u "(Ljava/time/Duration;)I"), (3, .class_ 486), (0, u "java/lang/Comparable"), (0, .class_ 488), (0, u "java/io/Serializable"), (0, u "serialVersionUID"), (12, u "ofMillis"), (53, u "isZero"), (4, u "(Ljava/time/Duration;)Ljava/time/Duration;")] 94

def k6c0 : Code := { maxStack := 6, maxLocals := 7, code := jdk_2316_method_5_code, exceptionTable := #[], attributes := #[] }
def k6m0 : Method := { name := "ofSeconds", desc := "(JJ)Ljava/time/Duration;", sig := { parameters := [.long, .long], returnType := some (.object "java/time/Duration") }, accessFlags := 9, code := some k6c0 }
def k6c1 : Code := { maxStack := 4, maxLocals := 5, code := jdk_2316_method_6_code, exceptionTable := #[], attributes := #[] }
def k6m1 : Method := { name := "ofMillis", desc := "(J)Ljava/time/Duration;", sig := { parameters := [.long], returnType := some (.object "java/time/Duration") }, accessFlags := 9, code := some k6c1 }
def k6c2 : Code := { maxStack := 4, maxLocals := 5, code := jdk_2316_method_7_code, exceptionTable := #[], attributes := #[] }
def k6m2 : Method := { name := "ofNanos", desc := "(J)Ljava/time/Duration;", sig := { parameters := [.long], returnType := some (.object "java/time/Duration") }, accessFlags := 9, code := some k6c2 }
def k6c3 : Code := { maxStack := 5, maxLocals := 3, code := jdk_2316_method_16_code, exceptionTable := #[], attributes := #[] }
def k6m3 : Method := { name := "create", desc := "(JI)Ljava/time/Duration;", sig := { parameters := [.long, .int], returnType := some (.object "java/time/Duration") }, accessFlags := 10, code := some k6c3 }
def k6c4 : Code := { maxStack := 3, maxLocals := 4, code := jdk_2316_method_17_code, exceptionTable := #[], attributes := #[] }
def k6m4 : Method := { name := "<init>", desc := "(JI)V", sig := { parameters := [.long, .int], returnType := none }, accessFlags := 2, code := some k6c4 }
def k6c5 : Code := { maxStack := 4, maxLocals := 1, code := jdk_2316_method_21_code, exceptionTable := #[], attributes := #[] }
def k6m5 : Method := { name := "isZero", desc := "()Z", sig := { parameters := [], returnType := some .boolean }, accessFlags := 1, code := some k6c5 }
def k6c6 : Code := { maxStack := 2, maxLocals := 1, code := jdk_2316_method_23_code, exceptionTable := #[], attributes := #[] }
def k6m6 : Method := { name := "getSeconds", desc := "()J", sig := { parameters := [], returnType := some .long }, accessFlags := 1, code := some k6c6 }
def k6c7 : Code := { maxStack := 1, maxLocals := 1, code := jdk_2316_method_24_code, exceptionTable := #[], attributes := #[] }
def k6m7 : Method := { name := "getNano", desc := "()I", sig := { parameters := [], returnType := some .int }, accessFlags := 1, code := some k6c7 }
def k6c8 : Code := { maxStack := 5, maxLocals := 2, code := jdk_2316_method_27_code, exceptionTable := #[], attributes := #[] }
def k6m8 : Method := { name := "plus", desc := "(Ljava/time/Duration;)Ljava/time/Duration;", sig := { parameters := [(.object "java/time/Duration")], returnType := some (.object "java/time/Duration") }, accessFlags := 1, code := some k6c8 }
def k6c9 : Code := { maxStack := 6, maxLocals := 9, code := jdk_2316_method_35_code, exceptionTable := #[], attributes := #[] }
def k6m9 : Method := { name := "plus", desc := "(JJ)Ljava/time/Duration;", sig := { parameters := [.long, .long], returnType := some (.object "java/time/Duration") }, accessFlags := 2, code := some k6c9 }
def k6c10 : Code := { maxStack := 4, maxLocals := 7, code := jdk_2316_method_58_code, exceptionTable := #[], attributes := #[] }
def k6m10 : Method := { name := "toNanos", desc := "()J", sig := { parameters := [], returnType := some .long }, accessFlags := 1, code := some k6c10 }
def k6c11 : Code := { maxStack := 4, maxLocals := 3, code := jdk_2316_method_66_code, exceptionTable := #[], attributes := #[] }
def k6m11 : Method := { name := "compareTo", desc := "(Ljava/time/Duration;)I", sig := { parameters := [(.object "java/time/Duration")], returnType := some .int }, accessFlags := 1, code := some k6c11 }
/-- java/time/Duration -/
def k6 : Class := { plain "java/time/Duration" (some 0) with
  accessFlags := 49
  interfaces := #[3, 4, 5]
  cf := some (fileOf pool6 11 #[.nestMembers #[269, 239, 79]] #[{ accessFlags := 9, nameIndex := 178, descriptorIndex := 179, attributes := #[] }, { accessFlags := 9, nameIndex := 502, descriptorIndex := 199, attributes := #[] }, { accessFlags := 9, nameIndex := 198, descriptorIndex := 199, attributes := #[] }, { accessFlags := 10, nameIndex := 14, descriptorIndex := 15, attributes := #[] }, { accessFlags := 2, nameIndex := 139, descriptorIndex := 217, attributes := #[] }, { accessFlags := 1, nameIndex := 556, descriptorIndex := 65, attributes := #[] }, { accessFlags := 1, nameIndex := 250, descriptorIndex := 251, attributes := #[] }, { accessFlags := 1, nameIndex := 254, descriptorIndex := 255, attributes := #[] }, { accessFlags := 1, nameIndex := 38, descriptorIndex := 561, attributes := #[] }, { accessFlags := 2, nameIndex := 38, descriptorIndex := 179, attributes := #[] }, { accessFlags := 1, nameIndex := 411, descriptorIndex := 251, attributes := #[] }, { accessFlags := 1, nameIndex := 480, descriptorIndex := 481, attributes := #[] }] 49 219 #[49, 485, 487] #[{ accessFlags := 25, nameIndex := 34, descriptorIndex := 35, attributes := #[] }, { accessFlags := 26, nameIndex := 489, descriptorIndex := 223, attributes := #[] }, { accessFlags := 26, nameIndex := 363, descriptorIndex := 364, attributes := #[] }, { accessFlags := 18, nameIndex := 117, descriptorIndex := 223, attributes := #[] }, { accessFlags := 18, nameIndex := 226, descriptorIndex := 227, attributes := #[] }])
  fields := #[{ name := "ZERO", type := (.object "java/time/Duration"), accessFlags := 25, slot := 0, constantValue := 0 }, { name := "serialVersionUID", type := .long, accessFlags := 26, slot := 1, constantValue := 0 }, { name := "BI_NANOS_PER_SECOND", type := (.object "java/math/BigInteger"), accessFlags := 26, slot := 2, constantValue := 0 }, { name := "seconds", type := .long, accessFlags := 18, slot := 0, constantValue := 0 }, { name := "nanos", type := .int, accessFlags := 18, slot := 1, constantValue := 0 }]
  methods := #[k6m0, k6m1, k6m2, k6m3, k6m4, k6m5, k6m6, k6m7, k6m8, k6m9, k6m10, k6m11]
  instanceTypes := #[.long, .int]
  staticTypes := #[(.object "java/time/Duration"), .long, (.object "java/math/BigInteger")]
  resolved := Array.replicate 656 none
  statics := some 1 }

def pool7 : Array CpInfo := pool [(1, .class_ 2), (0, u "java/lang/Math"), (1, .class_ 6), (1, u "java/lang/Object"), (0, u "<init>"), (0, u "()V"), (89, .class_ 100), (1, u "java/lang/Math$RandomNumberGeneratorHolder"), (19, u "multiplyExact"), (0, u "(JJ)J"), (0, .methodref 1 123), (0, .nameAndType 124 125), (0, u "abs"), (0, u "(J)J"), (2, .long 9223372036854775808), (16, u "floorDiv"), (2, u "floorMod"), (23, u "negativeZeroFloatBits"), (0, u "J"), (2, u "negativeZeroDoubleBits"), (68, u "$assertionsDisabled"), (0, u "Z"), (91, u "twoToTheDoubleScaleDown"), (0, u "D"), (4, u "twoToTheDoubleScaleUp"), (9, u "E"), (3, u "PI"), (2, u "TAU"), (2, u "DEGREES_TO_RADIANS"), (0, u "RADIANS_TO_DEGREES"), (27, u "addExact")] 66

def k7m0 : Method := { name := "<init>", desc := "()V", sig := { parameters := [], returnType := none }, accessFlags := 2, code := none }
def k7c1 : Code := { maxStack := 6, maxLocals := 6, code := jdk_29_method_25_code, exceptionTable := #[], attributes := #[] }
def k7m1 : Method := { name := "addExact", desc := "(JJ)J", sig := { parameters := [.long, .long], returnType := some .long }, accessFlags := 9, code := some k7c1 }
def k7c2 : Code := { maxStack := 4, maxLocals := 10, code := jdk_29_method_30_code, exceptionTable := #[], attributes := #[] }
def k7m2 : Method := { name := "multiplyExact", desc := "(JJ)J", sig := { parameters := [.long, .long], returnType := some .long }, accessFlags := 9, code := some k7c2 }
def k7c3 : Code := { maxStack := 4, maxLocals := 6, code := jdk_29_method_49_code, exceptionTable := #[], attributes := #[] }
def k7m3 : Method := { name := "floorDiv", desc := "(JJ)J", sig := { parameters := [.long, .long], returnType := some .long }, accessFlags := 9, code := some k7c3 }
def k7c4 : Code := { maxStack := 4, maxLocals := 6, code := jdk_29_method_52_code, exceptionTable := #[], attributes := #[] }
def k7m4 : Method := { name := "floorMod", desc := "(JJ)J", sig := { parameters := [.long, .long], returnType := some .long }, accessFlags := 9, code := some k7c4 }
def k7c5 : Code := { maxStack := 4, maxLocals := 2, code := jdk_29_method_61_code, exceptionTable := #[], attributes := #[] }
def k7m5 : Method := { name := "abs", desc := "(J)J", sig := { parameters := [.long], returnType := some .long }, accessFlags := 9, code := some k7c5 }
/-- java/lang/Math -/
def k7 : Class := { plain "java/lang/Math" (some 0) with
  accessFlags := 49
  interfaces := #[]
  cf := some (fileOf pool7 1 #[.nestMembers #[98]] #[{ accessFlags := 2, nameIndex := 7, descriptorIndex := 8, attributes := #[] }, { accessFlags := 9, nameIndex := 393, descriptorIndex := 121, attributes := #[] }, { accessFlags := 9, nameIndex := 120, descriptorIndex := 121, attributes := #[] }, { accessFlags := 9, nameIndex := 145, descriptorIndex := 121, attributes := #[] }, { accessFlags := 9, nameIndex := 148, descriptorIndex := 121, attributes := #[] }, { accessFlags := 9, nameIndex := 124, descriptorIndex := 125, attributes := #[] }] 49 4 #[] #[{ accessFlags := 25, nameIndex := 354, descriptorIndex := 339, attributes := #[] }, { accessFlags := 25, nameIndex := 358, descriptorIndex := 339, attributes := #[] }, { accessFlags := 25, nameIndex := 361, descriptorIndex := 339, attributes := #[] }, { accessFlags := 26, nameIndex := 364, descriptorIndex := 339, attributes := #[] }, { accessFlags := 26, nameIndex := 365, descriptorIndex := 339, attributes := #[] }, { accessFlags := 26, nameIndex := 172, descriptorIndex := 173, attributes := #[] }, { accessFlags := 26, nameIndex := 176, descriptorIndex := 173, attributes := #[] }, { accessFlags := 8, nameIndex := 344, descriptorIndex := 339, attributes := #[] }, { accessFlags := 8, nameIndex := 338, descriptorIndex := 339, attributes := #[] }, { accessFlags := 4120, nameIndex := 245, descriptorIndex := 246, attributes := #[] }])
  fields := #[{ name := "E", type := .double, accessFlags := 25, slot := 0, constantValue := 0 }, { name := "PI", type := .double, accessFlags := 25, slot := 1, constantValue := 0 }, { name := "TAU", type := .double, accessFlags := 25, slot := 2, constantValue := 0 }, { name := "DEGREES_TO_RADIANS", type := .double, accessFlags := 26, slot := 3, constantValue := 0 }, { name := "RADIANS_TO_DEGREES", type := .double, accessFlags := 26, slot := 4, constantValue := 0 }, { name := "negativeZeroFloatBits", type := .long, accessFlags := 26, slot := 5, constantValue := 0 }, { name := "negativeZeroDoubleBits", type := .long, accessFlags := 26, slot := 6, constantValue := 0 }, { name := "twoToTheDoubleScaleUp", type := .double, accessFlags := 8, slot := 7, constantValue := 0 }, { name := "twoToTheDoubleScaleDown", type := .double, accessFlags := 8, slot := 8, constantValue := 0 }, { name := "$assertionsDisabled", type := .boolean, accessFlags := 4120, slot := 9, constantValue := 0 }]
  methods := #[k7m0, k7m1, k7m2, k7m3, k7m4, k7m5]
  instanceTypes := #[]
  staticTypes := #[.double, .double, .double, .double, .double, .long, .long, .double, .double, .boolean]
  resolved := Array.replicate 460 none
  statics := none }

def pool8 : Array CpInfo := pool [(1, .methodref 2 3), (0, .class_ 4), (0, .nameAndType 5 6), (0, u "java/lang/Object"), (0, u "<init>"), (0, u "()V"), (0, .fieldref 8 9), (0, .class_ 10), (0, .nameAndType 11 12), (0, u "com/example/strict_lock/strictlock/Deadline"), (0, u "nanos"), (0, u "J"), (0, .fieldref 8 14), (0, .nameAndType 15 16), (0, u "LONGEST_COUNTABLE"), (0, u "Ljava/time/Duration;"), (0, .methodref 18 19), (0, .class_ 20), (0, .nameAndType 21 22), (0, u "java/time/Duration"), (0, u "compareTo"), (0, u "(Ljava/time/Duration;)I"), (2, .long 9223372036854775807), (1, .methodref 18 28), (0, .nameAndType 29 30), (0, u "toNanos"), (0, u "()J"), (0, .methodref 8 32), (0, .nameAndType 5 33), (0, u "(J)V"), (3, u "(J)Ljava/time/Duration;"), (5, u "after"), (0, u "(JLjava/time/Duration;)Lcom/example/strict_lock/strictlock/Deadline;"), (0, .methodref 18 46), (0, .nameAndType 47 37), (0, u "ofNanos"), (0, .fieldref 18 49), (0, .nameAndType 50 16), (0, u "ZERO"), (4, u "remaining")] 3

def k8c0 : Code := { maxStack := 3, maxLocals := 3, code := prog_3_method_1_code, exceptionTable := #[], attributes := #[] }
def k8m0 : Method := { name := "<init>", desc := "(J)V", sig := { parameters := [.long], returnType := none }, accessFlags := 2, code := some k8c0 }
def k8c1 : Code := { maxStack := 6, maxLocals := 5, code := prog_3_method_2_code, exceptionTable := #[], attributes := #[] }
def k8m1 : Method := { name := "after", desc := "(JLjava/time/Duration;)Lcom/example/strict_lock/strictlock/Deadline;", sig := { parameters := [.long, (.object "java/time/Duration")], returnType := some (.object "com/example/strict_lock/strictlock/Deadline") }, accessFlags := 8, code := some k8c1 }
def k8c2 : Code := { maxStack := 4, maxLocals := 5, code := prog_3_method_4_code, exceptionTable := #[], attributes := #[] }
def k8m2 : Method := { name := "remaining", desc := "(J)Ljava/time/Duration;", sig := { parameters := [.long], returnType := some (.object "java/time/Duration") }, accessFlags := 0, code := some k8c2 }
/-- com/example/strict_lock/strictlock/Deadline -/
def k8 : Class := { plain "com/example/strict_lock/strictlock/Deadline" (some 0) with
  accessFlags := 48
  interfaces := #[]
  cf := some (fileOf pool8 8 #[] #[{ accessFlags := 2, nameIndex := 5, descriptorIndex := 33, attributes := #[] }, { accessFlags := 8, nameIndex := 43, descriptorIndex := 44, attributes := #[] }, { accessFlags := 0, nameIndex := 55, descriptorIndex := 37, attributes := #[] }] 48 2 #[] #[{ accessFlags := 26, nameIndex := 15, descriptorIndex := 16, attributes := #[] }, { accessFlags := 18, nameIndex := 11, descriptorIndex := 12, attributes := #[] }])
  fields := #[{ name := "LONGEST_COUNTABLE", type := (.object "java/time/Duration"), accessFlags := 26, slot := 0, constantValue := 0 }, { name := "nanos", type := .long, accessFlags := 18, slot := 0, constantValue := 0 }]
  methods := #[k8m0, k8m1, k8m2]
  instanceTypes := #[.long]
  staticTypes := #[(.object "java/time/Duration")]
  resolved := Array.replicate 59 none
  statics := some 2 }

def pool9 : Array CpInfo := pool [(2, .class_ 4), (1, u "java/lang/Object"), (0, u "<init>"), (0, u "()V"), (1, .class_ 10), (1, u "java/lang/Number"), (2, .class_ 14), (0, u "java/io/Serializable"), (0, u "serialVersionUID"), (0, u "J")] 20

def k9m0 : Method := { name := "<init>", desc := "()V", sig := { parameters := [], returnType := none }, accessFlags := 1, code := none }
/-- java/lang/Number -/
def k9 : Class := { plain "java/lang/Number" (some 0) with
  accessFlags := 1057
  interfaces := #[5]
  cf := some (fileOf pool9 8 #[] #[{ accessFlags := 1, nameIndex := 5, descriptorIndex := 6, attributes := #[] }] 1057 2 #[13] #[{ accessFlags := 26, nameIndex := 15, descriptorIndex := 16, attributes := #[] }])
  fields := #[{ name := "serialVersionUID", type := .long, accessFlags := 26, slot := 0, constantValue := 0 }]
  methods := #[k9m0]
  instanceTypes := #[]
  staticTypes := #[.long]
  resolved := Array.replicate 37 none
  statics := none }

def pool10 : Array CpInfo := pool [(1, .class_ 2), (0, u "java/lang/constant/Constable"), (0, .class_ 4), (0, u "java/lang/Object")] 6

/-- java/lang/constant/Constable -/
def k10 : Class := { plain "java/lang/constant/Constable" (some 0) with
  accessFlags := 1537
  interfaces := #[]
  cf := some (fileOf pool10 1 #[] #[] 1537 3 #[] #[])
  fields := #[]
  methods := #[]
  instanceTypes := #[]
  staticTypes := #[]
  resolved := Array.replicate 11 none
  statics := none }

def pool11 : Array CpInfo := pool [(1, .class_ 2), (0, u "java/lang/constant/ConstantDesc"), (0, .class_ 4), (0, u "java/lang/Object")] 32

/-- java/lang/constant/ConstantDesc -/
def k11 : Class := { plain "java/lang/constant/ConstantDesc" (some 0) with
  accessFlags := 1537
  interfaces := #[]
  cf := some (fileOf pool11 1 #[] #[] 1537 3 #[] #[])
  fields := #[]
  methods := #[]
  instanceTypes := #[]
  staticTypes := #[]
  resolved := Array.replicate 37 none
  statics := none }

def pool12 : Array CpInfo := pool [(1, .class_ 2), (0, u "java/lang/Long"), (232, .class_ 237), (1, u "java/lang/Long$LongCache"), (33, .class_ 272), (0, u "java/lang/Number"), (2, u "value"), (0, u "J"), (27, u "compare"), (0, u "(JJ)I"), (55, u "TYPE"), (0, u "Ljava/lang/Class;"), (0, .class_ 364), (0, u "java/lang/Comparable"), (0, .class_ 366), (0, u "java/lang/constant/Constable"), (0, .class_ 368), (0, u "java/lang/constant/ConstantDesc"), (0, u "MIN_VALUE"), (1, u "MAX_VALUE"), (4, u "SIZE"), (0, u "I"), (1, u "BYTES"), (1, u "serialVersionUID")] 142

def k12c0 : Code := { maxStack := 4, maxLocals := 4, code := jdk_35_method_42_code, exceptionTable := #[], attributes := #[] }
def k12m0 : Method := { name := "compare", desc := "(JJ)I", sig := { parameters := [.long, .long], returnType := some .int }, accessFlags := 9, code := some k12c0 }
/-- java/lang/Long -/
def k12 : Class := { plain "java/lang/Long" (some 9) with
  accessFlags := 49
  interfaces := #[4, 10, 11]
  cf := some (fileOf pool12 1 #[.nestMembers #[235]] #[{ accessFlags := 9, nameIndex := 304, descriptorIndex := 305, attributes := #[] }] 49 271 #[363, 365, 367] #[{ accessFlags := 25, nameIndex := 369, descriptorIndex := 276, attributes := #[] }, { accessFlags := 25, nameIndex := 371, descriptorIndex := 276, attributes := #[] }, { accessFlags := 25, nameIndex := 361, descriptorIndex := 362, attributes := #[] }, { accessFlags := 18, nameIndex := 275, descriptorIndex := 276, attributes := #[] }, { accessFlags := 25, nameIndex := 376, descriptorIndex := 377, attributes := #[] }, { accessFlags := 25, nameIndex := 379, descriptorIndex := 377, attributes := #[] }, { accessFlags := 26, nameIndex := 381, descriptorIndex := 276, attributes := #[] }])
  fields := #[{ name := "MIN_VALUE", type := .long, accessFlags := 25, slot := 0, constantValue := 0 }, { name := "MAX_VALUE", type := .long, accessFlags := 25, slot := 1, constantValue := 0 }, { name := "TYPE", type := (.object "java/lang/Class"), accessFlags := 25, slot := 2, constantValue := 0 }, { name := "value", type := .long, accessFlags := 18, slot := 0, constantValue := 0 }, { name := "SIZE", type := .int, accessFlags := 25, slot := 3, constantValue := 0 }, { name := "BYTES", type := .int, accessFlags := 25, slot := 4, constantValue := 0 }, { name := "serialVersionUID", type := .long, accessFlags := 26, slot := 5, constantValue := 0 }]
  methods := #[k12m0]
  instanceTypes := #[.long]
  staticTypes := #[.long, .long, (.object "java/lang/Class"), .int, .int, .long]
  resolved := Array.replicate 524 none
  statics := none }

def pool13 : Array CpInfo := pool [(1, u "java/lang/Cloneable"), (0, .class_ 1), (0, u "java/lang/Object"), (0, .class_ 3)] 3

/-- java/lang/Cloneable -/
def k13 : Class := { plain "java/lang/Cloneable" (some 0) with
  accessFlags := 1537
  interfaces := #[]
  cf := some (fileOf pool13 2 #[] #[] 1537 4 #[] #[])
  fields := #[]
  methods := #[]
  instanceTypes := #[]
  staticTypes := #[]
  resolved := Array.replicate 8 none
  statics := none }

/-- the primitive byte -/
def k14 : Class := { plain "byte" none with kind := .primitive 'B', accessFlags := 0x411 }
/-- [B -/
def k15 : Class := { plain "[B" (some 0) with kind := .array 14 .byte, interfaces := #[13, 5], accessFlags := 1041 }

/-- the primitive int -/
def k16 : Class := { plain "int" none with kind := .primitive 'I', accessFlags := 0x411 }
/-- [I -/
def k17 : Class := { plain "[I" (some 0) with kind := .array 16 .int, interfaces := #[13, 5], accessFlags := 1041 }

def heap : Heap := #[{ cls := 2, slots := #[.null, .ref 3], vm := .statics 2 },
  { cls := 6, slots := #[.ref 5, .long 0, .null], vm := .statics 6 },
  { cls := 8, slots := #[.ref 4], vm := .statics 8 },
  { cls := 6, slots := #[.long 0, .int 1000000], vm := .none },
  { cls := 6, slots := #[.long 9223372036, .int 854775807], vm := .none },
  { cls := 6, slots := #[.long 0, .int 0], vm := .none }]
def classes : Array Class := #[k0, k1, k2, k3, k4, k5, k6, k7, k8, k9, k10, k11, k12, k13, k14, k15, k16, k17]
def interned : List (Array UInt16 × Addr) := []
def slotsUsed : Nat := 12
def theMethod : MethodId := ⟨1, 1⟩
def args0 : Array Value := #[.long 5, .long 6, .int 1]
def aboutOver (below : List Frame) : State where
  vm := { classes := classes, interned := interned.toArray }
  heap := heap
  slotsUsed := slotsUsed
  threads := #[{ frames := .invoking theMethod args0 :: below }]
def below0 : List Frame := [.native { method := ⟨0, 0⟩, args := #[] }]
def about1 : State := aboutOver below0
def p0 : Program := .bare "" "" ""
def e0 : Env := launch0.env 0 0 0
theorem w_frames : about1.frames = Frame.invoking theMethod args0 :: below0 := rfl
set_option maxRecDepth 65536 in
theorem w_args : argsFit about1.vm theMethod args0 = true := by decide +kernel
set_option maxRecDepth 65536 in
theorem w_heap : heapFits about1 = true := by decide +kernel
set_option maxRecDepth 65536 in
theorem w_runnable : about1.curStatus? = some .runnable := by decide +kernel
set_option maxRecDepth 65536 in
theorem w_alone : about1.alone = true := by decide +kernel
set_option maxRecDepth 65536 in
theorem w_named : about1.methodNamed? x = some theMethod := by decide +kernel
set_option maxRecDepth 65536 in
theorem w_hears : about1.hears theMethod below0 = true := by decide +kernel
set_option maxRecDepth 65536 in
theorem w_ripe : about1.ripe theMethod args0 below0 = true := by decide +kernel
theorem w_running : about1.status = .running := rfl
set_option maxRecDepth 65536 in
theorem w_room : about1.hasRoom e0.platform room_1 = true :=
  launch0.hasRoom_least _ room_1 (by decide +kernel) (by decide +kernel) (by decide +kernel) (by decide +kernel) (by decide +kernel) (by decide +kernel)
theorem allAtoms_all (ts : List Jvm.Cond) (a : Array Jvm.Value) (st : Jvm.State) : (allAtoms ts).before a st = ts.all (fun c => c.before a st) := by
  induction ts with
  | nil => rfl
  | cons c t ih =>
    show (Jvm.Cond.and c (allAtoms t)).before a st = _
    rw [Jvm.Cond.before_and, ih, List.all_cons]
def words1 : List Jvm.Cond := Jvm.Cond.code x code maxLocals ret :: tables_1
/-- a 'code' word, met by the world's own term for the bytes: nothing is compared byte by byte -/
theorem code_word {y : MethodName} {bytes : ByteArray} {mx : Nat} {rt : Option FieldType} {a : Array Value} {s : State} {m : MethodId} {meth : Method} {c : Code} (h1 : s.methodNamed? y = some m) (h2 : s.vm.method? m = some meth) (h3 : meth.code = some c) (h4 : c.code = bytes)
    (h5 : (c.maxLocals == mx && c.exceptionTable.isEmpty && decide (c.maxStack ≤ mostOperands) && decide (meth.sig.returnType = rt) && !meth.locks && decide (parseMethodDescriptor y.desc = some meth.sig)) = true) : (Jvm.Cond.code y bytes mx rt).before a s = true := by
  simp only [Bool.and_eq_true, beq_iff_eq, Bool.not_eq_true', decide_eq_true_eq] at h5
  obtain ⟨⟨⟨⟨⟨g1, g2⟩, g3⟩, g4⟩, g5⟩, g6⟩ := h5
  simp [Cond.before, Cond.holds, Cond.value, h1, h2, h3, h4, g1, g2, g3, g4, g5, g6]
def isCode : Jvm.Cond → Bool
  | .code _ _ _ _ => true
  | _ => false
theorem all_split {L : List Jvm.Cond} {P : Jvm.Cond → Bool} (h1 : L.all (fun c => isCode c || P c) = true) (h2 : ∀ c ∈ L.filter isCode, P c = true) : L.all P = true := by
  refine List.all_eq_true.mpr fun c hc => ?_
  have h := List.all_eq_true.mp h1 c hc
  rcases Bool.eq_false_or_eq_true (isCode c) with hi | hi
  · exact h2 c (List.mem_filter.mpr ⟨hc, hi⟩)
  · simpa [hi] using h
set_option maxRecDepth 65536 in
theorem w_c0 : (Jvm.Cond.code x code maxLocals ret).before args0 about1 = true := code_word (m := ⟨1, 1⟩) (meth := k1m1) (c := k1c1) (by decide +kernel) rfl rfl rfl (by decide +kernel)
set_option maxRecDepth 65536 in
theorem w_c1 : (Jvm.Cond.code ({ cls := "com/example/strict_lock/strictlock/Watcher", name := "endOfKey", desc := "(JJ)Lcom/example/strict_lock/strictlock/Deadline;" } : Jvm.MethodName) prog_32_method_2_code (4 : Nat) (Option.some (Jvm.ClassFile.FieldType.object "com/example/strict_lock/strictlock/Deadline"))).before args0 about1 = true := code_word (m := ⟨2, 0⟩) (meth := k2m0) (c := k2c0) (by decide +kernel) rfl rfl rfl (by decide +kernel)
set_option maxRecDepth 65536 in
theorem w_c2 : (Jvm.Cond.code ({ cls := "java/time/Duration", name := "ofMillis", desc := "(J)Ljava/time/Duration;" } : Jvm.MethodName) jdk_2316_method_6_code (5 : Nat) (Option.some (Jvm.ClassFile.FieldType.object "java/time/Duration"))).before args0 about1 = true := code_word (m := ⟨6, 1⟩) (meth := k6m1) (c := k6c1) (by decide +kernel) rfl rfl rfl (by decide +kernel)
set_option maxRecDepth 65536 in
theorem w_c3 : (Jvm.Cond.code ({ cls := "java/time/Duration", name := "create", desc := "(JI)Ljava/time/Duration;" } : Jvm.MethodName) jdk_2316_method_16_code (3 : Nat) (Option.some (Jvm.ClassFile.FieldType.object "java/time/Duration"))).before args0 about1 = true := code_word (m := ⟨6, 3⟩) (meth := k6m3) (c := k6c3) (by decide +kernel) rfl rfl rfl (by decide +kernel)
set_option maxRecDepth 65536 in
theorem w_c4 : (Jvm.Cond.code ({ cls := "java/time/Duration", name := "<init>", desc := "(JI)V" } : Jvm.MethodName) jdk_2316_method_17_code (4 : Nat) (Option.none : Option Jvm.ClassFile.FieldType)).before args0 about1 = true := code_word (m := ⟨6, 4⟩) (meth := k6m4) (c := k6c4) (by decide +kernel) rfl rfl rfl (by decide +kernel)
set_option maxRecDepth 65536 in
theorem w_c5 : (Jvm.Cond.code ({ cls := "java/lang/Object", name := "<init>", desc := "()V" } : Jvm.MethodName) object_method_1_code (1 : Nat) (Option.none : Option Jvm.ClassFile.FieldType)).before args0 about1 = true := code_word (m := ⟨0, 0⟩) (meth := k0m0) (c := k0c0) (by decide +kernel) rfl rfl rfl (by decide +kernel)
set_option maxRecDepth 65536 in
theorem w_c6 : (Jvm.Cond.code ({ cls := "java/time/Duration", name := "plus", desc := "(Ljava/time/Duration;)Ljava/time/Duration;" } : Jvm.MethodName) jdk_2316_method_27_code (2 : Nat) (Option.some (Jvm.ClassFile.FieldType.object "java/time/Duration"))).before args0 about1 = true := code_word (m := ⟨6, 8⟩) (meth := k6m8) (c := k6c8) (by decide +kernel) rfl rfl rfl (by decide +kernel)
set_option maxRecDepth 65536 in
theorem w_c7 : (Jvm.Cond.code ({ cls := "java/time/Duration", name := "getSeconds", desc := "()J" } : Jvm.MethodName) jdk_2316_method_23_code (1 : Nat) (Option.some Jvm.ClassFile.FieldType.long)).before args0 about1 = true := code_word (m := ⟨6, 6⟩) (meth := k6m6) (c := k6c6) (by decide +kernel) rfl rfl rfl (by decide +kernel)
set_option maxRecDepth 65536 in
theorem w_c8 : (Jvm.Cond.code ({ cls := "java/time/Duration", name := "getNano", desc := "()I" } : Jvm.MethodName) jdk_2316_method_24_code (1 : Nat) (Option.some Jvm.ClassFile.FieldType.int)).before args0 about1 = true := code_word (m := ⟨6, 7⟩) (meth := k6m7) (c := k6c7) (by decide +kernel) rfl rfl rfl (by decide +kernel)
set_option maxRecDepth 65536 in
theorem w_c9 : (Jvm.Cond.code ({ cls := "java/time/Duration", name := "plus", desc := "(JJ)Ljava/time/Duration;" } : Jvm.MethodName) jdk_2316_method_35_code (9 : Nat) (Option.some (Jvm.ClassFile.FieldType.object "java/time/Duration"))).before args0 about1 = true := code_word (m := ⟨6, 9⟩) (meth := k6m9) (c := k6c9) (by decide +kernel) rfl rfl rfl (by decide +kernel)
set_option maxRecDepth 65536 in
theorem w_c10 : (Jvm.Cond.code ({ cls := "java/lang/Math", name := "addExact", desc := "(JJ)J" } : Jvm.MethodName) jdk_29_method_25_code (6 : Nat) (Option.some Jvm.ClassFile.FieldType.long)).before args0 about1 = true := code_word (m := ⟨7, 1⟩) (meth := k7m1) (c := k7c1) (by decide +kernel) rfl rfl rfl (by decide +kernel)
set_option maxRecDepth 65536 in
theorem w_c11 : (Jvm.Cond.code ({ cls := "java/time/Duration", name := "ofSeconds", desc := "(JJ)Ljava/time/Duration;" } : Jvm.MethodName) jdk_2316_method_5_code (7 : Nat) (Option.some (Jvm.ClassFile.FieldType.object "java/time/Duration"))).before args0 about1 = true := code_word (m := ⟨6, 0⟩) (meth := k6m0) (c := k6c0) (by decide +kernel) rfl rfl rfl (by decide +kernel)
set_option maxRecDepth 65536 in
theorem w_c12 : (Jvm.Cond.code ({ cls := "java/lang/Math", name := "floorDiv", desc := "(JJ)J" } : Jvm.MethodName) jdk_29_method_49_code (6 : Nat) (Option.some Jvm.ClassFile.FieldType.long)).before args0 about1 = true := code_word (m := ⟨7, 3⟩) (meth := k7m3) (c := k7c3) (by decide +kernel) rfl rfl rfl (by decide +kernel)
set_option maxRecDepth 65536 in
theorem w_c13 : (Jvm.Cond.code ({ cls := "java/lang/Math", name := "floorMod", desc := "(JJ)J" } : Jvm.MethodName) jdk_29_method_52_code (6 : Nat) (Option.some Jvm.ClassFile.FieldType.long)).before args0 about1 = true := code_word (m := ⟨7, 4⟩) (meth := k7m4) (c := k7c4) (by decide +kernel) rfl rfl rfl (by decide +kernel)
set_option maxRecDepth 65536 in
theorem w_c14 : (Jvm.Cond.code ({ cls := "com/example/strict_lock/strictlock/Deadline", name := "after", desc := "(JLjava/time/Duration;)Lcom/example/strict_lock/strictlock/Deadline;" } : Jvm.MethodName) prog_3_method_2_code (5 : Nat) (Option.some (Jvm.ClassFile.FieldType.object "com/example/strict_lock/strictlock/Deadline"))).before args0 about1 = true := code_word (m := ⟨8, 1⟩) (meth := k8m1) (c := k8c1) (by decide +kernel) rfl rfl rfl (by decide +kernel)
set_option maxRecDepth 65536 in
theorem w_c15 : (Jvm.Cond.code ({ cls := "java/time/Duration", name := "compareTo", desc := "(Ljava/time/Duration;)I" } : Jvm.MethodName) jdk_2316_method_66_code (3 : Nat) (Option.some Jvm.ClassFile.FieldType.int)).before args0 about1 = true := code_word (m := ⟨6, 11⟩) (meth := k6m11) (c := k6c11) (by decide +kernel) rfl rfl rfl (by decide +kernel)
set_option maxRecDepth 65536 in
theorem w_c16 : (Jvm.Cond.code ({ cls := "java/lang/Long", name := "compare", desc := "(JJ)I" } : Jvm.MethodName) jdk_35_method_42_code (4 : Nat) (Option.some Jvm.ClassFile.FieldType.int)).before args0 about1 = true := code_word (m := ⟨12, 0⟩) (meth := k12m0) (c := k12c0) (by decide +kernel) rfl rfl rfl (by decide +kernel)
set_option maxRecDepth 65536 in
theorem w_c17 : (Jvm.Cond.code ({ cls := "java/time/Duration", name := "toNanos", desc := "()J" } : Jvm.MethodName) jdk_2316_method_58_code (7 : Nat) (Option.some Jvm.ClassFile.FieldType.long)).before args0 about1 = true := code_word (m := ⟨6, 10⟩) (meth := k6m10) (c := k6c10) (by decide +kernel) rfl rfl rfl (by decide +kernel)
set_option maxRecDepth 65536 in
theorem w_c18 : (Jvm.Cond.code ({ cls := "java/lang/Math", name := "multiplyExact", desc := "(JJ)J" } : Jvm.MethodName) jdk_29_method_30_code (10 : Nat) (Option.some Jvm.ClassFile.FieldType.long)).before args0 about1 = true := code_word (m := ⟨7, 2⟩) (meth := k7m2) (c := k7c2) (by decide +kernel) rfl rfl rfl (by decide +kernel)
set_option maxRecDepth 65536 in
theorem w_c19 : (Jvm.Cond.code ({ cls := "java/lang/Math", name := "abs", desc := "(J)J" } : Jvm.MethodName) jdk_29_method_61_code (2 : Nat) (Option.some Jvm.ClassFile.FieldType.long)).before args0 about1 = true := code_word (m := ⟨7, 5⟩) (meth := k7m5) (c := k7c5) (by decide +kernel) rfl rfl rfl (by decide +kernel)
set_option maxRecDepth 65536 in
theorem w_c20 : (Jvm.Cond.code ({ cls := "com/example/strict_lock/strictlock/Deadline", name := "<init>", desc := "(J)V" } : Jvm.MethodName) prog_3_method_1_code (3 : Nat) (Option.none : Option Jvm.ClassFile.FieldType)).before args0 about1 = true := code_word (m := ⟨8, 0⟩) (meth := k8m0) (c := k8c0) (by decide +kernel) rfl rfl rfl (by decide +kernel)
set_option maxRecDepth 65536 in
theorem w_c21 : (Jvm.Cond.code ({ cls := "com/example/strict_lock/strictlock/Deadline", name := "remaining", desc := "(J)Ljava/time/Duration;" } : Jvm.MethodName) prog_3_method_4_code (5 : Nat) (Option.some (Jvm.ClassFile.FieldType.object "java/time/Duration"))).before args0 about1 = true := code_word (m := ⟨8, 2⟩) (meth := k8m2) (c := k8c2) (by decide +kernel) rfl rfl rfl (by decide +kernel)
set_option maxRecDepth 65536 in
theorem w_c22 : (Jvm.Cond.code ({ cls := "java/time/Duration", name := "isZero", desc := "()Z" } : Jvm.MethodName) jdk_2316_method_21_code (1 : Nat) (Option.some Jvm.ClassFile.FieldType.boolean)).before args0 about1 = true := code_word (m := ⟨6, 5⟩) (meth := k6m5) (c := k6c5) (by decide +kernel) rfl rfl rfl (by decide +kernel)
set_option maxRecDepth 65536 in
theorem w_c23 : (Jvm.Cond.code ({ cls := "java/time/Duration", name := "ofNanos", desc := "(J)Ljava/time/Duration;" } : Jvm.MethodName) jdk_2316_method_7_code (5 : Nat) (Option.some (Jvm.ClassFile.FieldType.object "java/time/Duration"))).before args0 about1 = true := code_word (m := ⟨6, 2⟩) (meth := k6m2) (c := k6c2) (by decide +kernel) rfl rfl rfl (by decide +kernel)
def codes1 : List Jvm.Cond := [Jvm.Cond.code x code maxLocals ret, Jvm.Cond.code ({ cls := "com/example/strict_lock/strictlock/Watcher", name := "endOfKey", desc := "(JJ)Lcom/example/strict_lock/strictlock/Deadline;" } : Jvm.MethodName) prog_32_method_2_code (4 : Nat) (Option.some (Jvm.ClassFile.FieldType.object "com/example/strict_lock/strictlock/Deadline")), Jvm.Cond.code ({ cls := "java/time/Duration", name := "ofMillis", desc := "(J)Ljava/time/Duration;" } : Jvm.MethodName) jdk_2316_method_6_code (5 : Nat) (Option.some (Jvm.ClassFile.FieldType.object "java/time/Duration")), Jvm.Cond.code ({ cls := "java/time/Duration", name := "create", desc := "(JI)Ljava/time/Duration;" } : Jvm.MethodName) jdk_2316_method_16_code (3 : Nat) (Option.some (Jvm.ClassFile.FieldType.object "java/time/Duration")), Jvm.Cond.code ({ cls := "java/time/Duration", name := "<init>", desc := "(JI)V" } : Jvm.MethodName) jdk_2316_method_17_code (4 : Nat) (Option.none : Option Jvm.ClassFile.FieldType), Jvm.Cond.code ({ cls := "java/lang/Object", name := "<init>", desc := "()V" } : Jvm.MethodName) object_method_1_code (1 : Nat) (Option.none : Option Jvm.ClassFile.FieldType), Jvm.Cond.code ({ cls := "java/time/Duration", name := "plus", desc := "(Ljava/time/Duration;)Ljava/time/Duration;" } : Jvm.MethodName) jdk_2316_method_27_code (2 : Nat) (Option.some (Jvm.ClassFile.FieldType.object "java/time/Duration")), Jvm.Cond.code ({ cls := "java/time/Duration", name := "getSeconds", desc := "()J" } : Jvm.MethodName) jdk_2316_method_23_code (1 : Nat) (Option.some Jvm.ClassFile.FieldType.long), Jvm.Cond.code ({ cls := "java/time/Duration", name := "getNano", desc := "()I" } : Jvm.MethodName) jdk_2316_method_24_code (1 : Nat) (Option.some Jvm.ClassFile.FieldType.int), Jvm.Cond.code ({ cls := "java/time/Duration", name := "plus", desc := "(JJ)Ljava/time/Duration;" } : Jvm.MethodName) jdk_2316_method_35_code (9 : Nat) (Option.some (Jvm.ClassFile.FieldType.object "java/time/Duration")), Jvm.Cond.code ({ cls := "java/lang/Math", name := "addExact", desc := "(JJ)J" } : Jvm.MethodName) jdk_29_method_25_code (6 : Nat) (Option.some Jvm.ClassFile.FieldType.long), Jvm.Cond.code ({ cls := "java/time/Duration", name := "ofSeconds", desc := "(JJ)Ljava/time/Duration;" } : Jvm.MethodName) jdk_2316_method_5_code (7 : Nat) (Option.some (Jvm.ClassFile.FieldType.object "java/time/Duration")), Jvm.Cond.code ({ cls := "java/lang/Math", name := "floorDiv", desc := "(JJ)J" } : Jvm.MethodName) jdk_29_method_49_code (6 : Nat) (Option.some Jvm.ClassFile.FieldType.long), Jvm.Cond.code ({ cls := "java/lang/Math", name := "floorMod", desc := "(JJ)J" } : Jvm.MethodName) jdk_29_method_52_code (6 : Nat) (Option.some Jvm.ClassFile.FieldType.long), Jvm.Cond.code ({ cls := "com/example/strict_lock/strictlock/Deadline", name := "after", desc := "(JLjava/time/Duration;)Lcom/example/strict_lock/strictlock/Deadline;" } : Jvm.MethodName) prog_3_method_2_code (5 : Nat) (Option.some (Jvm.ClassFile.FieldType.object "com/example/strict_lock/strictlock/Deadline")), Jvm.Cond.code ({ cls := "java/time/Duration", name := "compareTo", desc := "(Ljava/time/Duration;)I" } : Jvm.MethodName) jdk_2316_method_66_code (3 : Nat) (Option.some Jvm.ClassFile.FieldType.int), Jvm.Cond.code ({ cls := "java/lang/Long", name := "compare", desc := "(JJ)I" } : Jvm.MethodName) jdk_35_method_42_code (4 : Nat) (Option.some Jvm.ClassFile.FieldType.int), Jvm.Cond.code ({ cls := "java/time/Duration", name := "toNanos", desc := "()J" } : Jvm.MethodName) jdk_2316_method_58_code (7 : Nat) (Option.some Jvm.ClassFile.FieldType.long), Jvm.Cond.code ({ cls := "java/lang/Math", name := "multiplyExact", desc := "(JJ)J" } : Jvm.MethodName) jdk_29_method_30_code (10 : Nat) (Option.some Jvm.ClassFile.FieldType.long), Jvm.Cond.code ({ cls := "java/lang/Math", name := "abs", desc := "(J)J" } : Jvm.MethodName) jdk_29_method_61_code (2 : Nat) (Option.some Jvm.ClassFile.FieldType.long), Jvm.Cond.code ({ cls := "com/example/strict_lock/strictlock/Deadline", name := "<init>", desc := "(J)V" } : Jvm.MethodName) prog_3_method_1_code (3 : Nat) (Option.none : Option Jvm.ClassFile.FieldType), Jvm.Cond.code ({ cls := "com/example/strict_lock/strictlock/Deadline", name := "remaining", desc := "(J)Ljava/time/Duration;" } : Jvm.MethodName) prog_3_method_4_code (5 : Nat) (Option.some (Jvm.ClassFile.FieldType.object "java/time/Duration")), Jvm.Cond.code ({ cls := "java/time/Duration", name := "isZero", desc := "()Z" } : Jvm.MethodName) jdk_2316_method_21_code (1 : Nat) (Option.some Jvm.ClassFile.FieldType.boolean), Jvm.Cond.code ({ cls := "java/time/Duration", name := "ofNanos", desc := "(J)Ljava/time/Duration;" } : Jvm.MethodName) jdk_2316_method_7_code (5 : Nat) (Option.some (Jvm.ClassFile.FieldType.object "java/time/Duration"))]
set_option maxRecDepth 65536 in
theorem codes_eq : words1.filter isCode = codes1 := rfl
theorem w_codes : ∀ c ∈ words1.filter isCode, c.before args0 about1 = true := by
  rw [codes_eq]
  intro c hc
  simp only [codes1, List.mem_cons, List.not_mem_nil, or_false] at hc
  rcases hc with rfl | rfl | rfl | rfl | rfl | rfl | rfl | rfl | rfl | rfl | rfl | rfl | rfl | rfl | rfl | rfl | rfl | rfl | rfl | rfl | rfl | rfl | rfl | rfl
  · exact w_c0
  · exact w_c1
  · exact w_c2
  · exact w_c3
  · exact w_c4
  · exact w_c5
  · exact w_c6
  · exact w_c7
  · exact w_c8
  · exact w_c9
  · exact w_c10
  · exact w_c11
  · exact w_c12
  · exact w_c13
  · exact w_c14
  · exact w_c15
  · exact w_c16
  · exact w_c17
  · exact w_c18
  · exact w_c19
  · exact w_c20
  · exact w_c21
  · exact w_c22
  · exact w_c23
set_option maxRecDepth 65536 in
theorem w_t1 : (words1.take 24).all (fun c => isCode c || c.before args0 about1) = true := by decide +kernel
set_option maxRecDepth 65536 in
theorem w_t2 : ((words1.drop 24).take 24).all (fun c => isCode c || c.before args0 about1) = true := by decide +kernel
set_option maxRecDepth 65536 in
theorem w_t3 : (((words1.drop 24).drop 24).take 24).all (fun c => isCode c || c.before args0 about1) = true := by decide +kernel
set_option maxRecDepth 65536 in
theorem w_t4 : ((((words1.drop 24).drop 24).drop 24).take 24).all (fun c => isCode c || c.before args0 about1) = true := by decide +kernel
set_option maxRecDepth 65536 in
theorem w_t5 : (((((words1.drop 24).drop 24).drop 24).drop 24).take 24).all (fun c => isCode c || c.before args0 about1) = true := by decide +kernel
set_option maxRecDepth 65536 in
theorem w_t6 : (((((words1.drop 24).drop 24).drop 24).drop 24).drop 24).all (fun c => isCode c || c.before args0 about1) = true := by decide +kernel
theorem w_tables : (allAtoms (Jvm.Cond.code x code maxLocals ret :: tables_1)).before args0 about1 = true := by
  rw [allAtoms_all]
  show words1.all (fun c => c.before args0 about1) = true
  refine all_split ?_ w_codes
  rw [← List.take_append_drop 24 words1, List.all_append, w_t1, ← List.take_append_drop 24 (words1.drop 24), List.all_append, w_t2, ← List.take_append_drop 24 ((words1.drop 24).drop 24), List.all_append, w_t3, ← List.take_append_drop 24 (((words1.drop 24).drop 24).drop 24), List.all_append, w_t4, ← List.take_append_drop 24 ((((words1.drop 24).drop 24).drop 24).drop 24), List.all_append, w_t5, w_t6]
  rfl
set_option maxRecDepth 65536 in
theorem w_rest : rest_1_c.before args0 about1 = true := by decide +kernel
set_option maxRecDepth 65536 in
theorem w_case : (Jvm.Cond.and given_1 narrow_1).before args0 about1 = true := by decide +kernel
theorem w_applies : (headSpec (Jvm.Cond.code x code maxLocals ret :: tables_1) room_1).applies x e0.platform about1 = true :=
  (Spec.applies_iff w_frames).mpr ⟨w_running, w_runnable, w_alone, w_named, w_hears, w_ripe, w_room, w_tables⟩
theorem atStart : AtStart classFile x code maxLocals ret World_1 tables_1 room_1 Calls_1 rest_1 Pre_1 launch0 p0 e0 about1 theMethod args0 below0 :=
  ⟨lists_1, trivial, launch0.admits_env _ _ _, launch0.least_env, fairChoices_fair.cas, fairChoices_fair.clock, w_frames, w_args, w_heap, w_applies, trivial, w_rest, w_case⟩
end start1
theorem witness_1 : WitnessClaimed_1 := ⟨start1.p0, start1.e0, start1.about1, start1.theMethod, start1.args0, start1.below0, start1.atStart⟩
end Jvm.Pilot.@@N@@
