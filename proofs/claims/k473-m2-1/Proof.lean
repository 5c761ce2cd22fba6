import JvmDerived
import JvmDerived.Pilot.@@N@@Statement
import JvmDerived.Pilot.@@N@@Code
set_option linter.unusedVariables false
set_option linter.unusedSimpArgs false
@@BLOCK:NumsL.lean.txt@@
namespace Jvm.RoadKit
open Sem ClassFile Op Lib Jvm.Stand Jvm.Free Jvm.LawKit
section New
variable {p : Program} {l : Launch} {e : Env} {R : Room} {s : State} {m : MethodId} {args : Array Value} {below : List Frame} {meth : Method} {c : Code} {T : State} {locs : List Loc} {cells slots : Nat}
theorem retI (X : Stand p l e R s m args below meth c T locs cells slots) (hx : p.tables.exec = Jvm.exec) {pc : Nat} {Ls : Array Slot} {z : Int32} {rest : List Value} (hret : meth.sig.returnType = some .int) (hd : decode c.code pc = .ok (.ireturn, 1)) {fs : List Frame}
    (hl : ∀ (f : JFrame) (acts : List Action), f.method = m → f.locked = none → f.entered = [] → (doReturn e (T.setTop f) acts (some (.int z))).1 = T.setFrames fs) : Steps p.tables e below (T.setTop (mkF m pc Ls (.int z :: rest))) (T.setFrames fs) := by
  have hm' : T.vm.method? m = some meth := X.method'
  have hn : narrow .int (.int z) = .int z := rfl
  show Steps p.tables e below (T.setTop { method := m, pc := pc, locals := Ls, stack := _ :: rest, locked := none }) _
  jvm_step X.here [X.here.top, hx, hd, hm', hret, hn]
  first | (intro acts; rw [hl _ acts rfl rfl rfl]) | rw [hl _ _ rfl rfl rfl]
  exact Steps.refl _
theorem retRef (X : Stand p l e R s m args below meth c T locs cells slots) (hx : p.tables.exec = Jvm.exec) {pc : Nat} {Ls : Array Slot} {v : Value} {rest : List Value} {ty : FieldType} (hret : meth.sig.returnType = some ty) (hty : ty.isReference = true) (hv : v.isRef = true) (hd : decode c.code pc = .ok (.areturn, 1)) {fs : List Frame}
    (hl : ∀ (f : JFrame) (acts : List Action), f.method = m → f.locked = none → f.entered = [] → (doReturn e (T.setTop f) acts (some v)).1 = T.setFrames fs) : Steps p.tables e below (T.setTop (mkF m pc Ls (v :: rest))) (T.setFrames fs) := by
  have hm' : T.vm.method? m = some meth := X.method'
  show Steps p.tables e below (T.setTop { method := m, pc := pc, locals := Ls, stack := _ :: rest, locked := none }) _
  jvm_step X.here [X.here.top, hx, hd, hm', hret, hty, hv]
  first | (intro acts; rw [hl _ acts rfl rfl rfl]) | rw [hl _ _ rfl rfl rfl]
  exact Steps.refl _
theorem retD (X : Stand p l e R s m args below meth c T locs cells slots) (hx : p.tables.exec = Jvm.exec) {pc : Nat} {Ls : Array Slot} {z : UInt64} {rest : List Value} (hret : meth.sig.returnType = some .double) (hd : decode c.code pc = .ok (.dreturn, 1)) {fs : List Frame}
    (hl : ∀ (f : JFrame) (acts : List Action), f.method = m → f.locked = none → f.entered = [] → (doReturn e (T.setTop f) acts (some (.double z))).1 = T.setFrames fs) : Steps p.tables e below (T.setTop (mkF m pc Ls (.double z :: rest))) (T.setFrames fs) := by
  have hm' : T.vm.method? m = some meth := X.method'
  have hn : narrow .double (.double z) = .double z := rfl
  show Steps p.tables e below (T.setTop { method := m, pc := pc, locals := Ls, stack := _ :: rest, locked := none }) _
  jvm_step X.here [X.here.top, hx, hd, hm', hret, hn]
  first | (intro acts; rw [hl _ acts rfl rfl rfl]) | rw [hl _ _ rfl rfl rfl]
  exact Steps.refl _
end New
end Jvm.RoadKit
namespace Jvm.Pilot.@@N@@
open Jvm Jvm.ClassFile Sem Op Lib Jvm.Free Jvm.Stand Jvm.LawKit Jvm.RoadKit Bundle Jvm.Pilot.@@N@@.Jvm.D
/-- from the state S the run comes to an end of which R speaks -/
abbrev Ends (tb : Tables) (e : Env) (below : List Frame) (S : State) (R : State → Outcome → Prop) : Prop := ∃ t o, Steps tb e below S t ∧ R t o
theorem Ends.st {tb : Tables} {e : Env} {below : List Frame} {S S' : State} {R : State → Outcome → Prop} (h : ∀ t, Steps tb e below S' t → Steps tb e below S t) (k : Ends tb e below S' R) : Ends tb e below S R := by
  obtain ⟨t, o, h1, h2⟩ := k
  exact ⟨t, o, h t h1, h2⟩
theorem pd_0 : parseMethodDescriptor "()V" = some ⟨[], none⟩ := by decide +kernel
theorem pd_1 : parseMethodDescriptor "(IIJ)V" = some ⟨[.int, .int, .long], none⟩ := by decide +kernel
theorem pd_2 : parseMethodDescriptor "()D" = some ⟨[], some .double⟩ := by decide +kernel
def avg (d : Int32) (k : Int64) : UInt64 := if d = 0 then 0 else FP.ddiv (FP.l2d k) (FP.i2d d)
theorem own_nn {d : Int32} {k : Int64} (h : ¬ d = 0) : Jvm.Free.Fl.NoNaN64 (FP.ddiv (FP.l2d k) (FP.i2d d)) :=
  Jvm.Free.Fl.ddiv_out (Jvm.Free.Fl.l2d_fin k).noNaN (Jvm.Free.Fl.i2d_fin d) (Jvm.Free.Fl.i2d_nz h)
theorem own_nonneg (x : Int32) : ¬ ((x &&& (2147483647 : Int32)) < (0 : Int32)) := by
  have h := Jvm.Kit.i32_mask x 2147483647 (k := 31) (by decide) (by decide)
  rw [Int32.lt_iff_toInt_lt]
  have e0 : (0 : Int32).toInt = 0 := by decide
  omega
theorem own_mask64 (x : Int64) : 0 ≤ (x &&& (9223372036854775807 : Int64)).toInt := by
  have h := Jvm.Kit.i64_mask x 9223372036854775807 (k := 63) (by decide) (by decide)
  omega
theorem own_nonneg64 (x : Int64) : ¬ ((x &&& (9223372036854775807 : Int64)) < (0 : Int64)) := by
  have h := own_mask64 x
  rw [Int64.lt_iff_toInt_lt]
  have e0 : (0 : Int64).toInt = 0 := by decide
  omega
theorem own_dpos {d : Int32} (h0 : ¬ d < (0 : Int32)) (h : ¬ d = 0) : 0 < d.toInt := by
  rw [Int32.lt_iff_toInt_lt] at h0
  have e0 : (0 : Int32).toInt = 0 := by decide
  have : ¬ d.toInt = 0 := fun q => h (Int32.toInt_inj.mp (q.trans e0.symm))
  omega
theorem own_nz64 {d : Int32} (h : ¬ d = 0) : d.toInt64 ≠ 0 := fun q => h (by
  apply Int32.toInt_inj.mp
  have := congrArg Int64.toInt q
  rw [Jvm.Kit.i64_of_i32] at this
  rw [this]; decide)
theorem own_rem {d y : Int32} (hd : 0 < d.toInt) (hy : 0 ≤ y.toInt) : 0 ≤ (y - (y / d) * d).toInt ∧ (y - (y / d) * d).toInt < d.toInt := by
  have b1 := y.toInt_lt
  have hdv : (y / d).toInt = y.toInt / d.toInt := by
    rw [Jvm.Kit.i32_div (fun q => by
      have e : (-1 : Int32).toInt = -1 := by decide
      first
        | (rw [q.2] at hd; omega)
        | (have := congrArg Int32.toInt q.2; omega)
        | omega), Int.tdiv_eq_ediv_of_nonneg hy]
  have h1 := Int.mul_ediv_add_emod y.toInt d.toInt
  have h2 := Int.emod_nonneg y.toInt (Int.ne_of_gt hd)
  have h3 := Int.emod_lt_of_pos y.toInt hd
  have h4 : 0 ≤ y.toInt / d.toInt * d.toInt := Int.mul_nonneg (Int.ediv_nonneg hy (Int.le_of_lt hd)) (Int.le_of_lt hd)
  rw [Int.mul_comm] at h1
  have hm : (y / d * d).toInt = y.toInt / d.toInt * d.toInt := by
    rw [Jvm.Kit.i32_mul (by rw [hdv]; omega) (by rw [hdv]; omega), hdv]
  rw [Jvm.Kit.i32_sub (by rw [hm]; omega) (by rw [hm]; omega), hm]
  omega
theorem own_rem64 {d y : Int64} (hd : 0 < d.toInt) (hy : 0 ≤ y.toInt) : 0 ≤ (y - (y / d) * d).toInt ∧ (y - (y / d) * d).toInt < d.toInt := by
  have b1 := y.toInt_lt
  have hdv : (y / d).toInt = y.toInt / d.toInt := by
    rw [Jvm.Kit.i64_div (fun q => by
      have e : (-1 : Int64).toInt = -1 := by decide
      first
        | (rw [q.2] at hd; omega)
        | (have := congrArg Int64.toInt q.2; omega)
        | omega), Int.tdiv_eq_ediv_of_nonneg hy]
  have h1 := Int.mul_ediv_add_emod y.toInt d.toInt
  have h2 := Int.emod_nonneg y.toInt (Int.ne_of_gt hd)
  have h3 := Int.emod_lt_of_pos y.toInt hd
  have h4 : 0 ≤ y.toInt / d.toInt * d.toInt := Int.mul_nonneg (Int.ediv_nonneg hy (Int.le_of_lt hd)) (Int.le_of_lt hd)
  rw [Int.mul_comm] at h1
  have hm : (y / d * d).toInt = y.toInt / d.toInt * d.toInt := by
    rw [Jvm.Kit.i64_mul (by rw [hdv]; omega) (by rw [hdv]; omega), hdv]
  rw [Jvm.Kit.i64_sub (by rw [hm]; omega) (by rw [hm]; omega), hm]
  omega
theorem own_rr {dd rem : Int32} {rr : Int64} (hnz : ¬ dd = 0) (hd0 : ¬ dd < (0 : Int32)) (hrr : rr = (((rem &&& (2147483647 : Int32)) - ((rem &&& (2147483647 : Int32)) / dd) * dd).toInt64)) : 0 ≤ rr.toInt ∧ rr.toInt < dd.toInt := by
  have hy := Jvm.Kit.i32_mask rem 2147483647 (k := 31) (by decide) (by decide)
  rw [hrr, Jvm.Kit.i64_of_i32]
  exact own_rem (own_dpos hd0 hnz) (by omega)
theorem own_qm {dd : Int32} {rr qm : Int64} (hd : 0 < dd.toInt) (hr0 : 0 ≤ rr.toInt) (hr1 : rr.toInt < dd.toInt) (hqm : qm = (((9007199254740991 : Int64) - rr) / (dd.toInt64))) : 0 ≤ qm.toInt ∧ qm.toInt * dd.toInt + rr.toInt ≤ 9007199254740991 := by
  have b := dd.toInt_lt
  have e1 : (9007199254740991 : Int64).toInt = 9007199254740991 := by decide
  have hs : ((9007199254740991 : Int64) - rr).toInt = 9007199254740991 - rr.toInt := by
    rw [Jvm.Kit.i64_sub (by rw [e1]; omega) (by rw [e1]; omega), e1]
  have hq : qm.toInt = (9007199254740991 - rr.toInt) / dd.toInt := by
    rw [hqm, Jvm.Kit.i64_div (fun q => by
      have e : (-1 : Int64).toInt = -1 := by decide
      have z := Jvm.Kit.i64_of_i32 dd
      first
        | (rw [q.2] at z; omega)
        | (have := congrArg Int64.toInt q.2; omega)
        | omega), hs, Jvm.Kit.i64_of_i32, Int.tdiv_eq_ediv_of_nonneg (by omega)]
  have h1 := Int.mul_ediv_add_emod (9007199254740991 - rr.toInt) dd.toInt
  have h2 := Int.emod_nonneg (9007199254740991 - rr.toInt) (Int.ne_of_gt hd)
  rw [Int.mul_comm] at h1
  rw [hq]
  exact ⟨Int.ediv_nonneg (by omega) (Int.le_of_lt hd), by omega⟩
theorem own_qle {dd : Int32} {rr qm : Int64} (hd : 0 < dd.toInt) (hr0 : 0 ≤ rr.toInt) (h : 0 ≤ qm.toInt ∧ qm.toInt * dd.toInt + rr.toInt ≤ 9007199254740991) : qm.toInt ≤ 9007199254740991 := by
  have : qm.toInt * 1 ≤ qm.toInt * dd.toInt := Int.mul_le_mul_of_nonneg_left (by omega) h.1
  omega
theorem own_qm1v {qm : Int64} (h0 : 0 ≤ qm.toInt) (h : qm.toInt ≤ 9007199254740991) : (qm + (1 : Int64)).toInt = qm.toInt + 1 := by
  have e1 : (1 : Int64).toInt = 1 := by decide
  rw [Jvm.Kit.i64_add (by rw [e1]; omega) (by rw [e1]; omega), e1]
theorem own_qm1 {dd rem : Int32} {rr qm : Int64} (hnz : ¬ dd = 0) (hd0 : ¬ dd < (0 : Int32)) (hrr : rr = (((rem &&& (2147483647 : Int32)) - ((rem &&& (2147483647 : Int32)) / dd) * dd).toInt64)) (hqm : qm = (((9007199254740991 : Int64) - rr) / (dd.toInt64))) : (qm + (1 : Int64)) ≠ 0 := fun q => by
  have hr := own_rr hnz hd0 hrr
  have hd := own_dpos hd0 hnz
  have hm := own_qm hd hr.1 hr.2 hqm
  have e := own_qm1v hm.1 (own_qle hd hr.1 hm)
  rw [q] at e
  have e0 : (0 : Int64).toInt = 0 := by decide
  omega
theorem own_q1 (q : Int64) (h : 0 ≤ q.toInt) : 0 ≤ q.toInt ∧ q.toInt ≤ q.toInt := ⟨h, Int.le_refl _⟩
theorem own_q2 {q1 q2 : Int64} (hq : q2 = (q1 &&& (1048575 : Int64))) (h : 0 ≤ q1.toInt) : 0 ≤ q2.toInt ∧ q2.toInt ≤ q1.toInt := by
  have e := Jvm.Kit.i64_mask q1 1048575 (k := 20) (by decide) (by decide)
  rw [hq, e]
  omega
theorem own_arith {dd rem : Int32} {quot rr qm q1 q tk : Int64} (hnz : ¬ dd = 0) (hd0 : ¬ dd < (0 : Int32)) (hrr : rr = (((rem &&& (2147483647 : Int32)) - ((rem &&& (2147483647 : Int32)) / dd) * dd).toInt64)) (hqm : qm = (((9007199254740991 : Int64) - rr) / (dd.toInt64)))
    (hq1 : q1 = ((quot &&& (9223372036854775807 : Int64)) - ((quot &&& (9223372036854775807 : Int64)) / (qm + (1 : Int64))) * (qm + (1 : Int64)))) (hq : 0 ≤ q1.toInt → 0 ≤ q.toInt ∧ q.toInt ≤ q1.toInt) (htk : tk = ((q * (dd.toInt64)) + rr)) :
    ¬ tk < (0 : Int64) ∧ tk.toInt ≤ 9007199254740991 ∧ 0 ≤ rr.toInt ∧ rr.toInt < dd.toInt ∧ 0 ≤ q.toInt ∧ tk.toInt = q.toInt * dd.toInt + rr.toInt := by
  have hr := own_rr hnz hd0 hrr
  have hd := own_dpos hd0 hnz
  have hm := own_qm hd hr.1 hr.2 hqm
  have hle := own_qle hd hr.1 hm
  have e := own_qm1v hm.1 hle
  have h1 := own_rem64 (d := qm + (1 : Int64)) (y := quot &&& (9223372036854775807 : Int64)) (by rw [e]; omega) (own_mask64 quot)
  rw [← hq1, e] at h1
  obtain ⟨q0, q1'⟩ := hq h1.1
  have hp : q.toInt * dd.toInt ≤ qm.toInt * dd.toInt := Int.mul_le_mul_of_nonneg_right (by omega) (Int.le_of_lt hd)
  have hp0 : 0 ≤ q.toInt * dd.toInt := Int.mul_nonneg q0 (Int.le_of_lt hd)
  have em : (q * (dd.toInt64)).toInt = q.toInt * dd.toInt := by
    rw [Jvm.Kit.i64_mul (by rw [Jvm.Kit.i64_of_i32]; omega) (by rw [Jvm.Kit.i64_of_i32]; omega), Jvm.Kit.i64_of_i32]
  have et : tk.toInt = q.toInt * dd.toInt + rr.toInt := by
    rw [htk, Jvm.Kit.i64_add (by rw [em]; omega) (by rw [em]; omega), em]
  refine ⟨?_, by omega, hr.1, hr.2, q0, et⟩
  rw [Int64.lt_iff_toInt_lt, et]
  have e0 : (0 : Int64).toInt = 0 := by decide
  omega
theorem own_r0 {r : Int64} (h : lcmpW r (0 : Int64) = (0 : Int32)) : r.toInt = 0 := by
  rw [lw_eq] at h
  rw [h]; decide
section FPpart
open Jvm.FP.Core
theorem own_quot {x y : UInt64} {s1 s2 : Bool} {c1 c2 : Nat} {q1 q2 : Int} (hx : val64 x = .fin s1 c1 q1) (hy : val64 y = .fin s2 c2 q2) (h2 : c2 ≠ 0) (hfin : DFin (FP.ddiv x y)) {c' : Nat} {q' : Int} (hc : c' < 2 ^ 53) (hq : b64.qmin ≤ q') :
    (inUnits c' q' b64.qmin * zmag b64 (val64 y) ≤ zmag b64 (val64 x) * one64 → inUnits c' q' b64.qmin ≤ zmag b64 (val64 (FP.ddiv x y))) ∧
    (zmag b64 (val64 x) * one64 ≤ inUnits c' q' b64.qmin * zmag b64 (val64 y) → zmag b64 (val64 (FP.ddiv x y)) ≤ inUnits c' q' b64.qmin) := by
  have hv : val64 (FP.ddiv x y) = roundRatio b64 (s1 != s2) c1 c2 (q1 - q2) := by
    show val64 (Jvm.FP.Core.ddiv x y) = _
    rw [val64_ddiv, hx, hy]
    simp [quotient, h2]
  obtain ⟨s, c, q, hR⟩ := hfin
  have f1 := val64_fits x
  have f2 := val64_fits y
  have hfit := val64_fits (FP.ddiv x y)
  rw [hx] at f1; rw [hy] at f2; rw [hR] at hfit
  have g1 : b64.qmin ≤ q1 := f1.2.1
  have g2 : b64.qmin ≤ q2 := f2.2.1
  have g3 : b64.qmin ≤ q := hfit.2.1
  have em : b64.qmin = -1074 := by decide
  obtain ⟨e0, he0⟩ : ∃ z, z = min b64.qmin (q1 - q2) := ⟨_, rfl⟩
  have h0 : e0 ≤ b64.qmin := by omega
  have h0e : e0 ≤ q1 - q2 := by omega
  have hd := roundRatio_nearest good_b64 (Nat.pos_of_ne_zero h2) (hv.symm.trans hR) hc hq h0 h0e
  unfold distance at hd
  rw [inUnits_move c h0 g3, inUnits_move c' h0 hq] at hd
  have zR : zmag b64 (val64 (FP.ddiv x y)) = inUnits c q b64.qmin := by rw [hR]; rfl
  have zx : zmag b64 (val64 x) = inUnits c1 q1 b64.qmin := by rw [hx]; rfl
  have zy : zmag b64 (val64 y) = inUnits c2 q2 b64.qmin := by rw [hy]; rfl
  rw [zR, zx, zy]
  have hP : 0 < 2 ^ (q2 - b64.qmin).toNat := Nat.two_pow_pos _
  have hK0 : 0 < 2 ^ (b64.qmin - e0).toNat := Nat.two_pow_pos _
  have k1 : inUnits c1 (q1 - q2) e0 * 2 ^ (q2 - b64.qmin).toNat = inUnits c1 q1 b64.qmin * one64 * 2 ^ (b64.qmin - e0).toNat := by
    unfold inUnits one64
    rw [Nat.mul_assoc, ← Nat.pow_add, Nat.mul_assoc, Nat.mul_assoc, ← Nat.pow_add, ← Nat.pow_add]
    have ex : (q1 - q2 - e0).toNat + (q2 - b64.qmin).toNat = (q1 - b64.qmin).toNat + (1074 + (b64.qmin - e0).toNat) := by omega
    rw [ex]
  have k2 : c2 * 2 ^ (q2 - b64.qmin).toNat = inUnits c2 q2 b64.qmin := rfl
  generalize inUnits c1 (q1 - q2) e0 = N at *
  generalize inUnits c q b64.qmin = Z at *
  generalize inUnits c' q' b64.qmin = V at *
  generalize inUnits c1 q1 b64.qmin = X at *
  generalize 2 ^ (b64.qmin - e0).toNat = K at *
  generalize 2 ^ (q2 - b64.qmin).toNat = P at *
  have kk : ∀ W : Nat, W * K * c2 * P = W * inUnits c2 q2 b64.qmin * K := fun W => by rw [← k2]; ac_rfl
  have a4 : 0 < K * c2 := Nat.mul_pos hK0 (Nat.pos_of_ne_zero h2)
  have hK : ∀ {W W' : Nat}, W < W' → W * K * c2 + K * c2 ≤ W' * K * c2 := fun {W W'} h => by
    have : (W + 1) * K * c2 ≤ W' * K * c2 := Nat.mul_le_mul_right _ (Nat.mul_le_mul_right _ h)
    rw [Nat.add_mul, Nat.add_mul, Nat.one_mul] at this
    exact this
  rw [← Int.natCast_mul, ← Int.natCast_mul] at hd
  constructor
  · intro h
    have a1 : V * K * c2 ≤ N := by
      refine Nat.le_of_mul_le_mul_right ?_ hP
      rw [kk, k1]
      exact Nat.mul_le_mul_right _ h
    refine Nat.le_of_not_lt fun hlt => ?_
    have a2 := hK hlt
    generalize Z * K * c2 = zz at *
    generalize V * K * c2 = vv at *
    omega
  · intro h
    have a1 : N ≤ V * K * c2 := by
      refine Nat.le_of_mul_le_mul_right ?_ hP
      rw [kk, k1]
      exact Nat.mul_le_mul_right _ h
    refine Nat.le_of_not_lt fun hlt => ?_
    have a2 := hK hlt
    generalize Z * K * c2 = zz at *
    generalize V * K * c2 = vv at *
    omega
theorem own_natAbs (s : Bool) (m : Nat) : (signed s m).natAbs = m := by cases s <;> simp [signed]
theorem own_l2d {k : Int64} (h0 : 0 ≤ k.toInt) : ∃ c q, val64 (FP.l2d k) = .fin false c q := by
  obtain ⟨s, c, q, h⟩ := Jvm.FP.Core.l2d_fin k
  have e : sgn (val64 (FP.l2d k)) = false := by
    show sgn (val64 (Jvm.FP.Core.l2d k)) = false
    rw [val64_l2d]
    show sgn (roundRatio b64 _ _ _ _) = false
    rw [sgn_roundRatio]
    exact decide_eq_false (by omega)
  have h' : val64 (FP.l2d k) = .fin s c q := h
  rw [h'] at e
  have e' : s = false := e
  subst e'
  exact ⟨c, q, h'⟩
theorem own_i2d {d : Int32} (h0 : 0 ≤ d.toInt) : ∃ c q, val64 (FP.i2d d) = .fin false c q := by
  obtain ⟨s, c, q, h⟩ := Jvm.FP.Core.i2d_fin d
  have e : sgn (val64 (FP.i2d d)) = false := by
    show sgn (val64 (Jvm.FP.Core.i2d d)) = false
    rw [val64_i2d]
    show sgn (roundRatio b64 _ _ _ _) = false
    rw [sgn_roundRatio]
    exact decide_eq_false (by omega)
  have h' : val64 (FP.i2d d) = .fin s c q := h
  rw [h'] at e
  have e' : s = false := e
  subst e'
  exact ⟨c, q, h'⟩
theorem own_zi {d : Int32} (h0 : 0 ≤ d.toInt) : zmag b64 (val64 (FP.i2d d)) = d.toInt.toNat * one64 := by
  have z := DInt_zval (i2d_int d)
  have e := congrArg Int.natAbs z
  unfold zval at e
  rw [own_natAbs, Int.natAbs_mul] at e
  refine Eq.trans e ?_
  congr 1
  omega
theorem own_zl {k : Int64} (h0 : 0 ≤ k.toInt) (h1 : k.toInt ≤ 9007199254740992) : zmag b64 (val64 (FP.l2d k)) = k.toInt.toNat * one64 := by
  have z := DInt_zval (l2d_int (a := k) (by omega))
  have e := congrArg Int.natAbs z
  unfold zval at e
  rw [own_natAbs, Int.natAbs_mul] at e
  refine Eq.trans e ?_
  congr 1
  omega
/-- the quotient of two numbers that aren't negative: no NaN, no sign, and where it lies -/
theorem own_div {k : Int64} {d : Int32} (h0 : 0 ≤ k.toInt) (hd : 0 < d.toInt) : val64 (FP.ddiv (FP.l2d k) (FP.i2d d)) ≠ .nan ∧ zval b64 (val64 (FP.ddiv (FP.l2d k) (FP.i2d d))) = (zmag b64 (val64 (FP.ddiv (FP.l2d k) (FP.i2d d))) : Int) ∧
    ∀ {c' : Nat} {q' : Int}, c' < 2 ^ 53 → b64.qmin ≤ q' → (inUnits c' q' b64.qmin * d.toInt.toNat ≤ zmag b64 (val64 (FP.l2d k)) → inUnits c' q' b64.qmin ≤ zmag b64 (val64 (FP.ddiv (FP.l2d k) (FP.i2d d)))) ∧
      (zmag b64 (val64 (FP.l2d k)) ≤ inUnits c' q' b64.qmin * d.toInt.toNat → zmag b64 (val64 (FP.ddiv (FP.l2d k) (FP.i2d d))) ≤ inUnits c' q' b64.qmin) := by
  obtain ⟨c1, q1, e1⟩ := own_l2d h0
  obtain ⟨c2, q2, e2⟩ := own_i2d (Int.le_of_lt hd)
  have hne : d ≠ 0 := fun q => by
    rw [q] at hd
    exact absurd hd (by decide)
  have z2 := own_zi (Int.le_of_lt hd)
  have h2 : c2 ≠ 0 := fun q => by
    subst q
    rw [e2] at z2
    have p := Nat.mul_pos (show 0 < d.toInt.toNat by omega) one64_pos
    rw [← z2] at p
    have : zmag b64 (.fin false 0 q2) = 0 := by show 0 * _ = 0; exact Nat.zero_mul _
    omega
  have hB : Jvm.RoadKit.Big64 1023 (FP.i2d d) := by rw [Jvm.RoadKit.i2d_w]; exact Jvm.RoadKit.l2d_big (own_nz64 hne)
  have hmag := Jvm.RoadKit.ddiv_mag (K := 1088) (L := 1023) (Jvm.Free.Fl.l2d_mag k) hB (by decide) (by decide)
  have hF := Jvm.Free.Fl.fin64_core.mp (hmag.fin (by decide))
  have hv : val64 (FP.ddiv (FP.l2d k) (FP.i2d d)) = roundRatio b64 false c1 c2 (q1 - q2) := by
    show val64 (Jvm.FP.Core.ddiv (FP.l2d k) (FP.i2d d)) = _
    rw [val64_ddiv, e1, e2]
    simp [quotient, h2]
  refine ⟨by rw [hv]; exact roundRatio_ne_nan _ _ _ _ _, ?_, fun {c' q'} hc hq => ?_⟩
  · unfold zval
    rw [hv, sgn_roundRatio]; rfl
  · have h := own_quot e1 e2 h2 hF hc hq
    rw [z2] at h
    refine ⟨fun g => h.1 ?_, fun g => h.2 ?_⟩
    · rw [← Nat.mul_assoc]; exact Nat.mul_le_mul_right _ g
    · rw [← Nat.mul_assoc]; exact Nat.mul_le_mul_right _ g
theorem own_le {a b : UInt64} (ha : val64 a ≠ .nan) (hb : val64 b ≠ .nan) (h : zval b64 (val64 a) ≤ zval b64 (val64 b)) : ¬ ((0 : Int32) < cmpValue (FP.dcmp a b) .g) := by
  rw [show FP.dcmp a b = some (compare (zval b64 (val64 a)) (zval b64 (val64 b))) from dcmp_zval ha hb]
  generalize zval b64 (val64 a) = x at *
  generalize zval b64 (val64 b) = y at *
  rcases Int.lt_or_eq_of_le h with h | h
  · rw [show compare x y = .lt from Int.compare_eq_lt.mpr h]; decide
  · rw [show compare x y = .eq from Int.compare_eq_eq.mpr h]; decide
theorem own_lt {a b : UInt64} (ha : val64 a ≠ .nan) (hb : val64 b ≠ .nan) (h : zval b64 (val64 a) < zval b64 (val64 b)) : cmpValue (FP.dcmp a b) .g < (0 : Int32) := by
  rw [show FP.dcmp a b = some (compare (zval b64 (val64 a)) (zval b64 (val64 b))) from dcmp_zval ha hb]
  rw [show compare (zval b64 (val64 a)) (zval b64 (val64 b)) = .lt from Int.compare_eq_lt.mpr h]; decide
theorem own_eq {a b : UInt64} (ha : val64 a ≠ .nan) (hb : val64 b ≠ .nan) (h : zval b64 (val64 a) = zval b64 (val64 b)) : cmpValue (FP.dcmp a b) .l = (0 : Int32) := by
  rw [show FP.dcmp a b = some (compare (zval b64 (val64 a)) (zval b64 (val64 b))) from dcmp_zval ha hb]
  rw [show compare (zval b64 (val64 a)) (zval b64 (val64 b)) = .eq from Int.compare_eq_eq.mpr h]; decide
theorem own_lnan {k : Int64} (h0 : 0 ≤ k.toInt) : val64 (FP.l2d k) ≠ .nan ∧ zval b64 (val64 (FP.l2d k)) = (zmag b64 (val64 (FP.l2d k)) : Int) := by
  obtain ⟨c, q, e⟩ := own_l2d h0
  rw [e]
  exact ⟨Datum.noConfusion, rfl⟩
theorem own_n64 {k : Int64} (h : ¬ k < (0 : Int64)) : 0 ≤ k.toInt := by
  rw [Int64.lt_iff_toInt_lt] at h
  have e0 : (0 : Int64).toInt = 0 := by decide
  omega
theorem own_avg {d : Int32} (hnz : ¬ d = 0) (k : Int64) : avg d k = FP.ddiv (FP.l2d k) (FP.i2d d) := if_neg hnz
theorem own_zero (k : Int64) : cmpValue (FP.dcmp (avg (0 : Int32) k) (0 : UInt64)) .l = (0 : Int32) := by
  rw [show avg (0 : Int32) k = 0 from if_pos rfl]
  decide +kernel
theorem own_one {d : Int32} {k : Int64} (h : d = (1 : Int32)) (hk : ¬ k < (0 : Int64)) : cmpValue (FP.dcmp (avg d k) (FP.l2d k)) .l = (0 : Int32) := by
  subst h
  have h0 := own_n64 hk
  obtain ⟨a1, a2, a3⟩ := own_div (d := 1) h0 (by decide)
  obtain ⟨b1, b2⟩ := own_lnan h0
  obtain ⟨c, q, e⟩ := own_l2d h0
  have f := val64_fits (FP.l2d k)
  rw [e] at f
  have g := a3 (c' := c) (q' := q) f.1 f.2.1
  have zz : zmag b64 (val64 (FP.l2d k)) = inUnits c q b64.qmin := by rw [e]; rfl
  have e1 : (1 : Int32).toInt.toNat = 1 := by decide
  rw [e1, Nat.mul_one, zz] at g
  rw [own_avg (by decide)]
  refine own_eq a1 b1 ?_
  rw [a2, b2, zz]
  have := g.1 (Nat.le_refl _)
  have := g.2 (Nat.le_refl _)
  omega
theorem own_ge0 {d : Int32} {k : Int64} (hd0 : ¬ d < (0 : Int32)) (hnz : ¬ d = 0) (hk : ¬ k < (0 : Int64)) : ¬ ((0 : Int32) < cmpValue (FP.dcmp (0 : UInt64) (avg d k)) .g) := by
  obtain ⟨a1, a2, -⟩ := own_div (own_n64 hk) (own_dpos hd0 hnz)
  rw [own_avg hnz]
  refine own_le (by decide +kernel) a1 ?_
  rw [a2, zval64_zero]
  exact Int.natCast_nonneg _
theorem own_lebig {d : Int32} {k : Int64} (hd0 : ¬ d < (0 : Int32)) (hnz : ¬ d = 0) (hk : ¬ k < (0 : Int64)) : ¬ ((0 : Int32) < cmpValue (FP.dcmp (avg d k) (FP.l2d k)) .g) := by
  have h0 := own_n64 hk
  have hd := own_dpos hd0 hnz
  obtain ⟨a1, a2, a3⟩ := own_div h0 hd
  obtain ⟨b1, b2⟩ := own_lnan h0
  obtain ⟨c, q, e⟩ := own_l2d h0
  have f := val64_fits (FP.l2d k)
  rw [e] at f
  have g := a3 (c' := c) (q' := q) f.1 f.2.1
  have zz : zmag b64 (val64 (FP.l2d k)) = inUnits c q b64.qmin := by rw [e]; rfl
  rw [zz] at g
  rw [own_avg hnz]
  refine own_le a1 b1 ?_
  rw [a2, b2, zz]
  have := g.2 (Nat.le_mul_of_pos_right _ (by omega))
  omega
theorem own_u0 (n : Nat) : inUnits n 0 b64.qmin = n * one64 := rfl
theorem own_u32 (n : Nat) : inUnits n (-32) b64.qmin = n * 2 ^ 1042 := rfl
theorem own_o32 : one64 = 2 ^ 32 * 2 ^ 1042 := by unfold one64; rw [← Nat.pow_add]
theorem own_exact {d : Int32} {k q : Int64} (hd0 : ¬ d < (0 : Int32)) (hnz : ¬ d = 0) (hk0 : ¬ k < (0 : Int64)) (hk1 : k.toInt ≤ 9007199254740991) (hq0 : 0 ≤ q.toInt) (hkq : k.toInt = q.toInt * d.toInt) : cmpValue (FP.dcmp (avg d k) (FP.l2d q)) .l = (0 : Int32) := by
  have h0 := own_n64 hk0
  have hd := own_dpos hd0 hnz
  have hq1 : q.toInt ≤ 9007199254740991 := by
    have : q.toInt * 1 ≤ q.toInt * d.toInt := Int.mul_le_mul_of_nonneg_left (by omega) hq0
    omega
  obtain ⟨a1, a2, a3⟩ := own_div h0 hd
  obtain ⟨b1, b2⟩ := own_lnan hq0
  have g := a3 (c' := q.toInt.toNat) (q' := 0) (by omega) (by decide)
  have zk := own_zl h0 (by omega)
  have zq := own_zl hq0 (by omega)
  have ek : k.toInt.toNat = q.toInt.toNat * d.toInt.toNat := by
    rw [hkq, Int.toNat_mul hq0 (Int.le_of_lt hd)]
  rw [zk, own_u0, ek] at g
  have ee : q.toInt.toNat * one64 * d.toInt.toNat = q.toInt.toNat * d.toInt.toNat * one64 := Nat.mul_right_comm _ _ _
  rw [ee] at g
  rw [own_avg hnz]
  refine own_eq a1 b1 ?_
  rw [a2, b2, zq]
  have := g.1 (Nat.le_refl _)
  have := g.2 (Nat.le_refl _)
  omega
theorem own_facts {d : Int32} {k q r : Int64} (hd0 : ¬ d < (0 : Int32)) (hnz : ¬ d = 0) (hk0 : ¬ k < (0 : Int64)) (hk1 : k.toInt ≤ 9007199254740991) (hq0 : 0 ≤ q.toInt) (hkq : k.toInt = q.toInt * d.toInt + r.toInt) (hr0 : 0 ≤ r.toInt) (hr1 : r.toInt < d.toInt) :
    ∃ (K Q D R : Nat), k.toInt = K ∧ q.toInt = Q ∧ d.toInt = D ∧ r.toInt = R ∧ K = Q * D + R ∧ R < D ∧ K ≤ 9007199254740991 ∧ Q ≤ 9007199254740991 := by
  have h0 := own_n64 hk0
  have hd := own_dpos hd0 hnz
  refine ⟨k.toInt.toNat, q.toInt.toNat, d.toInt.toNat, r.toInt.toNat, by omega, by omega, by omega, by omega, ?_, by omega, by omega, ?_⟩
  · rw [hkq, Int.toNat_add (Int.mul_nonneg hq0 (Int.le_of_lt hd)) hr0, Int.toNat_mul hq0 (Int.le_of_lt hd)]
  · have : q.toInt * 1 ≤ q.toInt * d.toInt := Int.mul_le_mul_of_nonneg_left (by omega) hq0
    omega
theorem own_lo {d : Int32} {k q r : Int64} (hd0 : ¬ d < (0 : Int32)) (hnz : ¬ d = 0) (hk0 : ¬ k < (0 : Int64)) (hk1 : k.toInt ≤ 9007199254740991) (hq0 : 0 ≤ q.toInt) (hkq : k.toInt = q.toInt * d.toInt + r.toInt) (hr0 : 0 ≤ r.toInt) (hr1 : r.toInt < d.toInt) : ¬ ((0 : Int32) < cmpValue (FP.dcmp (FP.l2d q) (avg d k)) .g) := by
  obtain ⟨K, Q, D, R, eK, eQ, eD, eR, hK, hR, hK1, hQ1⟩ := own_facts hd0 hnz hk0 hk1 hq0 hkq hr0 hr1
  obtain ⟨a1, a2, a3⟩ := own_div (own_n64 hk0) (own_dpos hd0 hnz)
  obtain ⟨b1, b2⟩ := own_lnan hq0
  have zk := own_zl (own_n64 hk0) (by omega)
  have zq := own_zl hq0 (by omega)
  have g := a3 (c' := Q) (q' := 0) (by omega) (by decide)
  rw [eK] at zk; rw [eQ] at zq; rw [eD] at g
  simp only [Int.toNat_natCast] at zk zq g
  rw [zk, own_u0] at g
  rw [own_avg hnz]
  refine own_le b1 a1 ?_
  rw [a2, b2, zq]
  have := g.1 (by rw [Nat.mul_right_comm]; exact Nat.mul_le_mul_right _ (by omega))
  omega
theorem own_hi {d : Int32} {k q r : Int64} (hd0 : ¬ d < (0 : Int32)) (hnz : ¬ d = 0) (hk0 : ¬ k < (0 : Int64)) (hk1 : k.toInt ≤ 9007199254740991) (hq0 : 0 ≤ q.toInt) (hkq : k.toInt = q.toInt * d.toInt + r.toInt) (hr0 : 0 ≤ r.toInt) (hr1 : r.toInt < d.toInt) (hrz : 0 < r.toInt) : ¬ ((0 : Int32) < cmpValue (FP.dcmp (avg d k) (FP.l2d (q + (1 : Int64)))) .g) := by
  obtain ⟨K, Q, D, R, eK, eQ, eD, eR, hK, hR, hK1, hQ1⟩ := own_facts hd0 hnz hk0 hk1 hq0 hkq hr0 hr1
  have hQ2 : Q * 2 ≤ Q * D := Nat.mul_le_mul_left _ (by omega)
  have e1 := own_qm1v hq0 (by omega)
  obtain ⟨a1, a2, a3⟩ := own_div (own_n64 hk0) (own_dpos hd0 hnz)
  obtain ⟨b1, b2⟩ := own_lnan (k := q + (1 : Int64)) (by omega)
  have zk := own_zl (own_n64 hk0) (by omega)
  have zq := own_zl (k := q + (1 : Int64)) (by omega) (by omega)
  have g := a3 (c' := Q + 1) (q' := 0) (by omega) (by decide)
  rw [eK] at zk; rw [e1, eQ] at zq; rw [eD] at g
  have eq1 : ((Q : Int) + 1).toNat = Q + 1 := by omega
  rw [eq1] at zq
  simp only [Int.toNat_natCast] at zk g
  rw [zk, own_u0] at g
  rw [own_avg hnz]
  refine own_le a1 b1 ?_
  rw [a2, b2, zq]
  have := g.2 (by rw [Nat.mul_right_comm]; exact Nat.mul_le_mul_right _ (by rw [Nat.add_mul, Nat.one_mul]; omega))
  omega
theorem own_rz {r : Int64} (hr0 : 0 ≤ r.toInt) (h : ¬ lcmpW r (0 : Int64) = (0 : Int32)) : 0 < r.toInt := by
  rw [lw_eq] at h
  have : ¬ r.toInt = 0 := fun q => h (Int64.toInt_inj.mp q)
  omega
theorem own_small {q : Int64} (h : lcmpW q (1048576 : Int64) < (0 : Int32)) : q.toInt < 1048576 := by
  rw [lw_lt, Int64.lt_iff_toInt_lt] at h
  have e : (1048576 : Int64).toInt = 1048576 := by decide
  omega
theorem own_lo2 {d : Int32} {k q r : Int64} (hd0 : ¬ d < (0 : Int32)) (hnz : ¬ d = 0) (hk0 : ¬ k < (0 : Int64)) (hk1 : k.toInt ≤ 9007199254740991) (hq0 : 0 ≤ q.toInt) (hkq : k.toInt = q.toInt * d.toInt + r.toInt) (hr0 : 0 ≤ r.toInt) (hr1 : r.toInt < d.toInt) (hrz : 0 < r.toInt) (hq : q.toInt < 1048576) : cmpValue (FP.dcmp (FP.l2d q) (avg d k)) .g < (0 : Int32) := by
  obtain ⟨K, Q, D, R, eK, eQ, eD, eR, hK, hR, hK1, hQ1⟩ := own_facts hd0 hnz hk0 hk1 hq0 hkq hr0 hr1
  have bd := d.toInt_lt
  obtain ⟨a1, a2, a3⟩ := own_div (own_n64 hk0) (own_dpos hd0 hnz)
  obtain ⟨b1, b2⟩ := own_lnan hq0
  have zk := own_zl (own_n64 hk0) (by omega)
  have zq := own_zl hq0 (by omega)
  have g := a3 (c' := Q * 2 ^ 32 + 1) (q' := -32) (by omega) (by decide)
  rw [eK] at zk; rw [eQ] at zq; rw [eD] at g
  simp only [Int.toNat_natCast] at zk zq g
  rw [zk, own_u32, own_o32] at g
  rw [own_o32] at zq
  rw [own_avg hnz]
  refine own_lt b1 a1 ?_
  rw [a2, b2, zq]
  have hp : 0 < 2 ^ 1042 := Nat.two_pow_pos _
  generalize 2 ^ 1042 = W at *
  have t1 : (Q * 2 ^ 32 + 1) * D ≤ K * 2 ^ 32 := by
    have : (Q * 2 ^ 32 + 1) * D = Q * D * 2 ^ 32 + D := by rw [Nat.add_mul, Nat.one_mul, Nat.mul_right_comm]
    rw [this, hK, Nat.add_mul]
    omega
  have := g.1 (by
    rw [Nat.mul_right_comm, ← Nat.mul_assoc]
    exact Nat.mul_le_mul_right _ t1)
  have t2 : (Q * 2 ^ 32 + 1) * W = Q * (2 ^ 32 * W) + W := by rw [Nat.add_mul, Nat.one_mul, Nat.mul_assoc]
  omega
theorem own_hi2 {d : Int32} {k q r : Int64} (hd0 : ¬ d < (0 : Int32)) (hnz : ¬ d = 0) (hk0 : ¬ k < (0 : Int64)) (hk1 : k.toInt ≤ 9007199254740991) (hq0 : 0 ≤ q.toInt) (hkq : k.toInt = q.toInt * d.toInt + r.toInt) (hr0 : 0 ≤ r.toInt) (hr1 : r.toInt < d.toInt) (hrz : 0 < r.toInt) (hq : q.toInt < 1048576) : cmpValue (FP.dcmp (avg d k) (FP.l2d (q + (1 : Int64)))) .g < (0 : Int32) := by
  obtain ⟨K, Q, D, R, eK, eQ, eD, eR, hK, hR, hK1, hQ1⟩ := own_facts hd0 hnz hk0 hk1 hq0 hkq hr0 hr1
  have bd := d.toInt_lt
  have e1 := own_qm1v hq0 (by omega)
  obtain ⟨a1, a2, a3⟩ := own_div (own_n64 hk0) (own_dpos hd0 hnz)
  obtain ⟨b1, b2⟩ := own_lnan (k := q + (1 : Int64)) (by omega)
  have zk := own_zl (own_n64 hk0) (by omega)
  have zq := own_zl (k := q + (1 : Int64)) (by omega) (by omega)
  have g := a3 (c' := (Q + 1) * 2 ^ 32 - 1) (q' := -32) (by omega) (by decide)
  rw [eK] at zk; rw [e1, eQ] at zq; rw [eD] at g
  have eq1 : ((Q : Int) + 1).toNat = Q + 1 := by omega
  rw [eq1] at zq
  simp only [Int.toNat_natCast] at zk g
  rw [zk, own_u32, own_o32] at g
  rw [own_o32] at zq
  rw [own_avg hnz]
  refine own_lt a1 b1 ?_
  rw [a2, b2, zq]
  have hp : 0 < 2 ^ 1042 := Nat.two_pow_pos _
  generalize 2 ^ 1042 = W at *
  have t0 : (Q + 1) * 2 ^ 32 - 1 + 1 = (Q + 1) * 2 ^ 32 := by omega
  generalize hM : (Q + 1) * 2 ^ 32 - 1 = M at *
  have t1 : K * 2 ^ 32 ≤ M * D := by
    have a : (M + 1) * D = (Q * D + D) * 2 ^ 32 := by rw [t0, Nat.mul_right_comm, Nat.add_mul, Nat.one_mul]
    rw [Nat.add_mul, Nat.one_mul, Nat.add_mul] at a
    rw [hK, Nat.add_mul]
    omega
  have := g.2 (by
    rw [Nat.mul_right_comm, ← Nat.mul_assoc]
    exact Nat.mul_le_mul_right _ t1)
  have t2 : (Q + 1) * (2 ^ 32 * W) = M * W + W := by rw [← Nat.mul_assoc, ← t0, Nat.add_mul, Nat.one_mul]
  omega
end FPpart
def Q1 (Z : State) (a : Addr) (d : Int32) (k : Int64) (h0 : Heap) (n0 : Nat) (v : Option Value) (h : Heap) (L : List Loc) : Prop := v = none ∧ Fr n0 L ∧ Keep h0 h [a] ∧ Fld Z h a "com/example/net_weight/netweight/core/index/CollectionStatistics" "documents" "I" (.int d) ∧ Fld Z h a "com/example/net_weight/netweight/core/index/CollectionStatistics" "tokens" "J" (.long k)
def Q2 (Z : State)  (h0 : Heap) (n0 : Nat) (v : Option Value) (h : Heap) (L : List Loc) : Prop := v = none ∧ Fr n0 L ∧ h = h0
def Q4 (Z : State) (d : Int32) (k : Int64) (h0 : Heap) (n0 : Nat) (v : Option Value) (h : Heap) (L : List Loc) : Prop := v = some (.double (avg d k)) ∧ Fr n0 L ∧ h = h0
def Q0 (Z : State)  (h0 : Heap) (n0 : Nat) (v : Option Value) (h : Heap) (L : List Loc) : Prop := v = some (.int 1) ∧ Fr n0 L
theorem d1_0 : decode prog_6_method_1_code 0 = .ok (.aload_n 0, 1) := by decide +kernel
theorem d1_1 : decode prog_6_method_1_code 1 = .ok (.invokespecial 1, 3) := by decide +kernel
theorem d1_4 : decode prog_6_method_1_code 4 = .ok (.iload_n 1, 1) := by decide +kernel
theorem d1_5 : decode prog_6_method_1_code 5 = .ok (.ifCond .lt 13, 3) := by decide +kernel
theorem d1_8 : decode prog_6_method_1_code 8 = .ok (.iload_n 2, 1) := by decide +kernel
theorem d1_9 : decode prog_6_method_1_code 9 = .ok (.ifCond .lt 9, 3) := by decide +kernel
theorem d1_12 : decode prog_6_method_1_code 12 = .ok (.lload_n 3, 1) := by decide +kernel
theorem d1_13 : decode prog_6_method_1_code 13 = .ok (.lconst 0, 1) := by decide +kernel
theorem d1_14 : decode prog_6_method_1_code 14 = .ok (.lcmp, 1) := by decide +kernel
theorem d1_15 : decode prog_6_method_1_code 15 = .ok (.ifCond .ge 19, 3) := by decide +kernel
theorem d1_18 : decode prog_6_method_1_code 18 = .ok (.new 7, 3) := by decide +kernel
theorem d1_21 : decode prog_6_method_1_code 21 = .ok (.dup, 1) := by decide +kernel
theorem d1_22 : decode prog_6_method_1_code 22 = .ok (.iload_n 1, 1) := by decide +kernel
theorem d1_23 : decode prog_6_method_1_code 23 = .ok (.iload_n 2, 1) := by decide +kernel
theorem d1_24 : decode prog_6_method_1_code 24 = .ok (.lload_n 3, 1) := by decide +kernel
theorem d1_25 : decode prog_6_method_1_code 25 = .ok (.invokedynamic 9, 5) := by decide +kernel
theorem d1_30 : decode prog_6_method_1_code 30 = .ok (.invokespecial 13, 3) := by decide +kernel
theorem d1_33 : decode prog_6_method_1_code 33 = .ok (.athrow, 1) := by decide +kernel
theorem d1_34 : decode prog_6_method_1_code 34 = .ok (.aload_n 0, 1) := by decide +kernel
theorem d1_35 : decode prog_6_method_1_code 35 = .ok (.iload_n 1, 1) := by decide +kernel
theorem d1_36 : decode prog_6_method_1_code 36 = .ok (.putfield 16, 3) := by decide +kernel
theorem d1_39 : decode prog_6_method_1_code 39 = .ok (.aload_n 0, 1) := by decide +kernel
theorem d1_40 : decode prog_6_method_1_code 40 = .ok (.iload_n 2, 1) := by decide +kernel
theorem d1_41 : decode prog_6_method_1_code 41 = .ok (.putfield 22, 3) := by decide +kernel
theorem d1_44 : decode prog_6_method_1_code 44 = .ok (.aload_n 0, 1) := by decide +kernel
theorem d1_45 : decode prog_6_method_1_code 45 = .ok (.lload_n 3, 1) := by decide +kernel
theorem d1_46 : decode prog_6_method_1_code 46 = .ok (.putfield 25, 3) := by decide +kernel
theorem d1_49 : decode prog_6_method_1_code 49 = .ok (.return_, 1) := by decide +kernel
theorem pn_1 : plainName "com/example/net_weight/netweight/core/index/CollectionStatistics" = true := by first | (simp [plainName, overriddenIn]; done) | decide +kernel
theorem d2_0 : decode jdk_30_method_1_code 0 = .ok (.aload_n 0, 1) := by decide +kernel
theorem d2_1 : decode jdk_30_method_1_code 1 = .ok (.invokespecial 1, 3) := by decide +kernel
theorem d2_4 : decode jdk_30_method_1_code 4 = .ok (.return_, 1) := by decide +kernel
theorem pn_2 : plainName "java/lang/Record" = true := by first | (simp [plainName, overriddenIn]; done) | decide +kernel
theorem d4_0 : decode prog_6_method_2_code 0 = .ok (.aload_n 0, 1) := by decide +kernel
theorem d4_1 : decode prog_6_method_2_code 1 = .ok (.getfield 16, 3) := by decide +kernel
theorem d4_4 : decode prog_6_method_2_code 4 = .ok (.ifCond .ne 7, 3) := by decide +kernel
theorem d4_7 : decode prog_6_method_2_code 7 = .ok (.dconst 0, 1) := by decide +kernel
theorem d4_8 : decode prog_6_method_2_code 8 = .ok (.goto 14, 3) := by decide +kernel
theorem d4_11 : decode prog_6_method_2_code 11 = .ok (.aload_n 0, 1) := by decide +kernel
theorem d4_12 : decode prog_6_method_2_code 12 = .ok (.getfield 25, 3) := by decide +kernel
theorem d4_15 : decode prog_6_method_2_code 15 = .ok (.l2d, 1) := by decide +kernel
theorem d4_16 : decode prog_6_method_2_code 16 = .ok (.aload_n 0, 1) := by decide +kernel
theorem d4_17 : decode prog_6_method_2_code 17 = .ok (.getfield 16, 3) := by decide +kernel
theorem d4_20 : decode prog_6_method_2_code 20 = .ok (.i2d, 1) := by decide +kernel
theorem d4_21 : decode prog_6_method_2_code 21 = .ok (.ddiv, 1) := by decide +kernel
theorem d4_22 : decode prog_6_method_2_code 22 = .ok (.dreturn, 1) := by decide +kernel
theorem pn_4 : plainName "com/example/net_weight/netweight/core/index/CollectionStatistics" = true := by first | (simp [plainName, overriddenIn]; done) | decide +kernel
theorem pn_0 : plainName "com/example/net_weight/netweight/core/index/CollectionStatisticsAverageDocumentLengthPinLaw" = true := by first | (simp [plainName, overriddenIn]; done) | decide +kernel
theorem ef_rm2 (m : MethodId) (x0 : Addr)  : entryFrame m #[(.ref x0)] 1 = mkF m 0 #[.val (.ref x0)] [] := by first | (simp [entryFrame, mkF, argsToLocals, Value.category]; done) | rfl
set_option maxRecDepth 65536 in
set_option maxHeartbeats 40000000 in
theorem rm2 (l : Launch) (Z : State) (a0 : Array Value) (hw : ∀ d ∈ tables_1, d.before a0 Z = true) (ws : List Jvm.Cond) (a1 : Addr) (h0 : Heap) (n0 : Nat) (Z0 : n0 ≤ h0.size) :
    MetFree l (⟨"java/lang/Record", "<init>", "()V"⟩ : MethodName) (head1 (Jvm.Cond.code (⟨"java/lang/Record", "<init>", "()V"⟩ : MethodName) jdk_30_method_1_code 1 none :: ws) ({ frames := 1, cells := 0, slots := 0, locals := 12 } : Room)) (fun a U => a = #[(.ref a1)] ∧ Z.Warmed39 U.vm ∧ U.heap = h0) (fun _ _ _ _ _ => True) (fun _ U o U' => ∃ v L, o = .returned v ∧ Q2 Z  h0 n0 v U'.heap L ∧ FrameEnd U o U' L ({ frames := 1, cells := 0, slots := 0, locals := 12 } : Room).cells ({ frames := 1, cells := 0, slots := 0, locals := 12 } : Room).slots) := by
  refine MetFree.of_bodySF (plainFor_of_name pn_2) hisR ?_
  intro p e s m args below meth c s₁ Bd hml0 hP hK
  obtain ⟨rfl, hZ, hh⟩ := hP
  have hx := Bd.exec
  have hby := Bd.bytes
  have hml : c.maxLocals = 1 := hml0
  have hown : s.vm.findClass "java/lang/Record" = some m.cls := findClass_of_methodNamed Bd.named
  have hnm := (name_of_methodNamed Bd.named Bd.method).1
  have X0 : Stand p l e ({ frames := 1, cells := 0, slots := 0, locals := 12 } : Room) s m #[(.ref a1)] below meth c s₁ [] 0 0 := Stand.of_body Bd
  have e0 : s₁.heap = h0 := by rw [← hh, Bd.state]; rfl
  have N0 := Fr.nil n0
  refine Ends.st (tb := p.tables) (e := e) (below := below) (S' := s₁.setTop (mkF m 0 #[.val (.ref a1)] [])) (fun t k => castTop (ef_rm2 m a1) k) ?_
  refine Ends.st (S' := s₁.setTop (mkF m 1 #[.val (.ref a1)] [(.ref a1)])) (fun _ k => XS.aloadN X0.here hx rfl (hb hby d2_0) rfl rfl k) ?_
  obtain ⟨T1, X1, e1, st1⟩ := initO X0 hx hZ hown (hw _ (List.mem_of_getElem? (i := 13) rfl)) (hw _ (List.mem_of_getElem? (i := 14) rfl)) (hw _ (List.mem_of_getElem? (i := 15) rfl)) e0 (g := (mkF m 1 #[.val (.ref a1)] [(.ref a1)])) rfl (by rw [hml]; rfl) rfl (hb hby d2_1) (by decide) (W := 0) (by show 2 * 0 + _ ≤ _; exact Nat.le_of_eq rfl) (by decide)
  refine Ends.st (S' := T1.setTop (mkF m 4 #[.val (.ref a1)] [])) (fun _ k => st1 _ k) ?_
  obtain ⟨fs, hr, hrun, hended, hW, hsame⟩ := X1.leave (v := none) (fun _ => rfl)
  exact ⟨_, _, X1.returnOut hx Bd.returns (hb hby d2_4) hr, hrun, hended, _, _, rfl, (by show Q2 Z  h0 n0 _ T1.heap _; rw [e1]; exact ⟨rfl, N0, rfl⟩), ⟨_, rfl⟩, hW, hsame.mono (by decide) (by decide)⟩
theorem ef_rm1 (m : MethodId) (x0 : Addr) (x1 : Int32) (x2 : Int32) (x3 : Int64)  : entryFrame m #[(.ref x0), (.int x1), (.int x2), (.long x3)] 5 = mkF m 0 #[.val (.ref x0), .val (.int x1), .val (.int x2), .val (.long x3), .second] [] := by first | (simp [entryFrame, mkF, argsToLocals, Value.category]; done) | rfl
set_option maxRecDepth 65536 in
set_option maxHeartbeats 40000000 in
theorem rm1 (l : Launch) (Z : State) (a0 : Array Value) (hw : ∀ d ∈ tables_1, d.before a0 Z = true) (ws : List Jvm.Cond) (a1 : Addr) (v0 : Int32) (v1 : Int32) (v2 : Int64) (h0 : Heap) (n0 : Nat) (Z0 : n0 ≤ h0.size) (E1 : Exa Z h0 a1 "com/example/net_weight/netweight/core/index/CollectionStatistics") (F0 : Fld Z h0 a1 "com/example/net_weight/netweight/core/index/CollectionStatistics" "documents" "I" (.int (0 : Int32))) (F1 : Fld Z h0 a1 "com/example/net_weight/netweight/core/index/CollectionStatistics" "terms" "I" (.int (0 : Int32))) (F2 : Fld Z h0 a1 "com/example/net_weight/netweight/core/index/CollectionStatistics" "tokens" "J" (.long (0 : Int64))) (g1 : n0 ≤ a1) (hp0 : ¬ (v0 < (0 : Int32))) (hp1 : ¬ (v1 < (0 : Int32))) (hp2 : ¬ (v2 < (0 : Int64))) :
    MetFree l (⟨"com/example/net_weight/netweight/core/index/CollectionStatistics", "<init>", "(IIJ)V"⟩ : MethodName) (head1 (Jvm.Cond.code (⟨"com/example/net_weight/netweight/core/index/CollectionStatistics", "<init>", "(IIJ)V"⟩ : MethodName) prog_6_method_1_code 5 none :: ws) ({ frames := 2, cells := 0, slots := 0, locals := 24 } : Room)) (fun a U => a = #[(.ref a1), (.int v0), (.int v1), (.long v2)] ∧ Z.Warmed39 U.vm ∧ U.heap = h0) (fun _ _ _ _ _ => True) (fun _ U o U' => ∃ v L, o = .returned v ∧ Q1 Z a1 v0 v2 h0 n0 v U'.heap L ∧ FrameEnd U o U' L ({ frames := 2, cells := 0, slots := 0, locals := 24 } : Room).cells ({ frames := 2, cells := 0, slots := 0, locals := 24 } : Room).slots) := by
  refine MetFree.of_bodySF (plainFor_of_name pn_1) hisR ?_
  intro p e s m args below meth c s₁ Bd hml0 hP hK
  obtain ⟨rfl, hZ, hh⟩ := hP
  have hx := Bd.exec
  have hby := Bd.bytes
  have hml : c.maxLocals = 5 := hml0
  have hown : s.vm.findClass "com/example/net_weight/netweight/core/index/CollectionStatistics" = some m.cls := findClass_of_methodNamed Bd.named
  have hnm := (name_of_methodNamed Bd.named Bd.method).1
  have X0 : Stand p l e ({ frames := 2, cells := 0, slots := 0, locals := 24 } : Room) s m #[(.ref a1), (.int v0), (.int v1), (.long v2)] below meth c s₁ [] 0 0 := Stand.of_body Bd
  have e0 : s₁.heap = h0 := by rw [← hh, Bd.state]; rfl
  have N0 := Fr.nil n0
  refine Ends.st (tb := p.tables) (e := e) (below := below) (S' := s₁.setTop (mkF m 0 #[.val (.ref a1), .val (.int v0), .val (.int v1), .val (.long v2), .second] [])) (fun t k => castTop (ef_rm1 m a1 v0 v1 v2) k) ?_
  refine Ends.st (S' := s₁.setTop (mkF m 1 #[.val (.ref a1), .val (.int v0), .val (.int v1), .val (.long v2), .second] [(.ref a1)])) (fun _ k => XS.aloadN X0.here hx rfl (hb hby d1_0) rfl rfl k) ?_
  obtain ⟨_, _, ⟨T1, L1, k1, n1⟩, -, X1, ⟨Lc1, hQ1, l1, y1, z1⟩, st1⟩ := X0.specialBack hx (y := (⟨"java/lang/Record", "<init>", "()V"⟩ : MethodName)) rfl hown (mvT hZ (hw _ (List.mem_of_getElem? (i := 8) rfl))) (mvT hZ (hw _ (List.mem_of_getElem? (i := 9) rfl))) (mvT hZ (hw _ (List.mem_of_getElem? (i := 12) rfl))) (by decide) (backOf (W := 0) (rm2 l Z a0 hw [] a1 h0 n0 Z0) hZ (hw _ (List.mem_of_getElem? (i := 12) rfl)) (hw _ (List.mem_of_getElem? (i := 11) rfl)) (by decide) (by decide)) (g := (mkF m 1 #[.val (.ref a1), .val (.int v0), .val (.int v1), .val (.long v2), .second] [(.ref a1)])) rfl (by rw [hml]; rfl) (Steps.refl _) (a := a1) (argsL := []) (rest := []) (lenOf pd_0 rfl) rfl (by show 2 * 0 + _ ≤ _; exact Nat.le_of_eq rfl) (hb hby d1_1) (fun _ _ => ⟨rfl, e0, (by decide : 0 + 0 ≤ _), (by decide : 0 + 0 ≤ _)⟩)
  dsimp only [Pt.U, Pt.locs, Pt.cells, Pt.slots] at X1 l1 y1 z1 st1 hQ1
  subst l1 y1 z1
  obtain ⟨rfl, N1q, e1⟩ := hQ1
  have N1 := Fr.app N0 N1q
  refine Ends.st (S' := T1.setTop (mkF m 4 #[.val (.ref a1), .val (.int v0), .val (.int v1), .val (.long v2), .second] [])) (fun _ k => st1.trans k) ?_
  refine Ends.st (S' := T1.setTop (mkF m 5 #[.val (.ref a1), .val (.int v0), .val (.int v1), .val (.long v2), .second] [(.int v0)])) (fun _ k => XS.iloadN X1.here hx rfl (hb hby d1_4) rfl k) ?_
  have hb2 : ¬ (v0 < (0 : Int32)) := hp0
  refine Ends.st (S' := T1.setTop (mkF m 8 #[.val (.ref a1), .val (.int v0), .val (.int v1), .val (.long v2), .second] [])) (fun _ k => XS.ifNo X1.here hx rfl (hb hby d1_5) rfl ((if0 _ _).trans (flt hb2).1) k) ?_
  refine Ends.st (S' := T1.setTop (mkF m 9 #[.val (.ref a1), .val (.int v0), .val (.int v1), .val (.long v2), .second] [(.int v1)])) (fun _ k => XS.iloadN X1.here hx rfl (hb hby d1_8) rfl k) ?_
  have hb3 : ¬ (v1 < (0 : Int32)) := hp1
  refine Ends.st (S' := T1.setTop (mkF m 12 #[.val (.ref a1), .val (.int v0), .val (.int v1), .val (.long v2), .second] [])) (fun _ k => XS.ifNo X1.here hx rfl (hb hby d1_9) rfl ((if0 _ _).trans (flt hb3).1) k) ?_
  refine Ends.st (S' := T1.setTop (mkF m 13 #[.val (.ref a1), .val (.int v0), .val (.int v1), .val (.long v2), .second] [(.long v2)])) (fun _ k => XS.lloadN X1.here hx rfl (hb hby d1_12) rfl k) ?_
  refine Ends.st (S' := T1.setTop (mkF m 14 #[.val (.ref a1), .val (.int v0), .val (.int v1), .val (.long v2), .second] [(.long (0 : Int64)), (.long v2)])) (fun _ k => XS.lconst X1.here hx rfl (hb hby d1_13) k) ?_
  refine Ends.st (S' := T1.setTop (mkF m 15 #[.val (.ref a1), .val (.int v0), .val (.int v1), .val (.long v2), .second] [(.int (lcmpW v2 (0 : Int64)))])) (fun _ k => XS.lcmp X1.here hx rfl (hb hby d1_14) rfl k) ?_
  have hb4 : ¬ ((lcmpW v2 (0 : Int64)) < (0 : Int32)) := by rw [lw_lt]; exact hp2
  refine Ends.st (S' := T1.setTop (mkF m 34 #[.val (.ref a1), .val (.int v0), .val (.int v1), .val (.long v2), .second] [])) (fun _ k => XS.ifYes X1.here hx rfl (pc0 := 15) (pc' := 34) rfl (hb hby d1_15) rfl ((if0 _ _).trans (flt hb4).2.1) (by decide) (by decide) k) ?_
  refine Ends.st (S' := T1.setTop (mkF m 35 #[.val (.ref a1), .val (.int v0), .val (.int v1), .val (.long v2), .second] [(.ref a1)])) (fun _ k => XS.aloadN X1.here hx rfl (hb hby d1_34) rfl rfl k) ?_
  refine Ends.st (S' := T1.setTop (mkF m 36 #[.val (.ref a1), .val (.int v0), .val (.int v1), .val (.long v2), .second] [(.int v0), (.ref a1)])) (fun _ k => XS.iloadN X1.here hx rfl (hb hby d1_35) rfl k) ?_
  obtain ⟨T5, h5, X5, e5, W5, st5⟩ := putF X1 hx hZ hown (host := "") (Or.inl (hw _ (List.mem_of_getElem? (i := 16) rfl))) Via.refl e1 F0 E1 (Or.inr ⟨(hw _ (List.mem_of_getElem? (i := 17) rfl)), rfl, hnm⟩) (hw _ (List.mem_of_getElem? (i := 3) rfl)) (ty := .int) (by decide) rfl rfl (g := (mkF m 36 #[.val (.ref a1), .val (.int v0), .val (.int v1), .val (.long v2), .second] [(.int v0), (.ref a1)])) rfl rfl (hb hby d1_36)
  have f6 := E1.wr W5
  have f7 := Nat.le_trans Z0 (Keep.of_wr W5).1
  have f8 := (Keep.refl h0 [a1]).wr W5 (Or.inl (by simp))
  have f9 := F1.other W5 (Or.inr (slot_ne (Or.inr (hw _ (List.mem_of_getElem? (i := 19) rfl))) (Or.inr (hw _ (List.mem_of_getElem? (i := 17) rfl))) (by decide) (t := .int) (t' := .int) (by decide) (by decide)))
  have f10 := F2.other W5 (Or.inr (slot_ne (Or.inr (hw _ (List.mem_of_getElem? (i := 21) rfl))) (Or.inr (hw _ (List.mem_of_getElem? (i := 17) rfl))) (by decide) (t := .long) (t' := .int) (by decide) (by decide)))
  have Fw5 := F0.same W5
  have N5 := Fr.snoc X5 N1 g1
  refine Ends.st (S' := T5.setTop (mkF m 39 #[.val (.ref a1), .val (.int v0), .val (.int v1), .val (.long v2), .second] [])) (fun _ k => st5 _ k) ?_
  refine Ends.st (S' := T5.setTop (mkF m 40 #[.val (.ref a1), .val (.int v0), .val (.int v1), .val (.long v2), .second] [(.ref a1)])) (fun _ k => XS.aloadN X5.here hx rfl (hb hby d1_39) rfl rfl k) ?_
  refine Ends.st (S' := T5.setTop (mkF m 41 #[.val (.ref a1), .val (.int v0), .val (.int v1), .val (.long v2), .second] [(.int v1), (.ref a1)])) (fun _ k => XS.iloadN X5.here hx rfl (hb hby d1_40) rfl k) ?_
  obtain ⟨T11, h11, X11, e11, W11, st11⟩ := putF X5 hx hZ hown (host := "") (Or.inl (hw _ (List.mem_of_getElem? (i := 18) rfl))) Via.refl e5 f9 f6 (Or.inr ⟨(hw _ (List.mem_of_getElem? (i := 19) rfl)), rfl, hnm⟩) (hw _ (List.mem_of_getElem? (i := 3) rfl)) (ty := .int) (by decide) rfl rfl (g := (mkF m 41 #[.val (.ref a1), .val (.int v0), .val (.int v1), .val (.long v2), .second] [(.int v1), (.ref a1)])) rfl rfl (hb hby d1_41)
  have f12 := f6.wr W11
  have f13 := Nat.le_trans f7 (Keep.of_wr W11).1
  have f14 := f8.wr W11 (Or.inl (by simp))
  have f15 := f10.other W11 (Or.inr (slot_ne (Or.inr (hw _ (List.mem_of_getElem? (i := 21) rfl))) (Or.inr (hw _ (List.mem_of_getElem? (i := 19) rfl))) (by decide) (t := .long) (t' := .int) (by decide) (by decide)))
  have f16 := Fw5.other W11 (Or.inr (slot_ne (Or.inr (hw _ (List.mem_of_getElem? (i := 17) rfl))) (Or.inr (hw _ (List.mem_of_getElem? (i := 19) rfl))) (by decide) (t := .int) (t' := .int) (by decide) (by decide)))
  have Fw11 := f9.same W11
  have N11 := Fr.snoc X11 N5 g1
  refine Ends.st (S' := T11.setTop (mkF m 44 #[.val (.ref a1), .val (.int v0), .val (.int v1), .val (.long v2), .second] [])) (fun _ k => st11 _ k) ?_
  refine Ends.st (S' := T11.setTop (mkF m 45 #[.val (.ref a1), .val (.int v0), .val (.int v1), .val (.long v2), .second] [(.ref a1)])) (fun _ k => XS.aloadN X11.here hx rfl (hb hby d1_44) rfl rfl k) ?_
  refine Ends.st (S' := T11.setTop (mkF m 46 #[.val (.ref a1), .val (.int v0), .val (.int v1), .val (.long v2), .second] [(.long v2), (.ref a1)])) (fun _ k => XS.lloadN X11.here hx rfl (hb hby d1_45) rfl k) ?_
  obtain ⟨T17, h17, X17, e17, W17, st17⟩ := putF X11 hx hZ hown (host := "") (Or.inl (hw _ (List.mem_of_getElem? (i := 20) rfl))) Via.refl e11 f15 f12 (Or.inr ⟨(hw _ (List.mem_of_getElem? (i := 21) rfl)), rfl, hnm⟩) (hw _ (List.mem_of_getElem? (i := 3) rfl)) (ty := .long) (by decide) rfl rfl (g := (mkF m 46 #[.val (.ref a1), .val (.int v0), .val (.int v1), .val (.long v2), .second] [(.long v2), (.ref a1)])) rfl rfl (hb hby d1_46)
  have f18 := f12.wr W17
  have f19 := Nat.le_trans f13 (Keep.of_wr W17).1
  have f20 := f14.wr W17 (Or.inl (by simp))
  have f21 := f16.other W17 (Or.inr (slot_ne (Or.inr (hw _ (List.mem_of_getElem? (i := 17) rfl))) (Or.inr (hw _ (List.mem_of_getElem? (i := 21) rfl))) (by decide) (t := .int) (t' := .long) (by decide) (by decide)))
  have f22 := Fw11.other W17 (Or.inr (slot_ne (Or.inr (hw _ (List.mem_of_getElem? (i := 19) rfl))) (Or.inr (hw _ (List.mem_of_getElem? (i := 21) rfl))) (by decide) (t := .int) (t' := .long) (by decide) (by decide)))
  have Fw17 := f15.same W17
  have N17 := Fr.snoc X17 N11 g1
  refine Ends.st (S' := T17.setTop (mkF m 49 #[.val (.ref a1), .val (.int v0), .val (.int v1), .val (.long v2), .second] [])) (fun _ k => st17 _ k) ?_
  obtain ⟨fs, hr, hrun, hended, hW, hsame⟩ := X17.leave (v := none) (fun _ => rfl)
  exact ⟨_, _, X17.returnOut hx Bd.returns (hb hby d1_49) hr, hrun, hended, _, _, rfl, (by show Q1 Z a1 v0 v2 h0 n0 _ T17.heap _; rw [e17]; exact ⟨rfl, N17, f20, f21, Fw17⟩), ⟨_, rfl⟩, hW, hsame.mono (by decide) (by decide)⟩
theorem ef_rm4 (m : MethodId) (x0 : Addr)  : entryFrame m #[(.ref x0)] 1 = mkF m 0 #[.val (.ref x0)] [] := by first | (simp [entryFrame, mkF, argsToLocals, Value.category]; done) | rfl
set_option maxRecDepth 65536 in
set_option maxHeartbeats 40000000 in
theorem rm4 (l : Launch) (Z : State) (a0 : Array Value) (hw : ∀ d ∈ tables_1, d.before a0 Z = true) (ws : List Jvm.Cond) (a1 : Addr) (v0 : Int32) (v2 : Int64) (h0 : Heap) (n0 : Nat) (Z0 : n0 ≤ h0.size) (F0 : Fld Z h0 a1 "com/example/net_weight/netweight/core/index/CollectionStatistics" "documents" "I" (.int v0)) (F2 : Fld Z h0 a1 "com/example/net_weight/netweight/core/index/CollectionStatistics" "tokens" "J" (.long v2)) :
    MetFree l (⟨"com/example/net_weight/netweight/core/index/CollectionStatistics", "averageDocumentLength", "()D"⟩ : MethodName) (head1 (Jvm.Cond.code (⟨"com/example/net_weight/netweight/core/index/CollectionStatistics", "averageDocumentLength", "()D"⟩ : MethodName) prog_6_method_2_code 1 (some .double) :: ws) ({ frames := 0, cells := 0, slots := 0, locals := 0 } : Room)) (fun a U => a = #[(.ref a1)] ∧ Z.Warmed39 U.vm ∧ U.heap = h0) (fun _ _ _ _ _ => True) (fun _ U o U' => ∃ v L, o = .returned v ∧ Q4 Z v0 v2 h0 n0 v U'.heap L ∧ FrameEnd U o U' L ({ frames := 0, cells := 0, slots := 0, locals := 0 } : Room).cells ({ frames := 0, cells := 0, slots := 0, locals := 0 } : Room).slots) := by
  refine MetFree.of_bodySF (plainFor_of_name pn_4) hisR ?_
  intro p e s m args below meth c s₁ Bd hml0 hP hK
  obtain ⟨rfl, hZ, hh⟩ := hP
  have hx := Bd.exec
  have hby := Bd.bytes
  have hml : c.maxLocals = 1 := hml0
  have hown : s.vm.findClass "com/example/net_weight/netweight/core/index/CollectionStatistics" = some m.cls := findClass_of_methodNamed Bd.named
  have hnm := (name_of_methodNamed Bd.named Bd.method).1
  have X0 : Stand p l e ({ frames := 0, cells := 0, slots := 0, locals := 0 } : Room) s m #[(.ref a1)] below meth c s₁ [] 0 0 := Stand.of_body Bd
  have e0 : s₁.heap = h0 := by rw [← hh, Bd.state]; rfl
  have N0 := Fr.nil n0
  refine Ends.st (tb := p.tables) (e := e) (below := below) (S' := s₁.setTop (mkF m 0 #[.val (.ref a1)] [])) (fun t k => castTop (ef_rm4 m a1) k) ?_
  refine Ends.st (S' := s₁.setTop (mkF m 1 #[.val (.ref a1)] [(.ref a1)])) (fun _ k => XS.aloadN X0.here hx rfl (hb hby d4_0) rfl rfl k) ?_
  obtain ⟨T1, X1, e1, st1⟩ := getF X0 hx hZ hown (host := "") (Or.inl (hw _ (List.mem_of_getElem? (i := 16) rfl))) Via.refl e0 (F0) (g := (mkF m 1 #[.val (.ref a1)] [(.ref a1)])) rfl rfl (hb hby d4_1)
  refine Ends.st (S' := T1.setTop (mkF m 4 #[.val (.ref a1)] [(.int v0)])) (fun _ k => st1 _ k) ?_
  by_cases hc2 : v0 = (0 : Int32)
  · refine Ends.st (S' := T1.setTop (mkF m 7 #[.val (.ref a1)] [])) (fun _ k => XS.ifNo X1.here hx rfl (hb hby d4_4) rfl ((if0 _ _).trans (teq hc2).2) k) ?_
    refine Ends.st (S' := T1.setTop (mkF m 8 #[.val (.ref a1)] [(.double (0 : UInt64))])) (fun _ k => XS.dconst0 X1.here hx rfl (hb hby d4_7) rfl k) ?_
    refine Ends.st (S' := T1.setTop (mkF m 22 #[.val (.ref a1)] [(.double (0 : UInt64))])) (fun _ k => XS.goto X1.here hx rfl (pc0 := 8) (pc' := 22) rfl (hb hby d4_8) (by decide) (by decide) k) ?_
    obtain ⟨fs, hr, hrun, hended, hW, hsame⟩ := X1.leave (v := some (.double (0 : UInt64))) (fun h => by rw [Bd.returns] at h; cases h)
    exact ⟨_, _, retD X1 hx Bd.returns (hb hby d4_22) hr, hrun, hended, _, _, rfl, (by show Q4 Z v0 v2 h0 n0 _ T1.heap _; rw [e1]; exact ⟨(by simp only [avg, hc2, if_true, if_false]), N0, rfl⟩), ⟨_, rfl⟩, hW, hsame.mono (by decide) (by decide)⟩
  · refine Ends.st (S' := T1.setTop (mkF m 11 #[.val (.ref a1)] [])) (fun _ k => XS.ifYes X1.here hx rfl (pc0 := 4) (pc' := 11) rfl (hb hby d4_4) rfl ((if0 _ _).trans (feq hc2).2) (by decide) (by decide) k) ?_
    refine Ends.st (S' := T1.setTop (mkF m 12 #[.val (.ref a1)] [(.ref a1)])) (fun _ k => XS.aloadN X1.here hx rfl (hb hby d4_11) rfl rfl k) ?_
    obtain ⟨T3, X3, e3, st3⟩ := getF X1 hx hZ hown (host := "") (Or.inl (hw _ (List.mem_of_getElem? (i := 20) rfl))) Via.refl e1 (F2) (g := (mkF m 12 #[.val (.ref a1)] [(.ref a1)])) rfl rfl (hb hby d4_12)
    refine Ends.st (S' := T3.setTop (mkF m 15 #[.val (.ref a1)] [(.long v2)])) (fun _ k => st3 _ k) ?_
    refine Ends.st (S' := T3.setTop (mkF m 16 #[.val (.ref a1)] [(.double (FP.l2d v2))])) (fun _ k => XS.l2dS X3.here hx rfl (hb hby d4_15) rfl rfl k) ?_
    refine Ends.st (S' := T3.setTop (mkF m 17 #[.val (.ref a1)] [(.ref a1), (.double (FP.l2d v2))])) (fun _ k => XS.aloadN X3.here hx rfl (hb hby d4_16) rfl rfl k) ?_
    obtain ⟨T4, X4, e4, st4⟩ := getF X3 hx hZ hown (host := "") (Or.inl (hw _ (List.mem_of_getElem? (i := 16) rfl))) Via.refl e3 (F0) (g := (mkF m 17 #[.val (.ref a1)] [(.ref a1), (.double (FP.l2d v2))])) rfl rfl (hb hby d4_17)
    refine Ends.st (S' := T4.setTop (mkF m 20 #[.val (.ref a1)] [(.int v0), (.double (FP.l2d v2))])) (fun _ k => st4 _ k) ?_
    refine Ends.st (S' := T4.setTop (mkF m 21 #[.val (.ref a1)] [(.double (FP.i2d v0)), (.double (FP.l2d v2))])) (fun _ k => XS.i2dS X4.here hx rfl (hb hby d4_20) rfl rfl k) ?_
    refine Ends.st (S' := T4.setTop (mkF m 22 #[.val (.ref a1)] [(.double (FP.ddiv (FP.l2d v2) (FP.i2d v0)))])) (fun _ k => XS.ddivS X4.here hx rfl (hb hby d4_21) rfl (own_nn hc2) rfl k) ?_
    obtain ⟨fs, hr, hrun, hended, hW, hsame⟩ := X4.leave (v := some (.double (FP.ddiv (FP.l2d v2) (FP.i2d v0)))) (fun h => by rw [Bd.returns] at h; cases h)
    exact ⟨_, _, retD X4 hx Bd.returns (hb hby d4_22) hr, hrun, hended, _, _, rfl, (by show Q4 Z v0 v2 h0 n0 _ T4.heap _; rw [e4]; exact ⟨(by simp only [avg, hc2, if_true, if_false]), N0, rfl⟩), ⟨_, rfl⟩, hW, hsame.mono (by decide) (by decide)⟩
theorem ef_rm0 (m : MethodId) (x0 : Int32) (x1 : Int32) (x2 : Int64) (x3 : Int32) (x4 : Int32)  : entryFrame m #[(.int x0), (.int x1), (.long x2), (.int x3), (.int x4)] maxLocals = mkF m 0 #[.val (.int x0), .val (.int x1), .val (.long x2), .second, .val (.int x3), .val (.int x4), .unset, .unset, .unset, .unset, .unset, .unset, .unset, .unset, .unset, .unset, .unset, .unset, .unset] [] := by first | (simp [entryFrame, mkF, argsToLocals, Value.category, maxLocals]; done) | rfl
set_option maxRecDepth 65536 in
set_option maxHeartbeats 40000000 in
theorem rm0 (l : Launch) (Z : State) (a0 : Array Value) (hw : ∀ d ∈ tables_1, d.before a0 Z = true) (ws : List Jvm.Cond) (v0 : Int32) (v1 : Int32) (v2 : Int64) (v3 : Int32) (v4 : Int32) (h0 : Heap) (n0 : Nat) (Z0 : n0 ≤ h0.size) :
    MetFree l x (head1 (Jvm.Cond.code x code maxLocals ret :: ws) room_1) (fun a U => a = #[(.int v0), (.int v1), (.long v2), (.int v3), (.int v4)] ∧ Z.Warmed39 U.vm ∧ U.heap = h0) (fun _ _ _ _ _ => True) (fun _ U o U' => ∃ v L, o = .returned v ∧ Q0 Z  h0 n0 v U'.heap L ∧ FrameEnd U o U' L room_1.cells room_1.slots) := by
  refine MetFree.of_bodySF (plainFor_of_name pn_0) hisR ?_
  intro p e s m args below meth c s₁ Bd hml0 hP hK
  obtain ⟨rfl, hZ, hh⟩ := hP
  have hx := Bd.exec
  have hby := Bd.bytes
  have hml : c.maxLocals = 19 := hml0
  have hown : s.vm.findClass "com/example/net_weight/netweight/core/index/CollectionStatisticsAverageDocumentLengthPinLaw" = some m.cls := findClass_of_methodNamed Bd.named
  have hnm := (name_of_methodNamed Bd.named Bd.method).1
  have X0 : Stand p l e room_1 s m #[(.int v0), (.int v1), (.long v2), (.int v3), (.int v4)] below meth c s₁ [] 0 0 := Stand.of_body Bd
  have e0 : s₁.heap = h0 := by rw [← hh, Bd.state]; rfl
  have N0 := Fr.nil n0
  refine Ends.st (tb := p.tables) (e := e) (below := below) (S' := s₁.setTop (mkF m 0 #[.val (.int v0), .val (.int v1), .val (.long v2), .second, .val (.int v3), .val (.int v4), .unset, .unset, .unset, .unset, .unset, .unset, .unset, .unset, .unset, .unset, .unset, .unset, .unset] [])) (fun t k => castTop (ef_rm0 m v0 v1 v2 v3 v4) k) ?_
  refine Ends.st (S' := s₁.setTop (mkF m 2 #[.val (.int v0), .val (.int v1), .val (.long v2), .second, .val (.int v3), .val (.int v4), .unset, .unset, .unset, .unset, .unset, .unset, .unset, .unset, .unset, .unset, .unset, .unset, .unset] [(.int v4)])) (fun _ k => XS.iload X0.here hx rfl (hb hby at_0) rfl k) ?_
  refine Ends.st (S' := s₁.setTop (mkF m 3 #[.val (.int v0), .val (.int v1), .val (.long v2), .second, .val (.int v3), .val (.int v4), .unset, .unset, .unset, .unset, .unset, .unset, .unset, .unset, .unset, .unset, .unset, .unset, .unset] [(.int (3 : Int32)), (.int v4)])) (fun _ k => XS.iconst X0.here hx rfl (hb hby at_2) k) ?_
  refine Ends.st (S' := s₁.setTop (mkF m 4 #[.val (.int v0), .val (.int v1), .val (.long v2), .second, .val (.int v3), .val (.int v4), .unset, .unset, .unset, .unset, .unset, .unset, .unset, .unset, .unset, .unset, .unset, .unset, .unset] [(.int (v4 &&& (3 : Int32)))])) (fun _ k => XS.iand X0.here hx rfl (hb hby at_3) rfl k) ?_
  by_cases hc1 : (v4 &&& (3 : Int32)) = (0 : Int32)
  · refine Ends.st (S' := s₁.setTop (mkF m 7 #[.val (.int v0), .val (.int v1), .val (.long v2), .second, .val (.int v3), .val (.int v4), .unset, .unset, .unset, .unset, .unset, .unset, .unset, .unset, .unset, .unset, .unset, .unset, .unset] [])) (fun _ k => XS.ifNo X0.here hx rfl (hb hby at_4) rfl ((if0 _ _).trans (teq hc1).2) k) ?_
    refine Ends.st (S' := s₁.setTop (mkF m 8 #[.val (.int v0), .val (.int v1), .val (.long v2), .second, .val (.int v3), .val (.int v4), .unset, .unset, .unset, .unset, .unset, .unset, .unset, .unset, .unset, .unset, .unset, .unset, .unset] [(.int (0 : Int32))])) (fun _ k => XS.iconst X0.here hx rfl (hb hby at_7) k) ?_
    refine Ends.st (S' := s₁.setTop (mkF m 15 #[.val (.int v0), .val (.int v1), .val (.long v2), .second, .val (.int v3), .val (.int v4), .unset, .unset, .unset, .unset, .unset, .unset, .unset, .unset, .unset, .unset, .unset, .unset, .unset] [(.int (0 : Int32))])) (fun _ k => XS.goto X0.here hx rfl (pc0 := 8) (pc' := 15) rfl (hb hby at_8) (by decide) (by decide) k) ?_
    refine Ends.st (S' := s₁.setTop (mkF m 17 #[.val (.int v0), .val (.int v1), .val (.long v2), .second, .val (.int v3), .val (.int v4), .val (.int (0 : Int32)), .unset, .unset, .unset, .unset, .unset, .unset, .unset, .unset, .unset, .unset, .unset, .unset] [])) (fun _ k => XS.istore X0.here hx rfl (hb hby at_15) rfl (l' := #[.val (.int v0), .val (.int v1), .val (.long v2), .second, .val (.int v3), .val (.int v4), .val (.int (0 : Int32)), .unset, .unset, .unset, .unset, .unset, .unset, .unset, .unset, .unset, .unset, .unset, .unset]) rfl k) ?_
    refine Ends.st (S' := s₁.setTop (mkF m 18 #[.val (.int v0), .val (.int v1), .val (.long v2), .second, .val (.int v3), .val (.int v4), .val (.int (0 : Int32)), .unset, .unset, .unset, .unset, .unset, .unset, .unset, .unset, .unset, .unset, .unset, .unset] [(.int v1)])) (fun _ k => XS.iloadN X0.here hx rfl (hb hby at_17) rfl k) ?_
    refine Ends.st (S' := s₁.setTop (mkF m 20 #[.val (.int v0), .val (.int v1), .val (.long v2), .second, .val (.int v3), .val (.int v4), .val (.int (0 : Int32)), .unset, .unset, .unset, .unset, .unset, .unset, .unset, .unset, .unset, .unset, .unset, .unset] [(.int (2147483647 : Int32)), (.int v1)])) (fun _ k => X0.ldcInt hx hown (mvT hZ (hw _ (List.mem_of_getElem? (i := 0) rfl))) (g := (mkF m 18 #[.val (.int v0), .val (.int v1), .val (.long v2), .second, .val (.int v3), .val (.int v4), .val (.int (0 : Int32)), .unset, .unset, .unset, .unset, .unset, .unset, .unset, .unset, .unset, .unset, .unset, .unset] [(.int v1)])) rfl (hb hby at_18) _ k) ?_
    refine Ends.st (S' := s₁.setTop (mkF m 21 #[.val (.int v0), .val (.int v1), .val (.long v2), .second, .val (.int v3), .val (.int v4), .val (.int (0 : Int32)), .unset, .unset, .unset, .unset, .unset, .unset, .unset, .unset, .unset, .unset, .unset, .unset] [(.int (v1 &&& (2147483647 : Int32)))])) (fun _ k => XS.iand X0.here hx rfl (hb hby at_20) rfl k) ?_
    refine Ends.st (S' := s₁.setTop (mkF m 23 #[.val (.int v0), .val (.int v1), .val (.long v2), .second, .val (.int v3), .val (.int v4), .val (.int (0 : Int32)), .val (.int (v1 &&& (2147483647 : Int32))), .unset, .unset, .unset, .unset, .unset, .unset, .unset, .unset, .unset, .unset, .unset] [])) (fun _ k => XS.istore X0.here hx rfl (hb hby at_21) rfl (l' := #[.val (.int v0), .val (.int v1), .val (.long v2), .second, .val (.int v3), .val (.int v4), .val (.int (0 : Int32)), .val (.int (v1 &&& (2147483647 : Int32))), .unset, .unset, .unset, .unset, .unset, .unset, .unset, .unset, .unset, .unset, .unset]) rfl k) ?_
    refine Ends.st (S' := s₁.setTop (mkF m 25 #[.val (.int v0), .val (.int v1), .val (.long v2), .second, .val (.int v3), .val (.int v4), .val (.int (0 : Int32)), .val (.int (v1 &&& (2147483647 : Int32))), .unset, .unset, .unset, .unset, .unset, .unset, .unset, .unset, .unset, .unset, .unset] [(.int (0 : Int32))])) (fun _ k => XS.iload X0.here hx rfl (hb hby at_23) rfl k) ?_
    refine Ends.st (S' := s₁.setTop (mkF m 28 #[.val (.int v0), .val (.int v1), .val (.long v2), .second, .val (.int v3), .val (.int v4), .val (.int (0 : Int32)), .val (.int (v1 &&& (2147483647 : Int32))), .unset, .unset, .unset, .unset, .unset, .unset, .unset, .unset, .unset, .unset, .unset] [])) (fun _ k => XS.ifNo X0.here hx rfl (hb hby at_25) rfl ((if0 _ _).trans (teq (by decide : (0 : Int32) = (0 : Int32))).2) k) ?_
    refine Ends.st (S' := s₁.setTop (mkF m 29 #[.val (.int v0), .val (.int v1), .val (.long v2), .second, .val (.int v3), .val (.int v4), .val (.int (0 : Int32)), .val (.int (v1 &&& (2147483647 : Int32))), .unset, .unset, .unset, .unset, .unset, .unset, .unset, .unset, .unset, .unset, .unset] [(.long v2)])) (fun _ k => XS.lloadN X0.here hx rfl (hb hby at_28) rfl k) ?_
    refine Ends.st (S' := s₁.setTop (mkF m 32 #[.val (.int v0), .val (.int v1), .val (.long v2), .second, .val (.int v3), .val (.int v4), .val (.int (0 : Int32)), .val (.int (v1 &&& (2147483647 : Int32))), .unset, .unset, .unset, .unset, .unset, .unset, .unset, .unset, .unset, .unset, .unset] [(.long (9223372036854775807 : Int64)), (.long v2)])) (fun _ k => X0.ldc2Long hx hown (mvT hZ (hw _ (List.mem_of_getElem? (i := 1) rfl))) (g := (mkF m 29 #[.val (.int v0), .val (.int v1), .val (.long v2), .second, .val (.int v3), .val (.int v4), .val (.int (0 : Int32)), .val (.int (v1 &&& (2147483647 : Int32))), .unset, .unset, .unset, .unset, .unset, .unset, .unset, .unset, .unset, .unset, .unset] [(.long v2)])) rfl (hb hby at_29) _ k) ?_
    refine Ends.st (S' := s₁.setTop (mkF m 33 #[.val (.int v0), .val (.int v1), .val (.long v2), .second, .val (.int v3), .val (.int v4), .val (.int (0 : Int32)), .val (.int (v1 &&& (2147483647 : Int32))), .unset, .unset, .unset, .unset, .unset, .unset, .unset, .unset, .unset, .unset, .unset] [(.long (v2 &&& (9223372036854775807 : Int64)))])) (fun _ k => XS.land X0.here hx rfl (hb hby at_32) rfl k) ?_
    refine Ends.st (S' := s₁.setTop (mkF m 35 #[.val (.int v0), .val (.int v1), .val (.long v2), .second, .val (.int v3), .val (.int v4), .val (.int (0 : Int32)), .val (.int (v1 &&& (2147483647 : Int32))), .val (.long (v2 &&& (9223372036854775807 : Int64))), .second, .unset, .unset, .unset, .unset, .unset, .unset, .unset, .unset, .unset] [])) (fun _ k => XS.lstore X0.here hx rfl (hb hby at_33) rfl (l' := #[.val (.int v0), .val (.int v1), .val (.long v2), .second, .val (.int v3), .val (.int v4), .val (.int (0 : Int32)), .val (.int (v1 &&& (2147483647 : Int32))), .val (.long (v2 &&& (9223372036854775807 : Int64))), .second, .unset, .unset, .unset, .unset, .unset, .unset, .unset, .unset, .unset]) rfl k) ?_
    obtain ⟨T2, h2, X2, e2, E2, A2, D2, -, st2⟩ := newO X0 hx hZ hown (hw _ (List.mem_of_getElem? (i := 2) rfl)) (hw _ (List.mem_of_getElem? (i := 3) rfl)) (hw _ (List.mem_of_getElem? (i := 4) rfl)) e0 (g := (mkF m 35 #[.val (.int v0), .val (.int v1), .val (.long v2), .second, .val (.int v3), .val (.int v4), .val (.int (0 : Int32)), .val (.int (v1 &&& (2147483647 : Int32))), .val (.long (v2 &&& (9223372036854775807 : Int64))), .second, .unset, .unset, .unset, .unset, .unset, .unset, .unset, .unset, .unset] [])) rfl (hb hby at_35) (by decide) (by decide)
    obtain ⟨b2, g2⟩ : ∃ z, z = h0.size := ⟨_, rfl⟩
    rw [← g2] at A2 D2 st2
    have g_b2 : n0 ≤ b2 := Nat.le_trans Z0 (Nat.le_of_eq g2.symm)
    have f3 := Nat.le_trans Z0 E2.1
    have F4 : Fld Z h2 b2 "com/example/net_weight/netweight/core/index/CollectionStatistics" "documents" "I" (.int (0 : Int32)) := D2 (Or.inr (hw _ (List.mem_of_getElem? (i := 17) rfl))) (ty := .int) (by decide)
    have F5 : Fld Z h2 b2 "com/example/net_weight/netweight/core/index/CollectionStatistics" "terms" "I" (.int (0 : Int32)) := D2 (Or.inr (hw _ (List.mem_of_getElem? (i := 19) rfl))) (ty := .int) (by decide)
    have F6 : Fld Z h2 b2 "com/example/net_weight/netweight/core/index/CollectionStatistics" "tokens" "J" (.long (0 : Int64)) := D2 (Or.inr (hw _ (List.mem_of_getElem? (i := 21) rfl))) (ty := .long) (by decide)
    refine Ends.st (S' := T2.setTop (mkF m 38 #[.val (.int v0), .val (.int v1), .val (.long v2), .second, .val (.int v3), .val (.int v4), .val (.int (0 : Int32)), .val (.int (v1 &&& (2147483647 : Int32))), .val (.long (v2 &&& (9223372036854775807 : Int64))), .second, .unset, .unset, .unset, .unset, .unset, .unset, .unset, .unset, .unset] [(.ref b2)])) (fun _ k => st2 _ k) ?_
    refine Ends.st (S' := T2.setTop (mkF m 39 #[.val (.int v0), .val (.int v1), .val (.long v2), .second, .val (.int v3), .val (.int v4), .val (.int (0 : Int32)), .val (.int (v1 &&& (2147483647 : Int32))), .val (.long (v2 &&& (9223372036854775807 : Int64))), .second, .unset, .unset, .unset, .unset, .unset, .unset, .unset, .unset, .unset] [(.ref b2), (.ref b2)])) (fun _ k => XS.dup X2.here hx rfl (hb hby at_38) rfl rfl k) ?_
    refine Ends.st (S' := T2.setTop (mkF m 40 #[.val (.int v0), .val (.int v1), .val (.long v2), .second, .val (.int v3), .val (.int v4), .val (.int (0 : Int32)), .val (.int (v1 &&& (2147483647 : Int32))), .val (.long (v2 &&& (9223372036854775807 : Int64))), .second, .unset, .unset, .unset, .unset, .unset, .unset, .unset, .unset, .unset] [(.int (0 : Int32)), (.ref b2), (.ref b2)])) (fun _ k => XS.iconst X2.here hx rfl (hb hby at_39) k) ?_
    refine Ends.st (S' := T2.setTop (mkF m 42 #[.val (.int v0), .val (.int v1), .val (.long v2), .second, .val (.int v3), .val (.int v4), .val (.int (0 : Int32)), .val (.int (v1 &&& (2147483647 : Int32))), .val (.long (v2 &&& (9223372036854775807 : Int64))), .second, .unset, .unset, .unset, .unset, .unset, .unset, .unset, .unset, .unset] [(.int (v1 &&& (2147483647 : Int32))), (.int (0 : Int32)), (.ref b2), (.ref b2)])) (fun _ k => XS.iload X2.here hx rfl (hb hby at_40) rfl k) ?_
    refine Ends.st (S' := T2.setTop (mkF m 44 #[.val (.int v0), .val (.int v1), .val (.long v2), .second, .val (.int v3), .val (.int v4), .val (.int (0 : Int32)), .val (.int (v1 &&& (2147483647 : Int32))), .val (.long (v2 &&& (9223372036854775807 : Int64))), .second, .unset, .unset, .unset, .unset, .unset, .unset, .unset, .unset, .unset] [(.long (v2 &&& (9223372036854775807 : Int64))), (.int (v1 &&& (2147483647 : Int32))), (.int (0 : Int32)), (.ref b2), (.ref b2)])) (fun _ k => XS.lload X2.here hx rfl (hb hby at_42) rfl k) ?_
    obtain ⟨_, _, ⟨T7, L7, k7, n7⟩, -, X7, ⟨Lc7, hQ7, l7, y7, z7⟩, st7⟩ := X2.specialBack hx (y := (⟨"com/example/net_weight/netweight/core/index/CollectionStatistics", "<init>", "(IIJ)V"⟩ : MethodName)) rfl hown (mvT hZ (hw _ (List.mem_of_getElem? (i := 5) rfl))) (mvT hZ (hw _ (List.mem_of_getElem? (i := 6) rfl))) (mvT hZ (hw _ (List.mem_of_getElem? (i := 7) rfl))) (by decide) (backOf (W := 1) (rm1 l Z a0 hw [] b2 (0 : Int32) (v1 &&& (2147483647 : Int32)) (v2 &&& (9223372036854775807 : Int64)) h2 n0 f3 A2 F4 F5 F6 g_b2 (by decide) (own_nonneg v1) (own_nonneg64 v2)) hZ (hw _ (List.mem_of_getElem? (i := 7) rfl)) (hw _ (List.mem_of_getElem? (i := 4) rfl)) (by decide) (by decide)) (g := (mkF m 44 #[.val (.int v0), .val (.int v1), .val (.long v2), .second, .val (.int v3), .val (.int v4), .val (.int (0 : Int32)), .val (.int (v1 &&& (2147483647 : Int32))), .val (.long (v2 &&& (9223372036854775807 : Int64))), .second, .unset, .unset, .unset, .unset, .unset, .unset, .unset, .unset, .unset] [(.long (v2 &&& (9223372036854775807 : Int64))), (.int (v1 &&& (2147483647 : Int32))), (.int (0 : Int32)), (.ref b2), (.ref b2)])) rfl (by rw [hml]; rfl) (Steps.refl _) (a := b2) (argsL := [(.int (0 : Int32)), (.int (v1 &&& (2147483647 : Int32))), (.long (v2 &&& (9223372036854775807 : Int64)))]) (rest := [(.ref b2)]) (lenOf pd_1 rfl) rfl (by show 2 * 0 + _ ≤ _; exact Nat.le_of_eq rfl) (hb hby at_44) (fun _ _ => ⟨rfl, e2, (by decide : 0 + 1 + 0 ≤ _), (by decide : 0 + 3 + 0 ≤ _)⟩)
    dsimp only [Pt.U, Pt.locs, Pt.cells, Pt.slots] at X7 l7 y7 z7 st7 hQ7
    subst l7 y7 z7
    obtain ⟨rfl, N7q, K7, G7, J7⟩ := hQ7
    have N7 := Fr.app N0 N7q
    have f8 := Nat.le_trans f3 K7.1
    have f9 := A2.keep K7
    refine Ends.st (S' := T7.setTop (mkF m 47 #[.val (.int v0), .val (.int v1), .val (.long v2), .second, .val (.int v3), .val (.int v4), .val (.int (0 : Int32)), .val (.int (v1 &&& (2147483647 : Int32))), .val (.long (v2 &&& (9223372036854775807 : Int64))), .second, .unset, .unset, .unset, .unset, .unset, .unset, .unset, .unset, .unset] [(.ref b2)])) (fun _ k => st7.trans k) ?_
    obtain ⟨cq10, kq10, q10a, q10b, q10c⟩ := isOf hZ rfl (f9)
    obtain ⟨_, _, ⟨T10, L10, k10, n10⟩, -, X10, ⟨Lc10, hQ10, l10, y10, z10⟩, st10⟩ := X7.virtualBack hx (y := (⟨"com/example/net_weight/netweight/core/index/CollectionStatistics", "averageDocumentLength", "()D"⟩ : MethodName)) (z := (⟨"com/example/net_weight/netweight/core/index/CollectionStatistics", "averageDocumentLength", "()D"⟩ : MethodName)) hown (mvT hZ (hw _ (List.mem_of_getElem? (i := 22) rfl))) (mvT hZ (hw _ (List.mem_of_getElem? (i := 23) rfl))) (notFace_of_selects (args := #[]) (mvT hZ (hw _ (List.mem_of_getElem? (i := 25) rfl)))) (mvT hZ (hw _ (List.mem_of_getElem? (i := 25) rfl))) (mvT hZ (hw _ (List.mem_of_getElem? (i := 24) rfl))) (by decide) (backOf (W := 0) (rm4 l Z a0 hw [] b2 (0 : Int32) (v2 &&& (9223372036854775807 : Int64)) T7.heap n0 f8 G7 J7) hZ (hw _ (List.mem_of_getElem? (i := 26) rfl)) (hw _ (List.mem_of_getElem? (i := 4) rfl)) (by decide) (by decide)) q10a q10c (g := (mkF m 47 #[.val (.int v0), .val (.int v1), .val (.long v2), .second, .val (.int v3), .val (.int v4), .val (.int (0 : Int32)), .val (.int (v1 &&& (2147483647 : Int32))), .val (.long (v2 &&& (9223372036854775807 : Int64))), .second, .unset, .unset, .unset, .unset, .unset, .unset, .unset, .unset, .unset] [(.ref b2)])) rfl (by rw [hml]; rfl) (Steps.refl _) (argsL := []) (rest := []) (lenOf pd_2 rfl) rfl (by show 2 * 0 + _ ≤ _; exact Nat.le_of_eq rfl) (hb hby at_47) (fun _ _ => ⟨rfl, rfl, (by decide : 0 + 1 + 0 + 0 ≤ _), (by decide : 0 + 3 + 0 + 0 ≤ _)⟩)
    dsimp only [Pt.U, Pt.locs, Pt.cells, Pt.slots] at X10 l10 y10 z10 st10 hQ10
    subst l10 y10 z10
    obtain ⟨rfl, N10q, e10⟩ := hQ10
    have N10 := Fr.app N7 N10q
    refine Ends.st (S' := T10.setTop (mkF m 50 #[.val (.int v0), .val (.int v1), .val (.long v2), .second, .val (.int v3), .val (.int v4), .val (.int (0 : Int32)), .val (.int (v1 &&& (2147483647 : Int32))), .val (.long (v2 &&& (9223372036854775807 : Int64))), .second, .unset, .unset, .unset, .unset, .unset, .unset, .unset, .unset, .unset] [(.double (avg (0 : Int32) (v2 &&& (9223372036854775807 : Int64))))])) (fun _ k => st10.trans k) ?_
    refine Ends.st (S' := T10.setTop (mkF m 52 #[.val (.int v0), .val (.int v1), .val (.long v2), .second, .val (.int v3), .val (.int v4), .val (.int (0 : Int32)), .val (.int (v1 &&& (2147483647 : Int32))), .val (.long (v2 &&& (9223372036854775807 : Int64))), .second, .val (.double (avg (0 : Int32) (v2 &&& (9223372036854775807 : Int64)))), .second, .unset, .unset, .unset, .unset, .unset, .unset, .unset] [])) (fun _ k => XS.dstore X10.here hx rfl (hb hby at_50) rfl (l' := #[.val (.int v0), .val (.int v1), .val (.long v2), .second, .val (.int v3), .val (.int v4), .val (.int (0 : Int32)), .val (.int (v1 &&& (2147483647 : Int32))), .val (.long (v2 &&& (9223372036854775807 : Int64))), .second, .val (.double (avg (0 : Int32) (v2 &&& (9223372036854775807 : Int64)))), .second, .unset, .unset, .unset, .unset, .unset, .unset, .unset]) rfl k) ?_
    refine Ends.st (S' := T10.setTop (mkF m 54 #[.val (.int v0), .val (.int v1), .val (.long v2), .second, .val (.int v3), .val (.int v4), .val (.int (0 : Int32)), .val (.int (v1 &&& (2147483647 : Int32))), .val (.long (v2 &&& (9223372036854775807 : Int64))), .second, .val (.double (avg (0 : Int32) (v2 &&& (9223372036854775807 : Int64)))), .second, .unset, .unset, .unset, .unset, .unset, .unset, .unset] [(.double (avg (0 : Int32) (v2 &&& (9223372036854775807 : Int64))))])) (fun _ k => XS.dload X10.here hx rfl (hb hby at_52) rfl k) ?_
    refine Ends.st (S' := T10.setTop (mkF m 55 #[.val (.int v0), .val (.int v1), .val (.long v2), .second, .val (.int v3), .val (.int v4), .val (.int (0 : Int32)), .val (.int (v1 &&& (2147483647 : Int32))), .val (.long (v2 &&& (9223372036854775807 : Int64))), .second, .val (.double (avg (0 : Int32) (v2 &&& (9223372036854775807 : Int64)))), .second, .unset, .unset, .unset, .unset, .unset, .unset, .unset] [(.double (0 : UInt64)), (.double (avg (0 : Int32) (v2 &&& (9223372036854775807 : Int64))))])) (fun _ k => XS.dconst0 X10.here hx rfl (hb hby at_54) rfl k) ?_
    refine Ends.st (S' := T10.setTop (mkF m 56 #[.val (.int v0), .val (.int v1), .val (.long v2), .second, .val (.int v3), .val (.int v4), .val (.int (0 : Int32)), .val (.int (v1 &&& (2147483647 : Int32))), .val (.long (v2 &&& (9223372036854775807 : Int64))), .second, .val (.double (avg (0 : Int32) (v2 &&& (9223372036854775807 : Int64)))), .second, .unset, .unset, .unset, .unset, .unset, .unset, .unset] [(.int (cmpValue (FP.dcmp (avg (0 : Int32) (v2 &&& (9223372036854775807 : Int64))) (0 : UInt64)) .l))])) (fun _ k => XS.dcmpS X10.here hx rfl (hb hby at_55) rfl rfl k) ?_
    have hb11 : (cmpValue (FP.dcmp (avg (0 : Int32) (v2 &&& (9223372036854775807 : Int64))) (0 : UInt64)) .l) = (0 : Int32) := own_zero _
    refine Ends.st (S' := T10.setTop (mkF m 59 #[.val (.int v0), .val (.int v1), .val (.long v2), .second, .val (.int v3), .val (.int v4), .val (.int (0 : Int32)), .val (.int (v1 &&& (2147483647 : Int32))), .val (.long (v2 &&& (9223372036854775807 : Int64))), .second, .val (.double (avg (0 : Int32) (v2 &&& (9223372036854775807 : Int64)))), .second, .unset, .unset, .unset, .unset, .unset, .unset, .unset] [])) (fun _ k => XS.ifNo X10.here hx rfl (hb hby at_56) rfl ((if0 _ _).trans (teq hb11).2) k) ?_
    refine Ends.st (S' := T10.setTop (mkF m 60 #[.val (.int v0), .val (.int v1), .val (.long v2), .second, .val (.int v3), .val (.int v4), .val (.int (0 : Int32)), .val (.int (v1 &&& (2147483647 : Int32))), .val (.long (v2 &&& (9223372036854775807 : Int64))), .second, .val (.double (avg (0 : Int32) (v2 &&& (9223372036854775807 : Int64)))), .second, .unset, .unset, .unset, .unset, .unset, .unset, .unset] [(.int (1 : Int32))])) (fun _ k => XS.iconst X10.here hx rfl (hb hby at_59) k) ?_
    refine Ends.st (S' := T10.setTop (mkF m 64 #[.val (.int v0), .val (.int v1), .val (.long v2), .second, .val (.int v3), .val (.int v4), .val (.int (0 : Int32)), .val (.int (v1 &&& (2147483647 : Int32))), .val (.long (v2 &&& (9223372036854775807 : Int64))), .second, .val (.double (avg (0 : Int32) (v2 &&& (9223372036854775807 : Int64)))), .second, .unset, .unset, .unset, .unset, .unset, .unset, .unset] [(.int (1 : Int32))])) (fun _ k => XS.goto X10.here hx rfl (pc0 := 60) (pc' := 64) rfl (hb hby at_60) (by decide) (by decide) k) ?_
    obtain ⟨fs, hr, hrun, hended, hW, hsame⟩ := X10.leave (v := some (.int (1 : Int32))) (fun h => by rw [Bd.returns] at h; cases h)
    exact ⟨_, _, retN X10 hx (t := .boolean) Bd.returns (by simp) (hb hby at_64) hr, hrun, hended, _, _, rfl, (by show Q0 Z  h0 n0 _ T10.heap _; rw [e10]; exact ⟨rfl, N10⟩), ⟨_, rfl⟩, hW, hsame.mono (by decide) (by decide)⟩
  · refine Ends.st (S' := s₁.setTop (mkF m 11 #[.val (.int v0), .val (.int v1), .val (.long v2), .second, .val (.int v3), .val (.int v4), .unset, .unset, .unset, .unset, .unset, .unset, .unset, .unset, .unset, .unset, .unset, .unset, .unset] [])) (fun _ k => XS.ifYes X0.here hx rfl (pc0 := 4) (pc' := 11) rfl (hb hby at_4) rfl ((if0 _ _).trans (feq hc1).2) (by decide) (by decide) k) ?_
    refine Ends.st (S' := s₁.setTop (mkF m 12 #[.val (.int v0), .val (.int v1), .val (.long v2), .second, .val (.int v3), .val (.int v4), .unset, .unset, .unset, .unset, .unset, .unset, .unset, .unset, .unset, .unset, .unset, .unset, .unset] [(.int v0)])) (fun _ k => XS.iloadN X0.here hx rfl (hb hby at_11) rfl k) ?_
    refine Ends.st (S' := s₁.setTop (mkF m 14 #[.val (.int v0), .val (.int v1), .val (.long v2), .second, .val (.int v3), .val (.int v4), .unset, .unset, .unset, .unset, .unset, .unset, .unset, .unset, .unset, .unset, .unset, .unset, .unset] [(.int (2147483647 : Int32)), (.int v0)])) (fun _ k => X0.ldcInt hx hown (mvT hZ (hw _ (List.mem_of_getElem? (i := 0) rfl))) (g := (mkF m 12 #[.val (.int v0), .val (.int v1), .val (.long v2), .second, .val (.int v3), .val (.int v4), .unset, .unset, .unset, .unset, .unset, .unset, .unset, .unset, .unset, .unset, .unset, .unset, .unset] [(.int v0)])) rfl (hb hby at_12) _ k) ?_
    refine Ends.st (S' := s₁.setTop (mkF m 15 #[.val (.int v0), .val (.int v1), .val (.long v2), .second, .val (.int v3), .val (.int v4), .unset, .unset, .unset, .unset, .unset, .unset, .unset, .unset, .unset, .unset, .unset, .unset, .unset] [(.int (v0 &&& (2147483647 : Int32)))])) (fun _ k => XS.iand X0.here hx rfl (hb hby at_14) rfl k) ?_
    refine Ends.st (S' := s₁.setTop (mkF m 17 #[.val (.int v0), .val (.int v1), .val (.long v2), .second, .val (.int v3), .val (.int v4), .val (.int (v0 &&& (2147483647 : Int32))), .unset, .unset, .unset, .unset, .unset, .unset, .unset, .unset, .unset, .unset, .unset, .unset] [])) (fun _ k => XS.istore X0.here hx rfl (hb hby at_15) rfl (l' := #[.val (.int v0), .val (.int v1), .val (.long v2), .second, .val (.int v3), .val (.int v4), .val (.int (v0 &&& (2147483647 : Int32))), .unset, .unset, .unset, .unset, .unset, .unset, .unset, .unset, .unset, .unset, .unset, .unset]) rfl k) ?_
    refine Ends.st (S' := s₁.setTop (mkF m 18 #[.val (.int v0), .val (.int v1), .val (.long v2), .second, .val (.int v3), .val (.int v4), .val (.int (v0 &&& (2147483647 : Int32))), .unset, .unset, .unset, .unset, .unset, .unset, .unset, .unset, .unset, .unset, .unset, .unset] [(.int v1)])) (fun _ k => XS.iloadN X0.here hx rfl (hb hby at_17) rfl k) ?_
    refine Ends.st (S' := s₁.setTop (mkF m 20 #[.val (.int v0), .val (.int v1), .val (.long v2), .second, .val (.int v3), .val (.int v4), .val (.int (v0 &&& (2147483647 : Int32))), .unset, .unset, .unset, .unset, .unset, .unset, .unset, .unset, .unset, .unset, .unset, .unset] [(.int (2147483647 : Int32)), (.int v1)])) (fun _ k => X0.ldcInt hx hown (mvT hZ (hw _ (List.mem_of_getElem? (i := 0) rfl))) (g := (mkF m 18 #[.val (.int v0), .val (.int v1), .val (.long v2), .second, .val (.int v3), .val (.int v4), .val (.int (v0 &&& (2147483647 : Int32))), .unset, .unset, .unset, .unset, .unset, .unset, .unset, .unset, .unset, .unset, .unset, .unset] [(.int v1)])) rfl (hb hby at_18) _ k) ?_
    refine Ends.st (S' := s₁.setTop (mkF m 21 #[.val (.int v0), .val (.int v1), .val (.long v2), .second, .val (.int v3), .val (.int v4), .val (.int (v0 &&& (2147483647 : Int32))), .unset, .unset, .unset, .unset, .unset, .unset, .unset, .unset, .unset, .unset, .unset, .unset] [(.int (v1 &&& (2147483647 : Int32)))])) (fun _ k => XS.iand X0.here hx rfl (hb hby at_20) rfl k) ?_
    refine Ends.st (S' := s₁.setTop (mkF m 23 #[.val (.int v0), .val (.int v1), .val (.long v2), .second, .val (.int v3), .val (.int v4), .val (.int (v0 &&& (2147483647 : Int32))), .val (.int (v1 &&& (2147483647 : Int32))), .unset, .unset, .unset, .unset, .unset, .unset, .unset, .unset, .unset, .unset, .unset] [])) (fun _ k => XS.istore X0.here hx rfl (hb hby at_21) rfl (l' := #[.val (.int v0), .val (.int v1), .val (.long v2), .second, .val (.int v3), .val (.int v4), .val (.int (v0 &&& (2147483647 : Int32))), .val (.int (v1 &&& (2147483647 : Int32))), .unset, .unset, .unset, .unset, .unset, .unset, .unset, .unset, .unset, .unset, .unset]) rfl k) ?_
    obtain ⟨dd, hdd⟩ : ∃ z, z = (v0 &&& (2147483647 : Int32)) := ⟨_, rfl⟩
    rw [← hdd]
    have hd0 : ¬ (dd < (0 : Int32)) := hdd ▸ own_nonneg v0
    refine Ends.st (S' := s₁.setTop (mkF m 25 #[.val (.int v0), .val (.int v1), .val (.long v2), .second, .val (.int v3), .val (.int v4), .val (.int dd), .val (.int (v1 &&& (2147483647 : Int32))), .unset, .unset, .unset, .unset, .unset, .unset, .unset, .unset, .unset, .unset, .unset] [(.int dd)])) (fun _ k => XS.iload X0.here hx rfl (hb hby at_23) rfl k) ?_
    by_cases hc12 : dd = (0 : Int32)
    · refine Ends.st (S' := s₁.setTop (mkF m 28 #[.val (.int v0), .val (.int v1), .val (.long v2), .second, .val (.int v3), .val (.int v4), .val (.int dd), .val (.int (v1 &&& (2147483647 : Int32))), .unset, .unset, .unset, .unset, .unset, .unset, .unset, .unset, .unset, .unset, .unset] [])) (fun _ k => XS.ifNo X0.here hx rfl (hb hby at_25) rfl ((if0 _ _).trans (teq hc12).2) k) ?_
      refine Ends.st (S' := s₁.setTop (mkF m 29 #[.val (.int v0), .val (.int v1), .val (.long v2), .second, .val (.int v3), .val (.int v4), .val (.int dd), .val (.int (v1 &&& (2147483647 : Int32))), .unset, .unset, .unset, .unset, .unset, .unset, .unset, .unset, .unset, .unset, .unset] [(.long v2)])) (fun _ k => XS.lloadN X0.here hx rfl (hb hby at_28) rfl k) ?_
      refine Ends.st (S' := s₁.setTop (mkF m 32 #[.val (.int v0), .val (.int v1), .val (.long v2), .second, .val (.int v3), .val (.int v4), .val (.int dd), .val (.int (v1 &&& (2147483647 : Int32))), .unset, .unset, .unset, .unset, .unset, .unset, .unset, .unset, .unset, .unset, .unset] [(.long (9223372036854775807 : Int64)), (.long v2)])) (fun _ k => X0.ldc2Long hx hown (mvT hZ (hw _ (List.mem_of_getElem? (i := 1) rfl))) (g := (mkF m 29 #[.val (.int v0), .val (.int v1), .val (.long v2), .second, .val (.int v3), .val (.int v4), .val (.int dd), .val (.int (v1 &&& (2147483647 : Int32))), .unset, .unset, .unset, .unset, .unset, .unset, .unset, .unset, .unset, .unset, .unset] [(.long v2)])) rfl (hb hby at_29) _ k) ?_
      refine Ends.st (S' := s₁.setTop (mkF m 33 #[.val (.int v0), .val (.int v1), .val (.long v2), .second, .val (.int v3), .val (.int v4), .val (.int dd), .val (.int (v1 &&& (2147483647 : Int32))), .unset, .unset, .unset, .unset, .unset, .unset, .unset, .unset, .unset, .unset, .unset] [(.long (v2 &&& (9223372036854775807 : Int64)))])) (fun _ k => XS.land X0.here hx rfl (hb hby at_32) rfl k) ?_
      refine Ends.st (S' := s₁.setTop (mkF m 35 #[.val (.int v0), .val (.int v1), .val (.long v2), .second, .val (.int v3), .val (.int v4), .val (.int dd), .val (.int (v1 &&& (2147483647 : Int32))), .val (.long (v2 &&& (9223372036854775807 : Int64))), .second, .unset, .unset, .unset, .unset, .unset, .unset, .unset, .unset, .unset] [])) (fun _ k => XS.lstore X0.here hx rfl (hb hby at_33) rfl (l' := #[.val (.int v0), .val (.int v1), .val (.long v2), .second, .val (.int v3), .val (.int v4), .val (.int dd), .val (.int (v1 &&& (2147483647 : Int32))), .val (.long (v2 &&& (9223372036854775807 : Int64))), .second, .unset, .unset, .unset, .unset, .unset, .unset, .unset, .unset, .unset]) rfl k) ?_
      obtain ⟨T13, h13, X13, e13, E13, A13, D13, -, st13⟩ := newO X0 hx hZ hown (hw _ (List.mem_of_getElem? (i := 2) rfl)) (hw _ (List.mem_of_getElem? (i := 3) rfl)) (hw _ (List.mem_of_getElem? (i := 4) rfl)) e0 (g := (mkF m 35 #[.val (.int v0), .val (.int v1), .val (.long v2), .second, .val (.int v3), .val (.int v4), .val (.int dd), .val (.int (v1 &&& (2147483647 : Int32))), .val (.long (v2 &&& (9223372036854775807 : Int64))), .second, .unset, .unset, .unset, .unset, .unset, .unset, .unset, .unset, .unset] [])) rfl (hb hby at_35) (by decide) (by decide)
      obtain ⟨b13, g13⟩ : ∃ z, z = h0.size := ⟨_, rfl⟩
      rw [← g13] at A13 D13 st13
      have g_b13 : n0 ≤ b13 := Nat.le_trans Z0 (Nat.le_of_eq g13.symm)
      have f14 := Nat.le_trans Z0 E13.1
      have F15 : Fld Z h13 b13 "com/example/net_weight/netweight/core/index/CollectionStatistics" "documents" "I" (.int (0 : Int32)) := D13 (Or.inr (hw _ (List.mem_of_getElem? (i := 17) rfl))) (ty := .int) (by decide)
      have F16 : Fld Z h13 b13 "com/example/net_weight/netweight/core/index/CollectionStatistics" "terms" "I" (.int (0 : Int32)) := D13 (Or.inr (hw _ (List.mem_of_getElem? (i := 19) rfl))) (ty := .int) (by decide)
      have F17 : Fld Z h13 b13 "com/example/net_weight/netweight/core/index/CollectionStatistics" "tokens" "J" (.long (0 : Int64)) := D13 (Or.inr (hw _ (List.mem_of_getElem? (i := 21) rfl))) (ty := .long) (by decide)
      refine Ends.st (S' := T13.setTop (mkF m 38 #[.val (.int v0), .val (.int v1), .val (.long v2), .second, .val (.int v3), .val (.int v4), .val (.int dd), .val (.int (v1 &&& (2147483647 : Int32))), .val (.long (v2 &&& (9223372036854775807 : Int64))), .second, .unset, .unset, .unset, .unset, .unset, .unset, .unset, .unset, .unset] [(.ref b13)])) (fun _ k => st13 _ k) ?_
      refine Ends.st (S' := T13.setTop (mkF m 39 #[.val (.int v0), .val (.int v1), .val (.long v2), .second, .val (.int v3), .val (.int v4), .val (.int dd), .val (.int (v1 &&& (2147483647 : Int32))), .val (.long (v2 &&& (9223372036854775807 : Int64))), .second, .unset, .unset, .unset, .unset, .unset, .unset, .unset, .unset, .unset] [(.ref b13), (.ref b13)])) (fun _ k => XS.dup X13.here hx rfl (hb hby at_38) rfl rfl k) ?_
      refine Ends.st (S' := T13.setTop (mkF m 40 #[.val (.int v0), .val (.int v1), .val (.long v2), .second, .val (.int v3), .val (.int v4), .val (.int dd), .val (.int (v1 &&& (2147483647 : Int32))), .val (.long (v2 &&& (9223372036854775807 : Int64))), .second, .unset, .unset, .unset, .unset, .unset, .unset, .unset, .unset, .unset] [(.int (0 : Int32)), (.ref b13), (.ref b13)])) (fun _ k => XS.iconst X13.here hx rfl (hb hby at_39) k) ?_
      refine Ends.st (S' := T13.setTop (mkF m 42 #[.val (.int v0), .val (.int v1), .val (.long v2), .second, .val (.int v3), .val (.int v4), .val (.int dd), .val (.int (v1 &&& (2147483647 : Int32))), .val (.long (v2 &&& (9223372036854775807 : Int64))), .second, .unset, .unset, .unset, .unset, .unset, .unset, .unset, .unset, .unset] [(.int (v1 &&& (2147483647 : Int32))), (.int (0 : Int32)), (.ref b13), (.ref b13)])) (fun _ k => XS.iload X13.here hx rfl (hb hby at_40) rfl k) ?_
      refine Ends.st (S' := T13.setTop (mkF m 44 #[.val (.int v0), .val (.int v1), .val (.long v2), .second, .val (.int v3), .val (.int v4), .val (.int dd), .val (.int (v1 &&& (2147483647 : Int32))), .val (.long (v2 &&& (9223372036854775807 : Int64))), .second, .unset, .unset, .unset, .unset, .unset, .unset, .unset, .unset, .unset] [(.long (v2 &&& (9223372036854775807 : Int64))), (.int (v1 &&& (2147483647 : Int32))), (.int (0 : Int32)), (.ref b13), (.ref b13)])) (fun _ k => XS.lload X13.here hx rfl (hb hby at_42) rfl k) ?_
      obtain ⟨_, _, ⟨T18, L18, k18, n18⟩, -, X18, ⟨Lc18, hQ18, l18, y18, z18⟩, st18⟩ := X13.specialBack hx (y := (⟨"com/example/net_weight/netweight/core/index/CollectionStatistics", "<init>", "(IIJ)V"⟩ : MethodName)) rfl hown (mvT hZ (hw _ (List.mem_of_getElem? (i := 5) rfl))) (mvT hZ (hw _ (List.mem_of_getElem? (i := 6) rfl))) (mvT hZ (hw _ (List.mem_of_getElem? (i := 7) rfl))) (by decide) (backOf (W := 1) (rm1 l Z a0 hw [] b13 (0 : Int32) (v1 &&& (2147483647 : Int32)) (v2 &&& (9223372036854775807 : Int64)) h13 n0 f14 A13 F15 F16 F17 g_b13 (by decide) (own_nonneg v1) (own_nonneg64 v2)) hZ (hw _ (List.mem_of_getElem? (i := 7) rfl)) (hw _ (List.mem_of_getElem? (i := 4) rfl)) (by decide) (by decide)) (g := (mkF m 44 #[.val (.int v0), .val (.int v1), .val (.long v2), .second, .val (.int v3), .val (.int v4), .val (.int dd), .val (.int (v1 &&& (2147483647 : Int32))), .val (.long (v2 &&& (9223372036854775807 : Int64))), .second, .unset, .unset, .unset, .unset, .unset, .unset, .unset, .unset, .unset] [(.long (v2 &&& (9223372036854775807 : Int64))), (.int (v1 &&& (2147483647 : Int32))), (.int (0 : Int32)), (.ref b13), (.ref b13)])) rfl (by rw [hml]; rfl) (Steps.refl _) (a := b13) (argsL := [(.int (0 : Int32)), (.int (v1 &&& (2147483647 : Int32))), (.long (v2 &&& (9223372036854775807 : Int64)))]) (rest := [(.ref b13)]) (lenOf pd_1 rfl) rfl (by show 2 * 0 + _ ≤ _; exact Nat.le_of_eq rfl) (hb hby at_44) (fun _ _ => ⟨rfl, e13, (by decide : 0 + 1 + 0 ≤ _), (by decide : 0 + 3 + 0 ≤ _)⟩)
      dsimp only [Pt.U, Pt.locs, Pt.cells, Pt.slots] at X18 l18 y18 z18 st18 hQ18
      subst l18 y18 z18
      obtain ⟨rfl, N18q, K18, G18, J18⟩ := hQ18
      have N18 := Fr.app N0 N18q
      have f19 := Nat.le_trans f14 K18.1
      have f20 := A13.keep K18
      refine Ends.st (S' := T18.setTop (mkF m 47 #[.val (.int v0), .val (.int v1), .val (.long v2), .second, .val (.int v3), .val (.int v4), .val (.int dd), .val (.int (v1 &&& (2147483647 : Int32))), .val (.long (v2 &&& (9223372036854775807 : Int64))), .second, .unset, .unset, .unset, .unset, .unset, .unset, .unset, .unset, .unset] [(.ref b13)])) (fun _ k => st18.trans k) ?_
      obtain ⟨cq21, kq21, q21a, q21b, q21c⟩ := isOf hZ rfl (f20)
      obtain ⟨_, _, ⟨T21, L21, k21, n21⟩, -, X21, ⟨Lc21, hQ21, l21, y21, z21⟩, st21⟩ := X18.virtualBack hx (y := (⟨"com/example/net_weight/netweight/core/index/CollectionStatistics", "averageDocumentLength", "()D"⟩ : MethodName)) (z := (⟨"com/example/net_weight/netweight/core/index/CollectionStatistics", "averageDocumentLength", "()D"⟩ : MethodName)) hown (mvT hZ (hw _ (List.mem_of_getElem? (i := 22) rfl))) (mvT hZ (hw _ (List.mem_of_getElem? (i := 23) rfl))) (notFace_of_selects (args := #[]) (mvT hZ (hw _ (List.mem_of_getElem? (i := 25) rfl)))) (mvT hZ (hw _ (List.mem_of_getElem? (i := 25) rfl))) (mvT hZ (hw _ (List.mem_of_getElem? (i := 24) rfl))) (by decide) (backOf (W := 0) (rm4 l Z a0 hw [] b13 (0 : Int32) (v2 &&& (9223372036854775807 : Int64)) T18.heap n0 f19 G18 J18) hZ (hw _ (List.mem_of_getElem? (i := 26) rfl)) (hw _ (List.mem_of_getElem? (i := 4) rfl)) (by decide) (by decide)) q21a q21c (g := (mkF m 47 #[.val (.int v0), .val (.int v1), .val (.long v2), .second, .val (.int v3), .val (.int v4), .val (.int dd), .val (.int (v1 &&& (2147483647 : Int32))), .val (.long (v2 &&& (9223372036854775807 : Int64))), .second, .unset, .unset, .unset, .unset, .unset, .unset, .unset, .unset, .unset] [(.ref b13)])) rfl (by rw [hml]; rfl) (Steps.refl _) (argsL := []) (rest := []) (lenOf pd_2 rfl) rfl (by show 2 * 0 + _ ≤ _; exact Nat.le_of_eq rfl) (hb hby at_47) (fun _ _ => ⟨rfl, rfl, (by decide : 0 + 1 + 0 + 0 ≤ _), (by decide : 0 + 3 + 0 + 0 ≤ _)⟩)
      dsimp only [Pt.U, Pt.locs, Pt.cells, Pt.slots] at X21 l21 y21 z21 st21 hQ21
      subst l21 y21 z21
      obtain ⟨rfl, N21q, e21⟩ := hQ21
      have N21 := Fr.app N18 N21q
      refine Ends.st (S' := T21.setTop (mkF m 50 #[.val (.int v0), .val (.int v1), .val (.long v2), .second, .val (.int v3), .val (.int v4), .val (.int dd), .val (.int (v1 &&& (2147483647 : Int32))), .val (.long (v2 &&& (9223372036854775807 : Int64))), .second, .unset, .unset, .unset, .unset, .unset, .unset, .unset, .unset, .unset] [(.double (avg (0 : Int32) (v2 &&& (9223372036854775807 : Int64))))])) (fun _ k => st21.trans k) ?_
      refine Ends.st (S' := T21.setTop (mkF m 52 #[.val (.int v0), .val (.int v1), .val (.long v2), .second, .val (.int v3), .val (.int v4), .val (.int dd), .val (.int (v1 &&& (2147483647 : Int32))), .val (.long (v2 &&& (9223372036854775807 : Int64))), .second, .val (.double (avg (0 : Int32) (v2 &&& (9223372036854775807 : Int64)))), .second, .unset, .unset, .unset, .unset, .unset, .unset, .unset] [])) (fun _ k => XS.dstore X21.here hx rfl (hb hby at_50) rfl (l' := #[.val (.int v0), .val (.int v1), .val (.long v2), .second, .val (.int v3), .val (.int v4), .val (.int dd), .val (.int (v1 &&& (2147483647 : Int32))), .val (.long (v2 &&& (9223372036854775807 : Int64))), .second, .val (.double (avg (0 : Int32) (v2 &&& (9223372036854775807 : Int64)))), .second, .unset, .unset, .unset, .unset, .unset, .unset, .unset]) rfl k) ?_
      refine Ends.st (S' := T21.setTop (mkF m 54 #[.val (.int v0), .val (.int v1), .val (.long v2), .second, .val (.int v3), .val (.int v4), .val (.int dd), .val (.int (v1 &&& (2147483647 : Int32))), .val (.long (v2 &&& (9223372036854775807 : Int64))), .second, .val (.double (avg (0 : Int32) (v2 &&& (9223372036854775807 : Int64)))), .second, .unset, .unset, .unset, .unset, .unset, .unset, .unset] [(.double (avg (0 : Int32) (v2 &&& (9223372036854775807 : Int64))))])) (fun _ k => XS.dload X21.here hx rfl (hb hby at_52) rfl k) ?_
      refine Ends.st (S' := T21.setTop (mkF m 55 #[.val (.int v0), .val (.int v1), .val (.long v2), .second, .val (.int v3), .val (.int v4), .val (.int dd), .val (.int (v1 &&& (2147483647 : Int32))), .val (.long (v2 &&& (9223372036854775807 : Int64))), .second, .val (.double (avg (0 : Int32) (v2 &&& (9223372036854775807 : Int64)))), .second, .unset, .unset, .unset, .unset, .unset, .unset, .unset] [(.double (0 : UInt64)), (.double (avg (0 : Int32) (v2 &&& (9223372036854775807 : Int64))))])) (fun _ k => XS.dconst0 X21.here hx rfl (hb hby at_54) rfl k) ?_
      refine Ends.st (S' := T21.setTop (mkF m 56 #[.val (.int v0), .val (.int v1), .val (.long v2), .second, .val (.int v3), .val (.int v4), .val (.int dd), .val (.int (v1 &&& (2147483647 : Int32))), .val (.long (v2 &&& (9223372036854775807 : Int64))), .second, .val (.double (avg (0 : Int32) (v2 &&& (9223372036854775807 : Int64)))), .second, .unset, .unset, .unset, .unset, .unset, .unset, .unset] [(.int (cmpValue (FP.dcmp (avg (0 : Int32) (v2 &&& (9223372036854775807 : Int64))) (0 : UInt64)) .l))])) (fun _ k => XS.dcmpS X21.here hx rfl (hb hby at_55) rfl rfl k) ?_
      have hb22 : (cmpValue (FP.dcmp (avg (0 : Int32) (v2 &&& (9223372036854775807 : Int64))) (0 : UInt64)) .l) = (0 : Int32) := own_zero _
      refine Ends.st (S' := T21.setTop (mkF m 59 #[.val (.int v0), .val (.int v1), .val (.long v2), .second, .val (.int v3), .val (.int v4), .val (.int dd), .val (.int (v1 &&& (2147483647 : Int32))), .val (.long (v2 &&& (9223372036854775807 : Int64))), .second, .val (.double (avg (0 : Int32) (v2 &&& (9223372036854775807 : Int64)))), .second, .unset, .unset, .unset, .unset, .unset, .unset, .unset] [])) (fun _ k => XS.ifNo X21.here hx rfl (hb hby at_56) rfl ((if0 _ _).trans (teq hb22).2) k) ?_
      refine Ends.st (S' := T21.setTop (mkF m 60 #[.val (.int v0), .val (.int v1), .val (.long v2), .second, .val (.int v3), .val (.int v4), .val (.int dd), .val (.int (v1 &&& (2147483647 : Int32))), .val (.long (v2 &&& (9223372036854775807 : Int64))), .second, .val (.double (avg (0 : Int32) (v2 &&& (9223372036854775807 : Int64)))), .second, .unset, .unset, .unset, .unset, .unset, .unset, .unset] [(.int (1 : Int32))])) (fun _ k => XS.iconst X21.here hx rfl (hb hby at_59) k) ?_
      refine Ends.st (S' := T21.setTop (mkF m 64 #[.val (.int v0), .val (.int v1), .val (.long v2), .second, .val (.int v3), .val (.int v4), .val (.int dd), .val (.int (v1 &&& (2147483647 : Int32))), .val (.long (v2 &&& (9223372036854775807 : Int64))), .second, .val (.double (avg (0 : Int32) (v2 &&& (9223372036854775807 : Int64)))), .second, .unset, .unset, .unset, .unset, .unset, .unset, .unset] [(.int (1 : Int32))])) (fun _ k => XS.goto X21.here hx rfl (pc0 := 60) (pc' := 64) rfl (hb hby at_60) (by decide) (by decide) k) ?_
      obtain ⟨fs, hr, hrun, hended, hW, hsame⟩ := X21.leave (v := some (.int (1 : Int32))) (fun h => by rw [Bd.returns] at h; cases h)
      exact ⟨_, _, retN X21 hx (t := .boolean) Bd.returns (by simp) (hb hby at_64) hr, hrun, hended, _, _, rfl, (by show Q0 Z  h0 n0 _ T21.heap _; rw [e21]; exact ⟨rfl, N21⟩), ⟨_, rfl⟩, hW, hsame.mono (by decide) (by decide)⟩
    · refine Ends.st (S' := s₁.setTop (mkF m 65 #[.val (.int v0), .val (.int v1), .val (.long v2), .second, .val (.int v3), .val (.int v4), .val (.int dd), .val (.int (v1 &&& (2147483647 : Int32))), .unset, .unset, .unset, .unset, .unset, .unset, .unset, .unset, .unset, .unset, .unset] [])) (fun _ k => XS.ifYes X0.here hx rfl (pc0 := 25) (pc' := 65) rfl (hb hby at_25) rfl ((if0 _ _).trans (feq hc12).2) (by decide) (by decide) k) ?_
      refine Ends.st (S' := s₁.setTop (mkF m 67 #[.val (.int v0), .val (.int v1), .val (.long v2), .second, .val (.int v3), .val (.int v4), .val (.int dd), .val (.int (v1 &&& (2147483647 : Int32))), .unset, .unset, .unset, .unset, .unset, .unset, .unset, .unset, .unset, .unset, .unset] [(.int v4)])) (fun _ k => XS.iload X0.here hx rfl (hb hby at_65) rfl k) ?_
      refine Ends.st (S' := s₁.setTop (mkF m 69 #[.val (.int v0), .val (.int v1), .val (.long v2), .second, .val (.int v3), .val (.int v4), .val (.int dd), .val (.int (v1 &&& (2147483647 : Int32))), .unset, .unset, .unset, .unset, .unset, .unset, .unset, .unset, .unset, .unset, .unset] [(.int (8 : Int32)), (.int v4)])) (fun _ k => XS.bipush X0.here hx rfl (hb hby at_67) k) ?_
      refine Ends.st (S' := s₁.setTop (mkF m 70 #[.val (.int v0), .val (.int v1), .val (.long v2), .second, .val (.int v3), .val (.int v4), .val (.int dd), .val (.int (v1 &&& (2147483647 : Int32))), .unset, .unset, .unset, .unset, .unset, .unset, .unset, .unset, .unset, .unset, .unset] [(.int (v4 &&& (8 : Int32)))])) (fun _ k => XS.iand X0.here hx rfl (hb hby at_69) rfl k) ?_
      by_cases hc23 : (v4 &&& (8 : Int32)) = (0 : Int32)
      · refine Ends.st (S' := s₁.setTop (mkF m 141 #[.val (.int v0), .val (.int v1), .val (.long v2), .second, .val (.int v3), .val (.int v4), .val (.int dd), .val (.int (v1 &&& (2147483647 : Int32))), .unset, .unset, .unset, .unset, .unset, .unset, .unset, .unset, .unset, .unset, .unset] [])) (fun _ k => XS.ifYes X0.here hx rfl (pc0 := 70) (pc' := 141) rfl (hb hby at_70) rfl ((if0 _ _).trans (teq hc23).1) (by decide) (by decide) k) ?_
        refine Ends.st (S' := s₁.setTop (mkF m 143 #[.val (.int v0), .val (.int v1), .val (.long v2), .second, .val (.int v3), .val (.int v4), .val (.int dd), .val (.int (v1 &&& (2147483647 : Int32))), .unset, .unset, .unset, .unset, .unset, .unset, .unset, .unset, .unset, .unset, .unset] [(.int v3)])) (fun _ k => XS.iload X0.here hx rfl (hb hby at_141) rfl k) ?_
        refine Ends.st (S' := s₁.setTop (mkF m 145 #[.val (.int v0), .val (.int v1), .val (.long v2), .second, .val (.int v3), .val (.int v4), .val (.int dd), .val (.int (v1 &&& (2147483647 : Int32))), .unset, .unset, .unset, .unset, .unset, .unset, .unset, .unset, .unset, .unset, .unset] [(.int (2147483647 : Int32)), (.int v3)])) (fun _ k => X0.ldcInt hx hown (mvT hZ (hw _ (List.mem_of_getElem? (i := 0) rfl))) (g := (mkF m 143 #[.val (.int v0), .val (.int v1), .val (.long v2), .second, .val (.int v3), .val (.int v4), .val (.int dd), .val (.int (v1 &&& (2147483647 : Int32))), .unset, .unset, .unset, .unset, .unset, .unset, .unset, .unset, .unset, .unset, .unset] [(.int v3)])) rfl (hb hby at_143) _ k) ?_
        refine Ends.st (S' := s₁.setTop (mkF m 146 #[.val (.int v0), .val (.int v1), .val (.long v2), .second, .val (.int v3), .val (.int v4), .val (.int dd), .val (.int (v1 &&& (2147483647 : Int32))), .unset, .unset, .unset, .unset, .unset, .unset, .unset, .unset, .unset, .unset, .unset] [(.int (v3 &&& (2147483647 : Int32)))])) (fun _ k => XS.iand X0.here hx rfl (hb hby at_145) rfl k) ?_
        refine Ends.st (S' := s₁.setTop (mkF m 148 #[.val (.int v0), .val (.int v1), .val (.long v2), .second, .val (.int v3), .val (.int v4), .val (.int dd), .val (.int (v1 &&& (2147483647 : Int32))), .unset, .unset, .unset, .unset, .unset, .unset, .unset, .unset, .unset, .unset, .unset] [(.int dd), (.int (v3 &&& (2147483647 : Int32)))])) (fun _ k => XS.iload X0.here hx rfl (hb hby at_146) rfl k) ?_
        refine Ends.st (S' := s₁.setTop (mkF m 149 #[.val (.int v0), .val (.int v1), .val (.long v2), .second, .val (.int v3), .val (.int v4), .val (.int dd), .val (.int (v1 &&& (2147483647 : Int32))), .unset, .unset, .unset, .unset, .unset, .unset, .unset, .unset, .unset, .unset, .unset] [(.int ((v3 &&& (2147483647 : Int32)) - ((v3 &&& (2147483647 : Int32)) / dd) * dd))])) (fun _ k => XS.irem X0.here hx rfl (hb hby at_148) rfl hc12 k) ?_
        refine Ends.st (S' := s₁.setTop (mkF m 150 #[.val (.int v0), .val (.int v1), .val (.long v2), .second, .val (.int v3), .val (.int v4), .val (.int dd), .val (.int (v1 &&& (2147483647 : Int32))), .unset, .unset, .unset, .unset, .unset, .unset, .unset, .unset, .unset, .unset, .unset] [(.long (((v3 &&& (2147483647 : Int32)) - ((v3 &&& (2147483647 : Int32)) / dd) * dd).toInt64))])) (fun _ k => XS.i2l X0.here hx rfl (hb hby at_149) rfl k) ?_
        refine Ends.st (S' := s₁.setTop (mkF m 152 #[.val (.int v0), .val (.int v1), .val (.long v2), .second, .val (.int v3), .val (.int v4), .val (.int dd), .val (.int (v1 &&& (2147483647 : Int32))), .val (.long (((v3 &&& (2147483647 : Int32)) - ((v3 &&& (2147483647 : Int32)) / dd) * dd).toInt64)), .second, .unset, .unset, .unset, .unset, .unset, .unset, .unset, .unset, .unset] [])) (fun _ k => XS.lstore X0.here hx rfl (hb hby at_150) rfl (l' := #[.val (.int v0), .val (.int v1), .val (.long v2), .second, .val (.int v3), .val (.int v4), .val (.int dd), .val (.int (v1 &&& (2147483647 : Int32))), .val (.long (((v3 &&& (2147483647 : Int32)) - ((v3 &&& (2147483647 : Int32)) / dd) * dd).toInt64)), .second, .unset, .unset, .unset, .unset, .unset, .unset, .unset, .unset, .unset]) rfl k) ?_
        obtain ⟨rr, hrr⟩ : ∃ z, z = (((v3 &&& (2147483647 : Int32)) - ((v3 &&& (2147483647 : Int32)) / dd) * dd).toInt64) := ⟨_, rfl⟩
        rw [← hrr]
        refine Ends.st (S' := s₁.setTop (mkF m 155 #[.val (.int v0), .val (.int v1), .val (.long v2), .second, .val (.int v3), .val (.int v4), .val (.int dd), .val (.int (v1 &&& (2147483647 : Int32))), .val (.long rr), .second, .unset, .unset, .unset, .unset, .unset, .unset, .unset, .unset, .unset] [(.long (9007199254740991 : Int64))])) (fun _ k => X0.ldc2Long hx hown (mvT hZ (hw _ (List.mem_of_getElem? (i := 27) rfl))) (g := (mkF m 152 #[.val (.int v0), .val (.int v1), .val (.long v2), .second, .val (.int v3), .val (.int v4), .val (.int dd), .val (.int (v1 &&& (2147483647 : Int32))), .val (.long rr), .second, .unset, .unset, .unset, .unset, .unset, .unset, .unset, .unset, .unset] [])) rfl (hb hby at_152) _ k) ?_
        refine Ends.st (S' := s₁.setTop (mkF m 157 #[.val (.int v0), .val (.int v1), .val (.long v2), .second, .val (.int v3), .val (.int v4), .val (.int dd), .val (.int (v1 &&& (2147483647 : Int32))), .val (.long rr), .second, .unset, .unset, .unset, .unset, .unset, .unset, .unset, .unset, .unset] [(.long rr), (.long (9007199254740991 : Int64))])) (fun _ k => XS.lload X0.here hx rfl (hb hby at_155) rfl k) ?_
        refine Ends.st (S' := s₁.setTop (mkF m 158 #[.val (.int v0), .val (.int v1), .val (.long v2), .second, .val (.int v3), .val (.int v4), .val (.int dd), .val (.int (v1 &&& (2147483647 : Int32))), .val (.long rr), .second, .unset, .unset, .unset, .unset, .unset, .unset, .unset, .unset, .unset] [(.long ((9007199254740991 : Int64) - rr))])) (fun _ k => XS.lsub X0.here hx rfl (hb hby at_157) rfl k) ?_
        refine Ends.st (S' := s₁.setTop (mkF m 160 #[.val (.int v0), .val (.int v1), .val (.long v2), .second, .val (.int v3), .val (.int v4), .val (.int dd), .val (.int (v1 &&& (2147483647 : Int32))), .val (.long rr), .second, .unset, .unset, .unset, .unset, .unset, .unset, .unset, .unset, .unset] [(.int dd), (.long ((9007199254740991 : Int64) - rr))])) (fun _ k => XS.iload X0.here hx rfl (hb hby at_158) rfl k) ?_
        refine Ends.st (S' := s₁.setTop (mkF m 161 #[.val (.int v0), .val (.int v1), .val (.long v2), .second, .val (.int v3), .val (.int v4), .val (.int dd), .val (.int (v1 &&& (2147483647 : Int32))), .val (.long rr), .second, .unset, .unset, .unset, .unset, .unset, .unset, .unset, .unset, .unset] [(.long (dd.toInt64)), (.long ((9007199254740991 : Int64) - rr))])) (fun _ k => XS.i2l X0.here hx rfl (hb hby at_160) rfl k) ?_
        refine Ends.st (S' := s₁.setTop (mkF m 162 #[.val (.int v0), .val (.int v1), .val (.long v2), .second, .val (.int v3), .val (.int v4), .val (.int dd), .val (.int (v1 &&& (2147483647 : Int32))), .val (.long rr), .second, .unset, .unset, .unset, .unset, .unset, .unset, .unset, .unset, .unset] [(.long (((9007199254740991 : Int64) - rr) / (dd.toInt64)))])) (fun _ k => XS.ldiv X0.here hx rfl (hb hby at_161) rfl (own_nz64 hc12) k) ?_
        refine Ends.st (S' := s₁.setTop (mkF m 164 #[.val (.int v0), .val (.int v1), .val (.long v2), .second, .val (.int v3), .val (.int v4), .val (.int dd), .val (.int (v1 &&& (2147483647 : Int32))), .val (.long rr), .second, .val (.long (((9007199254740991 : Int64) - rr) / (dd.toInt64))), .second, .unset, .unset, .unset, .unset, .unset, .unset, .unset] [])) (fun _ k => XS.lstore X0.here hx rfl (hb hby at_162) rfl (l' := #[.val (.int v0), .val (.int v1), .val (.long v2), .second, .val (.int v3), .val (.int v4), .val (.int dd), .val (.int (v1 &&& (2147483647 : Int32))), .val (.long rr), .second, .val (.long (((9007199254740991 : Int64) - rr) / (dd.toInt64))), .second, .unset, .unset, .unset, .unset, .unset, .unset, .unset]) rfl k) ?_
        obtain ⟨qm, hqm⟩ : ∃ z, z = (((9007199254740991 : Int64) - rr) / (dd.toInt64)) := ⟨_, rfl⟩
        rw [← hqm]
        refine Ends.st (S' := s₁.setTop (mkF m 165 #[.val (.int v0), .val (.int v1), .val (.long v2), .second, .val (.int v3), .val (.int v4), .val (.int dd), .val (.int (v1 &&& (2147483647 : Int32))), .val (.long rr), .second, .val (.long qm), .second, .unset, .unset, .unset, .unset, .unset, .unset, .unset] [(.long v2)])) (fun _ k => XS.lloadN X0.here hx rfl (hb hby at_164) rfl k) ?_
        refine Ends.st (S' := s₁.setTop (mkF m 168 #[.val (.int v0), .val (.int v1), .val (.long v2), .second, .val (.int v3), .val (.int v4), .val (.int dd), .val (.int (v1 &&& (2147483647 : Int32))), .val (.long rr), .second, .val (.long qm), .second, .unset, .unset, .unset, .unset, .unset, .unset, .unset] [(.long (9223372036854775807 : Int64)), (.long v2)])) (fun _ k => X0.ldc2Long hx hown (mvT hZ (hw _ (List.mem_of_getElem? (i := 1) rfl))) (g := (mkF m 165 #[.val (.int v0), .val (.int v1), .val (.long v2), .second, .val (.int v3), .val (.int v4), .val (.int dd), .val (.int (v1 &&& (2147483647 : Int32))), .val (.long rr), .second, .val (.long qm), .second, .unset, .unset, .unset, .unset, .unset, .unset, .unset] [(.long v2)])) rfl (hb hby at_165) _ k) ?_
        refine Ends.st (S' := s₁.setTop (mkF m 169 #[.val (.int v0), .val (.int v1), .val (.long v2), .second, .val (.int v3), .val (.int v4), .val (.int dd), .val (.int (v1 &&& (2147483647 : Int32))), .val (.long rr), .second, .val (.long qm), .second, .unset, .unset, .unset, .unset, .unset, .unset, .unset] [(.long (v2 &&& (9223372036854775807 : Int64)))])) (fun _ k => XS.land X0.here hx rfl (hb hby at_168) rfl k) ?_
        refine Ends.st (S' := s₁.setTop (mkF m 171 #[.val (.int v0), .val (.int v1), .val (.long v2), .second, .val (.int v3), .val (.int v4), .val (.int dd), .val (.int (v1 &&& (2147483647 : Int32))), .val (.long rr), .second, .val (.long qm), .second, .unset, .unset, .unset, .unset, .unset, .unset, .unset] [(.long qm), (.long (v2 &&& (9223372036854775807 : Int64)))])) (fun _ k => XS.lload X0.here hx rfl (hb hby at_169) rfl k) ?_
        refine Ends.st (S' := s₁.setTop (mkF m 172 #[.val (.int v0), .val (.int v1), .val (.long v2), .second, .val (.int v3), .val (.int v4), .val (.int dd), .val (.int (v1 &&& (2147483647 : Int32))), .val (.long rr), .second, .val (.long qm), .second, .unset, .unset, .unset, .unset, .unset, .unset, .unset] [(.long (1 : Int64)), (.long qm), (.long (v2 &&& (9223372036854775807 : Int64)))])) (fun _ k => XS.lconst X0.here hx rfl (hb hby at_171) k) ?_
        refine Ends.st (S' := s₁.setTop (mkF m 173 #[.val (.int v0), .val (.int v1), .val (.long v2), .second, .val (.int v3), .val (.int v4), .val (.int dd), .val (.int (v1 &&& (2147483647 : Int32))), .val (.long rr), .second, .val (.long qm), .second, .unset, .unset, .unset, .unset, .unset, .unset, .unset] [(.long (qm + (1 : Int64))), (.long (v2 &&& (9223372036854775807 : Int64)))])) (fun _ k => XS.ladd X0.here hx rfl (hb hby at_172) rfl k) ?_
        refine Ends.st (S' := s₁.setTop (mkF m 174 #[.val (.int v0), .val (.int v1), .val (.long v2), .second, .val (.int v3), .val (.int v4), .val (.int dd), .val (.int (v1 &&& (2147483647 : Int32))), .val (.long rr), .second, .val (.long qm), .second, .unset, .unset, .unset, .unset, .unset, .unset, .unset] [(.long ((v2 &&& (9223372036854775807 : Int64)) - ((v2 &&& (9223372036854775807 : Int64)) / (qm + (1 : Int64))) * (qm + (1 : Int64))))])) (fun _ k => XS.lrem X0.here hx rfl (hb hby at_173) rfl (own_qm1 hc12 hd0 hrr hqm) k) ?_
        refine Ends.st (S' := s₁.setTop (mkF m 176 #[.val (.int v0), .val (.int v1), .val (.long v2), .second, .val (.int v3), .val (.int v4), .val (.int dd), .val (.int (v1 &&& (2147483647 : Int32))), .val (.long rr), .second, .val (.long qm), .second, .val (.long ((v2 &&& (9223372036854775807 : Int64)) - ((v2 &&& (9223372036854775807 : Int64)) / (qm + (1 : Int64))) * (qm + (1 : Int64)))), .second, .unset, .unset, .unset, .unset, .unset] [])) (fun _ k => XS.lstore X0.here hx rfl (hb hby at_174) rfl (l' := #[.val (.int v0), .val (.int v1), .val (.long v2), .second, .val (.int v3), .val (.int v4), .val (.int dd), .val (.int (v1 &&& (2147483647 : Int32))), .val (.long rr), .second, .val (.long qm), .second, .val (.long ((v2 &&& (9223372036854775807 : Int64)) - ((v2 &&& (9223372036854775807 : Int64)) / (qm + (1 : Int64))) * (qm + (1 : Int64)))), .second, .unset, .unset, .unset, .unset, .unset]) rfl k) ?_
        obtain ⟨q1, hq1⟩ : ∃ z, z = ((v2 &&& (9223372036854775807 : Int64)) - ((v2 &&& (9223372036854775807 : Int64)) / (qm + (1 : Int64))) * (qm + (1 : Int64))) := ⟨_, rfl⟩
        rw [← hq1]
        refine Ends.st (S' := s₁.setTop (mkF m 178 #[.val (.int v0), .val (.int v1), .val (.long v2), .second, .val (.int v3), .val (.int v4), .val (.int dd), .val (.int (v1 &&& (2147483647 : Int32))), .val (.long rr), .second, .val (.long qm), .second, .val (.long q1), .second, .unset, .unset, .unset, .unset, .unset] [(.int v4)])) (fun _ k => XS.iload X0.here hx rfl (hb hby at_176) rfl k) ?_
        refine Ends.st (S' := s₁.setTop (mkF m 179 #[.val (.int v0), .val (.int v1), .val (.long v2), .second, .val (.int v3), .val (.int v4), .val (.int dd), .val (.int (v1 &&& (2147483647 : Int32))), .val (.long rr), .second, .val (.long qm), .second, .val (.long q1), .second, .unset, .unset, .unset, .unset, .unset] [(.int (4 : Int32)), (.int v4)])) (fun _ k => XS.iconst X0.here hx rfl (hb hby at_178) k) ?_
        refine Ends.st (S' := s₁.setTop (mkF m 180 #[.val (.int v0), .val (.int v1), .val (.long v2), .second, .val (.int v3), .val (.int v4), .val (.int dd), .val (.int (v1 &&& (2147483647 : Int32))), .val (.long rr), .second, .val (.long qm), .second, .val (.long q1), .second, .unset, .unset, .unset, .unset, .unset] [(.int (v4 &&& (4 : Int32)))])) (fun _ k => XS.iand X0.here hx rfl (hb hby at_179) rfl k) ?_
        by_cases hc24 : (v4 &&& (4 : Int32)) = (0 : Int32)
        · refine Ends.st (S' := s₁.setTop (mkF m 191 #[.val (.int v0), .val (.int v1), .val (.long v2), .second, .val (.int v3), .val (.int v4), .val (.int dd), .val (.int (v1 &&& (2147483647 : Int32))), .val (.long rr), .second, .val (.long qm), .second, .val (.long q1), .second, .unset, .unset, .unset, .unset, .unset] [])) (fun _ k => XS.ifYes X0.here hx rfl (pc0 := 180) (pc' := 191) rfl (hb hby at_180) rfl ((if0 _ _).trans (teq hc24).1) (by decide) (by decide) k) ?_
          refine Ends.st (S' := s₁.setTop (mkF m 193 #[.val (.int v0), .val (.int v1), .val (.long v2), .second, .val (.int v3), .val (.int v4), .val (.int dd), .val (.int (v1 &&& (2147483647 : Int32))), .val (.long rr), .second, .val (.long qm), .second, .val (.long q1), .second, .unset, .unset, .unset, .unset, .unset] [(.long q1)])) (fun _ k => XS.lload X0.here hx rfl (hb hby at_191) rfl k) ?_
          refine Ends.st (S' := s₁.setTop (mkF m 195 #[.val (.int v0), .val (.int v1), .val (.long v2), .second, .val (.int v3), .val (.int v4), .val (.int dd), .val (.int (v1 &&& (2147483647 : Int32))), .val (.long rr), .second, .val (.long qm), .second, .val (.long q1), .second, .unset, .unset, .unset, .unset, .unset] [(.int dd), (.long q1)])) (fun _ k => XS.iload X0.here hx rfl (hb hby at_193) rfl k) ?_
          refine Ends.st (S' := s₁.setTop (mkF m 196 #[.val (.int v0), .val (.int v1), .val (.long v2), .second, .val (.int v3), .val (.int v4), .val (.int dd), .val (.int (v1 &&& (2147483647 : Int32))), .val (.long rr), .second, .val (.long qm), .second, .val (.long q1), .second, .unset, .unset, .unset, .unset, .unset] [(.long (dd.toInt64)), (.long q1)])) (fun _ k => XS.i2l X0.here hx rfl (hb hby at_195) rfl k) ?_
          refine Ends.st (S' := s₁.setTop (mkF m 197 #[.val (.int v0), .val (.int v1), .val (.long v2), .second, .val (.int v3), .val (.int v4), .val (.int dd), .val (.int (v1 &&& (2147483647 : Int32))), .val (.long rr), .second, .val (.long qm), .second, .val (.long q1), .second, .unset, .unset, .unset, .unset, .unset] [(.long (q1 * (dd.toInt64)))])) (fun _ k => XS.lmul X0.here hx rfl (hb hby at_196) rfl k) ?_
          refine Ends.st (S' := s₁.setTop (mkF m 199 #[.val (.int v0), .val (.int v1), .val (.long v2), .second, .val (.int v3), .val (.int v4), .val (.int dd), .val (.int (v1 &&& (2147483647 : Int32))), .val (.long rr), .second, .val (.long qm), .second, .val (.long q1), .second, .unset, .unset, .unset, .unset, .unset] [(.long rr), (.long (q1 * (dd.toInt64)))])) (fun _ k => XS.lload X0.here hx rfl (hb hby at_197) rfl k) ?_
          refine Ends.st (S' := s₁.setTop (mkF m 200 #[.val (.int v0), .val (.int v1), .val (.long v2), .second, .val (.int v3), .val (.int v4), .val (.int dd), .val (.int (v1 &&& (2147483647 : Int32))), .val (.long rr), .second, .val (.long qm), .second, .val (.long q1), .second, .unset, .unset, .unset, .unset, .unset] [(.long ((q1 * (dd.toInt64)) + rr))])) (fun _ k => XS.ladd X0.here hx rfl (hb hby at_199) rfl k) ?_
          refine Ends.st (S' := s₁.setTop (mkF m 202 #[.val (.int v0), .val (.int v1), .val (.long v2), .second, .val (.int v3), .val (.int v4), .val (.int dd), .val (.int (v1 &&& (2147483647 : Int32))), .val (.long rr), .second, .val (.long qm), .second, .val (.long q1), .second, .val (.long ((q1 * (dd.toInt64)) + rr)), .second, .unset, .unset, .unset] [])) (fun _ k => XS.lstore X0.here hx rfl (hb hby at_200) rfl (l' := #[.val (.int v0), .val (.int v1), .val (.long v2), .second, .val (.int v3), .val (.int v4), .val (.int dd), .val (.int (v1 &&& (2147483647 : Int32))), .val (.long rr), .second, .val (.long qm), .second, .val (.long q1), .second, .val (.long ((q1 * (dd.toInt64)) + rr)), .second, .unset, .unset, .unset]) rfl k) ?_
          obtain ⟨tk, htk⟩ : ∃ z, z = ((q1 * (dd.toInt64)) + rr) := ⟨_, rfl⟩
          rw [← htk]
          obtain ⟨hk0, hk1, hr0, hr1, hq0, hkq⟩ := own_arith (rem := v3) (quot := v2) hc12 hd0 hrr hqm hq1 (own_q1 q1) htk
          obtain ⟨T25, h25, X25, e25, E25, A25, D25, -, st25⟩ := newO X0 hx hZ hown (hw _ (List.mem_of_getElem? (i := 2) rfl)) (hw _ (List.mem_of_getElem? (i := 3) rfl)) (hw _ (List.mem_of_getElem? (i := 4) rfl)) e0 (g := (mkF m 202 #[.val (.int v0), .val (.int v1), .val (.long v2), .second, .val (.int v3), .val (.int v4), .val (.int dd), .val (.int (v1 &&& (2147483647 : Int32))), .val (.long rr), .second, .val (.long qm), .second, .val (.long q1), .second, .val (.long tk), .second, .unset, .unset, .unset] [])) rfl (hb hby at_202) (by decide) (by decide)
          obtain ⟨b25, g25⟩ : ∃ z, z = h0.size := ⟨_, rfl⟩
          rw [← g25] at A25 D25 st25
          have g_b25 : n0 ≤ b25 := Nat.le_trans Z0 (Nat.le_of_eq g25.symm)
          have f26 := Nat.le_trans Z0 E25.1
          have F27 : Fld Z h25 b25 "com/example/net_weight/netweight/core/index/CollectionStatistics" "documents" "I" (.int (0 : Int32)) := D25 (Or.inr (hw _ (List.mem_of_getElem? (i := 17) rfl))) (ty := .int) (by decide)
          have F28 : Fld Z h25 b25 "com/example/net_weight/netweight/core/index/CollectionStatistics" "terms" "I" (.int (0 : Int32)) := D25 (Or.inr (hw _ (List.mem_of_getElem? (i := 19) rfl))) (ty := .int) (by decide)
          have F29 : Fld Z h25 b25 "com/example/net_weight/netweight/core/index/CollectionStatistics" "tokens" "J" (.long (0 : Int64)) := D25 (Or.inr (hw _ (List.mem_of_getElem? (i := 21) rfl))) (ty := .long) (by decide)
          refine Ends.st (S' := T25.setTop (mkF m 205 #[.val (.int v0), .val (.int v1), .val (.long v2), .second, .val (.int v3), .val (.int v4), .val (.int dd), .val (.int (v1 &&& (2147483647 : Int32))), .val (.long rr), .second, .val (.long qm), .second, .val (.long q1), .second, .val (.long tk), .second, .unset, .unset, .unset] [(.ref b25)])) (fun _ k => st25 _ k) ?_
          refine Ends.st (S' := T25.setTop (mkF m 206 #[.val (.int v0), .val (.int v1), .val (.long v2), .second, .val (.int v3), .val (.int v4), .val (.int dd), .val (.int (v1 &&& (2147483647 : Int32))), .val (.long rr), .second, .val (.long qm), .second, .val (.long q1), .second, .val (.long tk), .second, .unset, .unset, .unset] [(.ref b25), (.ref b25)])) (fun _ k => XS.dup X25.here hx rfl (hb hby at_205) rfl rfl k) ?_
          refine Ends.st (S' := T25.setTop (mkF m 208 #[.val (.int v0), .val (.int v1), .val (.long v2), .second, .val (.int v3), .val (.int v4), .val (.int dd), .val (.int (v1 &&& (2147483647 : Int32))), .val (.long rr), .second, .val (.long qm), .second, .val (.long q1), .second, .val (.long tk), .second, .unset, .unset, .unset] [(.int dd), (.ref b25), (.ref b25)])) (fun _ k => XS.iload X25.here hx rfl (hb hby at_206) rfl k) ?_
          refine Ends.st (S' := T25.setTop (mkF m 210 #[.val (.int v0), .val (.int v1), .val (.long v2), .second, .val (.int v3), .val (.int v4), .val (.int dd), .val (.int (v1 &&& (2147483647 : Int32))), .val (.long rr), .second, .val (.long qm), .second, .val (.long q1), .second, .val (.long tk), .second, .unset, .unset, .unset] [(.int (v1 &&& (2147483647 : Int32))), (.int dd), (.ref b25), (.ref b25)])) (fun _ k => XS.iload X25.here hx rfl (hb hby at_208) rfl k) ?_
          refine Ends.st (S' := T25.setTop (mkF m 212 #[.val (.int v0), .val (.int v1), .val (.long v2), .second, .val (.int v3), .val (.int v4), .val (.int dd), .val (.int (v1 &&& (2147483647 : Int32))), .val (.long rr), .second, .val (.long qm), .second, .val (.long q1), .second, .val (.long tk), .second, .unset, .unset, .unset] [(.long tk), (.int (v1 &&& (2147483647 : Int32))), (.int dd), (.ref b25), (.ref b25)])) (fun _ k => XS.lload X25.here hx rfl (hb hby at_210) rfl k) ?_
          obtain ⟨_, _, ⟨T30, L30, k30, n30⟩, -, X30, ⟨Lc30, hQ30, l30, y30, z30⟩, st30⟩ := X25.specialBack hx (y := (⟨"com/example/net_weight/netweight/core/index/CollectionStatistics", "<init>", "(IIJ)V"⟩ : MethodName)) rfl hown (mvT hZ (hw _ (List.mem_of_getElem? (i := 5) rfl))) (mvT hZ (hw _ (List.mem_of_getElem? (i := 6) rfl))) (mvT hZ (hw _ (List.mem_of_getElem? (i := 7) rfl))) (by decide) (backOf (W := 1) (rm1 l Z a0 hw [] b25 dd (v1 &&& (2147483647 : Int32)) tk h25 n0 f26 A25 F27 F28 F29 g_b25 hd0 (own_nonneg v1) hk0) hZ (hw _ (List.mem_of_getElem? (i := 7) rfl)) (hw _ (List.mem_of_getElem? (i := 4) rfl)) (by decide) (by decide)) (g := (mkF m 212 #[.val (.int v0), .val (.int v1), .val (.long v2), .second, .val (.int v3), .val (.int v4), .val (.int dd), .val (.int (v1 &&& (2147483647 : Int32))), .val (.long rr), .second, .val (.long qm), .second, .val (.long q1), .second, .val (.long tk), .second, .unset, .unset, .unset] [(.long tk), (.int (v1 &&& (2147483647 : Int32))), (.int dd), (.ref b25), (.ref b25)])) rfl (by rw [hml]; rfl) (Steps.refl _) (a := b25) (argsL := [(.int dd), (.int (v1 &&& (2147483647 : Int32))), (.long tk)]) (rest := [(.ref b25)]) (lenOf pd_1 rfl) rfl (by show 2 * 0 + _ ≤ _; exact Nat.le_of_eq rfl) (hb hby at_212) (fun _ _ => ⟨rfl, e25, (by decide : 0 + 1 + 0 ≤ _), (by decide : 0 + 3 + 0 ≤ _)⟩)
          dsimp only [Pt.U, Pt.locs, Pt.cells, Pt.slots] at X30 l30 y30 z30 st30 hQ30
          subst l30 y30 z30
          obtain ⟨rfl, N30q, K30, G30, J30⟩ := hQ30
          have N30 := Fr.app N0 N30q
          have f31 := Nat.le_trans f26 K30.1
          have f32 := A25.keep K30
          refine Ends.st (S' := T30.setTop (mkF m 215 #[.val (.int v0), .val (.int v1), .val (.long v2), .second, .val (.int v3), .val (.int v4), .val (.int dd), .val (.int (v1 &&& (2147483647 : Int32))), .val (.long rr), .second, .val (.long qm), .second, .val (.long q1), .second, .val (.long tk), .second, .unset, .unset, .unset] [(.ref b25)])) (fun _ k => st30.trans k) ?_
          obtain ⟨cq33, kq33, q33a, q33b, q33c⟩ := isOf hZ rfl (f32)
          obtain ⟨_, _, ⟨T33, L33, k33, n33⟩, -, X33, ⟨Lc33, hQ33, l33, y33, z33⟩, st33⟩ := X30.virtualBack hx (y := (⟨"com/example/net_weight/netweight/core/index/CollectionStatistics", "averageDocumentLength", "()D"⟩ : MethodName)) (z := (⟨"com/example/net_weight/netweight/core/index/CollectionStatistics", "averageDocumentLength", "()D"⟩ : MethodName)) hown (mvT hZ (hw _ (List.mem_of_getElem? (i := 22) rfl))) (mvT hZ (hw _ (List.mem_of_getElem? (i := 23) rfl))) (notFace_of_selects (args := #[]) (mvT hZ (hw _ (List.mem_of_getElem? (i := 25) rfl)))) (mvT hZ (hw _ (List.mem_of_getElem? (i := 25) rfl))) (mvT hZ (hw _ (List.mem_of_getElem? (i := 24) rfl))) (by decide) (backOf (W := 0) (rm4 l Z a0 hw [] b25 dd tk T30.heap n0 f31 G30 J30) hZ (hw _ (List.mem_of_getElem? (i := 26) rfl)) (hw _ (List.mem_of_getElem? (i := 4) rfl)) (by decide) (by decide)) q33a q33c (g := (mkF m 215 #[.val (.int v0), .val (.int v1), .val (.long v2), .second, .val (.int v3), .val (.int v4), .val (.int dd), .val (.int (v1 &&& (2147483647 : Int32))), .val (.long rr), .second, .val (.long qm), .second, .val (.long q1), .second, .val (.long tk), .second, .unset, .unset, .unset] [(.ref b25)])) rfl (by rw [hml]; rfl) (Steps.refl _) (argsL := []) (rest := []) (lenOf pd_2 rfl) rfl (by show 2 * 0 + _ ≤ _; exact Nat.le_of_eq rfl) (hb hby at_215) (fun _ _ => ⟨rfl, rfl, (by decide : 0 + 1 + 0 + 0 ≤ _), (by decide : 0 + 3 + 0 + 0 ≤ _)⟩)
          dsimp only [Pt.U, Pt.locs, Pt.cells, Pt.slots] at X33 l33 y33 z33 st33 hQ33
          subst l33 y33 z33
          obtain ⟨rfl, N33q, e33⟩ := hQ33
          have N33 := Fr.app N30 N33q
          refine Ends.st (S' := T33.setTop (mkF m 218 #[.val (.int v0), .val (.int v1), .val (.long v2), .second, .val (.int v3), .val (.int v4), .val (.int dd), .val (.int (v1 &&& (2147483647 : Int32))), .val (.long rr), .second, .val (.long qm), .second, .val (.long q1), .second, .val (.long tk), .second, .unset, .unset, .unset] [(.double (avg dd tk))])) (fun _ k => st33.trans k) ?_
          refine Ends.st (S' := T33.setTop (mkF m 220 #[.val (.int v0), .val (.int v1), .val (.long v2), .second, .val (.int v3), .val (.int v4), .val (.int dd), .val (.int (v1 &&& (2147483647 : Int32))), .val (.long rr), .second, .val (.long qm), .second, .val (.long q1), .second, .val (.long tk), .second, .val (.double (avg dd tk)), .second, .unset] [])) (fun _ k => XS.dstore X33.here hx rfl (hb hby at_218) rfl (l' := #[.val (.int v0), .val (.int v1), .val (.long v2), .second, .val (.int v3), .val (.int v4), .val (.int dd), .val (.int (v1 &&& (2147483647 : Int32))), .val (.long rr), .second, .val (.long qm), .second, .val (.long q1), .second, .val (.long tk), .second, .val (.double (avg dd tk)), .second, .unset]) rfl k) ?_
          refine Ends.st (S' := T33.setTop (mkF m 222 #[.val (.int v0), .val (.int v1), .val (.long v2), .second, .val (.int v3), .val (.int v4), .val (.int dd), .val (.int (v1 &&& (2147483647 : Int32))), .val (.long rr), .second, .val (.long qm), .second, .val (.long q1), .second, .val (.long tk), .second, .val (.double (avg dd tk)), .second, .unset] [(.long rr)])) (fun _ k => XS.lload X33.here hx rfl (hb hby at_220) rfl k) ?_
          refine Ends.st (S' := T33.setTop (mkF m 223 #[.val (.int v0), .val (.int v1), .val (.long v2), .second, .val (.int v3), .val (.int v4), .val (.int dd), .val (.int (v1 &&& (2147483647 : Int32))), .val (.long rr), .second, .val (.long qm), .second, .val (.long q1), .second, .val (.long tk), .second, .val (.double (avg dd tk)), .second, .unset] [(.long (0 : Int64)), (.long rr)])) (fun _ k => XS.lconst X33.here hx rfl (hb hby at_222) k) ?_
          refine Ends.st (S' := T33.setTop (mkF m 224 #[.val (.int v0), .val (.int v1), .val (.long v2), .second, .val (.int v3), .val (.int v4), .val (.int dd), .val (.int (v1 &&& (2147483647 : Int32))), .val (.long rr), .second, .val (.long qm), .second, .val (.long q1), .second, .val (.long tk), .second, .val (.double (avg dd tk)), .second, .unset] [(.int (lcmpW rr (0 : Int64)))])) (fun _ k => XS.lcmp X33.here hx rfl (hb hby at_223) rfl k) ?_
          by_cases hc34 : (lcmpW rr (0 : Int64)) = (0 : Int32)
          · refine Ends.st (S' := T33.setTop (mkF m 227 #[.val (.int v0), .val (.int v1), .val (.long v2), .second, .val (.int v3), .val (.int v4), .val (.int dd), .val (.int (v1 &&& (2147483647 : Int32))), .val (.long rr), .second, .val (.long qm), .second, .val (.long q1), .second, .val (.long tk), .second, .val (.double (avg dd tk)), .second, .unset] [])) (fun _ k => XS.ifNo X33.here hx rfl (hb hby at_224) rfl ((if0 _ _).trans (teq hc34).2) k) ?_
            refine Ends.st (S' := T33.setTop (mkF m 229 #[.val (.int v0), .val (.int v1), .val (.long v2), .second, .val (.int v3), .val (.int v4), .val (.int dd), .val (.int (v1 &&& (2147483647 : Int32))), .val (.long rr), .second, .val (.long qm), .second, .val (.long q1), .second, .val (.long tk), .second, .val (.double (avg dd tk)), .second, .unset] [(.double (avg dd tk))])) (fun _ k => XS.dload X33.here hx rfl (hb hby at_227) rfl k) ?_
            refine Ends.st (S' := T33.setTop (mkF m 231 #[.val (.int v0), .val (.int v1), .val (.long v2), .second, .val (.int v3), .val (.int v4), .val (.int dd), .val (.int (v1 &&& (2147483647 : Int32))), .val (.long rr), .second, .val (.long qm), .second, .val (.long q1), .second, .val (.long tk), .second, .val (.double (avg dd tk)), .second, .unset] [(.long q1), (.double (avg dd tk))])) (fun _ k => XS.lload X33.here hx rfl (hb hby at_229) rfl k) ?_
            refine Ends.st (S' := T33.setTop (mkF m 232 #[.val (.int v0), .val (.int v1), .val (.long v2), .second, .val (.int v3), .val (.int v4), .val (.int dd), .val (.int (v1 &&& (2147483647 : Int32))), .val (.long rr), .second, .val (.long qm), .second, .val (.long q1), .second, .val (.long tk), .second, .val (.double (avg dd tk)), .second, .unset] [(.double (FP.l2d q1)), (.double (avg dd tk))])) (fun _ k => XS.l2dS X33.here hx rfl (hb hby at_231) rfl rfl k) ?_
            refine Ends.st (S' := T33.setTop (mkF m 233 #[.val (.int v0), .val (.int v1), .val (.long v2), .second, .val (.int v3), .val (.int v4), .val (.int dd), .val (.int (v1 &&& (2147483647 : Int32))), .val (.long rr), .second, .val (.long qm), .second, .val (.long q1), .second, .val (.long tk), .second, .val (.double (avg dd tk)), .second, .unset] [(.int (cmpValue (FP.dcmp (avg dd tk) (FP.l2d q1)) .l))])) (fun _ k => XS.dcmpS X33.here hx rfl (hb hby at_232) rfl rfl k) ?_
            have hb35 : (cmpValue (FP.dcmp (avg dd tk) (FP.l2d q1)) .l) = (0 : Int32) := own_exact hd0 hc12 hk0 hk1 hq0 (by rw [hkq, own_r0 hc34, Int.add_zero])
            refine Ends.st (S' := T33.setTop (mkF m 236 #[.val (.int v0), .val (.int v1), .val (.long v2), .second, .val (.int v3), .val (.int v4), .val (.int dd), .val (.int (v1 &&& (2147483647 : Int32))), .val (.long rr), .second, .val (.long qm), .second, .val (.long q1), .second, .val (.long tk), .second, .val (.double (avg dd tk)), .second, .unset] [])) (fun _ k => XS.ifNo X33.here hx rfl (hb hby at_233) rfl ((if0 _ _).trans (teq hb35).2) k) ?_
            refine Ends.st (S' := T33.setTop (mkF m 237 #[.val (.int v0), .val (.int v1), .val (.long v2), .second, .val (.int v3), .val (.int v4), .val (.int dd), .val (.int (v1 &&& (2147483647 : Int32))), .val (.long rr), .second, .val (.long qm), .second, .val (.long q1), .second, .val (.long tk), .second, .val (.double (avg dd tk)), .second, .unset] [(.int (1 : Int32))])) (fun _ k => XS.iconst X33.here hx rfl (hb hby at_236) k) ?_
            refine Ends.st (S' := T33.setTop (mkF m 241 #[.val (.int v0), .val (.int v1), .val (.long v2), .second, .val (.int v3), .val (.int v4), .val (.int dd), .val (.int (v1 &&& (2147483647 : Int32))), .val (.long rr), .second, .val (.long qm), .second, .val (.long q1), .second, .val (.long tk), .second, .val (.double (avg dd tk)), .second, .unset] [(.int (1 : Int32))])) (fun _ k => XS.goto X33.here hx rfl (pc0 := 237) (pc' := 241) rfl (hb hby at_237) (by decide) (by decide) k) ?_
            obtain ⟨fs, hr, hrun, hended, hW, hsame⟩ := X33.leave (v := some (.int (1 : Int32))) (fun h => by rw [Bd.returns] at h; cases h)
            exact ⟨_, _, retN X33 hx (t := .boolean) Bd.returns (by simp) (hb hby at_241) hr, hrun, hended, _, _, rfl, (by show Q0 Z  h0 n0 _ T33.heap _; rw [e33]; exact ⟨rfl, N33⟩), ⟨_, rfl⟩, hW, hsame.mono (by decide) (by decide)⟩
          · refine Ends.st (S' := T33.setTop (mkF m 242 #[.val (.int v0), .val (.int v1), .val (.long v2), .second, .val (.int v3), .val (.int v4), .val (.int dd), .val (.int (v1 &&& (2147483647 : Int32))), .val (.long rr), .second, .val (.long qm), .second, .val (.long q1), .second, .val (.long tk), .second, .val (.double (avg dd tk)), .second, .unset] [])) (fun _ k => XS.ifYes X33.here hx rfl (pc0 := 224) (pc' := 242) rfl (hb hby at_224) rfl ((if0 _ _).trans (feq hc34).2) (by decide) (by decide) k) ?_
            refine Ends.st (S' := T33.setTop (mkF m 244 #[.val (.int v0), .val (.int v1), .val (.long v2), .second, .val (.int v3), .val (.int v4), .val (.int dd), .val (.int (v1 &&& (2147483647 : Int32))), .val (.long rr), .second, .val (.long qm), .second, .val (.long q1), .second, .val (.long tk), .second, .val (.double (avg dd tk)), .second, .unset] [(.long q1)])) (fun _ k => XS.lload X33.here hx rfl (hb hby at_242) rfl k) ?_
            refine Ends.st (S' := T33.setTop (mkF m 245 #[.val (.int v0), .val (.int v1), .val (.long v2), .second, .val (.int v3), .val (.int v4), .val (.int dd), .val (.int (v1 &&& (2147483647 : Int32))), .val (.long rr), .second, .val (.long qm), .second, .val (.long q1), .second, .val (.long tk), .second, .val (.double (avg dd tk)), .second, .unset] [(.double (FP.l2d q1))])) (fun _ k => XS.l2dS X33.here hx rfl (hb hby at_244) rfl rfl k) ?_
            refine Ends.st (S' := T33.setTop (mkF m 247 #[.val (.int v0), .val (.int v1), .val (.long v2), .second, .val (.int v3), .val (.int v4), .val (.int dd), .val (.int (v1 &&& (2147483647 : Int32))), .val (.long rr), .second, .val (.long qm), .second, .val (.long q1), .second, .val (.long tk), .second, .val (.double (avg dd tk)), .second, .unset] [(.double (avg dd tk)), (.double (FP.l2d q1))])) (fun _ k => XS.dload X33.here hx rfl (hb hby at_245) rfl k) ?_
            refine Ends.st (S' := T33.setTop (mkF m 248 #[.val (.int v0), .val (.int v1), .val (.long v2), .second, .val (.int v3), .val (.int v4), .val (.int dd), .val (.int (v1 &&& (2147483647 : Int32))), .val (.long rr), .second, .val (.long qm), .second, .val (.long q1), .second, .val (.long tk), .second, .val (.double (avg dd tk)), .second, .unset] [(.int (cmpValue (FP.dcmp (FP.l2d q1) (avg dd tk)) .g))])) (fun _ k => XS.dcmpS X33.here hx rfl (hb hby at_247) rfl rfl k) ?_
            have hb36 : ¬ ((0 : Int32) < (cmpValue (FP.dcmp (FP.l2d q1) (avg dd tk)) .g)) := own_lo hd0 hc12 hk0 hk1 hq0 hkq hr0 hr1
            refine Ends.st (S' := T33.setTop (mkF m 251 #[.val (.int v0), .val (.int v1), .val (.long v2), .second, .val (.int v3), .val (.int v4), .val (.int dd), .val (.int (v1 &&& (2147483647 : Int32))), .val (.long rr), .second, .val (.long qm), .second, .val (.long q1), .second, .val (.long tk), .second, .val (.double (avg dd tk)), .second, .unset] [])) (fun _ k => XS.ifNo X33.here hx rfl (hb hby at_248) rfl ((if0 _ _).trans (flt hb36).2.2.1) k) ?_
            refine Ends.st (S' := T33.setTop (mkF m 253 #[.val (.int v0), .val (.int v1), .val (.long v2), .second, .val (.int v3), .val (.int v4), .val (.int dd), .val (.int (v1 &&& (2147483647 : Int32))), .val (.long rr), .second, .val (.long qm), .second, .val (.long q1), .second, .val (.long tk), .second, .val (.double (avg dd tk)), .second, .unset] [(.double (avg dd tk))])) (fun _ k => XS.dload X33.here hx rfl (hb hby at_251) rfl k) ?_
            refine Ends.st (S' := T33.setTop (mkF m 255 #[.val (.int v0), .val (.int v1), .val (.long v2), .second, .val (.int v3), .val (.int v4), .val (.int dd), .val (.int (v1 &&& (2147483647 : Int32))), .val (.long rr), .second, .val (.long qm), .second, .val (.long q1), .second, .val (.long tk), .second, .val (.double (avg dd tk)), .second, .unset] [(.long q1), (.double (avg dd tk))])) (fun _ k => XS.lload X33.here hx rfl (hb hby at_253) rfl k) ?_
            refine Ends.st (S' := T33.setTop (mkF m 256 #[.val (.int v0), .val (.int v1), .val (.long v2), .second, .val (.int v3), .val (.int v4), .val (.int dd), .val (.int (v1 &&& (2147483647 : Int32))), .val (.long rr), .second, .val (.long qm), .second, .val (.long q1), .second, .val (.long tk), .second, .val (.double (avg dd tk)), .second, .unset] [(.long (1 : Int64)), (.long q1), (.double (avg dd tk))])) (fun _ k => XS.lconst X33.here hx rfl (hb hby at_255) k) ?_
            refine Ends.st (S' := T33.setTop (mkF m 257 #[.val (.int v0), .val (.int v1), .val (.long v2), .second, .val (.int v3), .val (.int v4), .val (.int dd), .val (.int (v1 &&& (2147483647 : Int32))), .val (.long rr), .second, .val (.long qm), .second, .val (.long q1), .second, .val (.long tk), .second, .val (.double (avg dd tk)), .second, .unset] [(.long (q1 + (1 : Int64))), (.double (avg dd tk))])) (fun _ k => XS.ladd X33.here hx rfl (hb hby at_256) rfl k) ?_
            refine Ends.st (S' := T33.setTop (mkF m 258 #[.val (.int v0), .val (.int v1), .val (.long v2), .second, .val (.int v3), .val (.int v4), .val (.int dd), .val (.int (v1 &&& (2147483647 : Int32))), .val (.long rr), .second, .val (.long qm), .second, .val (.long q1), .second, .val (.long tk), .second, .val (.double (avg dd tk)), .second, .unset] [(.double (FP.l2d (q1 + (1 : Int64)))), (.double (avg dd tk))])) (fun _ k => XS.l2dS X33.here hx rfl (hb hby at_257) rfl rfl k) ?_
            refine Ends.st (S' := T33.setTop (mkF m 259 #[.val (.int v0), .val (.int v1), .val (.long v2), .second, .val (.int v3), .val (.int v4), .val (.int dd), .val (.int (v1 &&& (2147483647 : Int32))), .val (.long rr), .second, .val (.long qm), .second, .val (.long q1), .second, .val (.long tk), .second, .val (.double (avg dd tk)), .second, .unset] [(.int (cmpValue (FP.dcmp (avg dd tk) (FP.l2d (q1 + (1 : Int64)))) .g))])) (fun _ k => XS.dcmpS X33.here hx rfl (hb hby at_258) rfl rfl k) ?_
            have hb37 : ¬ ((0 : Int32) < (cmpValue (FP.dcmp (avg dd tk) (FP.l2d (q1 + (1 : Int64)))) .g)) := own_hi hd0 hc12 hk0 hk1 hq0 hkq hr0 hr1 (own_rz hr0 hc34)
            refine Ends.st (S' := T33.setTop (mkF m 262 #[.val (.int v0), .val (.int v1), .val (.long v2), .second, .val (.int v3), .val (.int v4), .val (.int dd), .val (.int (v1 &&& (2147483647 : Int32))), .val (.long rr), .second, .val (.long qm), .second, .val (.long q1), .second, .val (.long tk), .second, .val (.double (avg dd tk)), .second, .unset] [])) (fun _ k => XS.ifNo X33.here hx rfl (hb hby at_259) rfl ((if0 _ _).trans (flt hb37).2.2.1) k) ?_
            refine Ends.st (S' := T33.setTop (mkF m 263 #[.val (.int v0), .val (.int v1), .val (.long v2), .second, .val (.int v3), .val (.int v4), .val (.int dd), .val (.int (v1 &&& (2147483647 : Int32))), .val (.long rr), .second, .val (.long qm), .second, .val (.long q1), .second, .val (.long tk), .second, .val (.double (avg dd tk)), .second, .unset] [(.int (1 : Int32))])) (fun _ k => XS.iconst X33.here hx rfl (hb hby at_262) k) ?_
            refine Ends.st (S' := T33.setTop (mkF m 267 #[.val (.int v0), .val (.int v1), .val (.long v2), .second, .val (.int v3), .val (.int v4), .val (.int dd), .val (.int (v1 &&& (2147483647 : Int32))), .val (.long rr), .second, .val (.long qm), .second, .val (.long q1), .second, .val (.long tk), .second, .val (.double (avg dd tk)), .second, .unset] [(.int (1 : Int32))])) (fun _ k => XS.goto X33.here hx rfl (pc0 := 263) (pc' := 267) rfl (hb hby at_263) (by decide) (by decide) k) ?_
            refine Ends.st (S' := T33.setTop (mkF m 269 #[.val (.int v0), .val (.int v1), .val (.long v2), .second, .val (.int v3), .val (.int v4), .val (.int dd), .val (.int (v1 &&& (2147483647 : Int32))), .val (.long rr), .second, .val (.long qm), .second, .val (.long q1), .second, .val (.long tk), .second, .val (.double (avg dd tk)), .second, .val (.int (1 : Int32))] [])) (fun _ k => XS.istore X33.here hx rfl (hb hby at_267) rfl (l' := #[.val (.int v0), .val (.int v1), .val (.long v2), .second, .val (.int v3), .val (.int v4), .val (.int dd), .val (.int (v1 &&& (2147483647 : Int32))), .val (.long rr), .second, .val (.long qm), .second, .val (.long q1), .second, .val (.long tk), .second, .val (.double (avg dd tk)), .second, .val (.int (1 : Int32))]) rfl k) ?_
            refine Ends.st (S' := T33.setTop (mkF m 271 #[.val (.int v0), .val (.int v1), .val (.long v2), .second, .val (.int v3), .val (.int v4), .val (.int dd), .val (.int (v1 &&& (2147483647 : Int32))), .val (.long rr), .second, .val (.long qm), .second, .val (.long q1), .second, .val (.long tk), .second, .val (.double (avg dd tk)), .second, .val (.int (1 : Int32))] [(.long q1)])) (fun _ k => XS.lload X33.here hx rfl (hb hby at_269) rfl k) ?_
            refine Ends.st (S' := T33.setTop (mkF m 274 #[.val (.int v0), .val (.int v1), .val (.long v2), .second, .val (.int v3), .val (.int v4), .val (.int dd), .val (.int (v1 &&& (2147483647 : Int32))), .val (.long rr), .second, .val (.long qm), .second, .val (.long q1), .second, .val (.long tk), .second, .val (.double (avg dd tk)), .second, .val (.int (1 : Int32))] [(.long (1048576 : Int64)), (.long q1)])) (fun _ k => X33.ldc2Long hx hown (mvT hZ (hw _ (List.mem_of_getElem? (i := 29) rfl))) (g := (mkF m 271 #[.val (.int v0), .val (.int v1), .val (.long v2), .second, .val (.int v3), .val (.int v4), .val (.int dd), .val (.int (v1 &&& (2147483647 : Int32))), .val (.long rr), .second, .val (.long qm), .second, .val (.long q1), .second, .val (.long tk), .second, .val (.double (avg dd tk)), .second, .val (.int (1 : Int32))] [(.long q1)])) rfl (hb hby at_271) _ k) ?_
            refine Ends.st (S' := T33.setTop (mkF m 275 #[.val (.int v0), .val (.int v1), .val (.long v2), .second, .val (.int v3), .val (.int v4), .val (.int dd), .val (.int (v1 &&& (2147483647 : Int32))), .val (.long rr), .second, .val (.long qm), .second, .val (.long q1), .second, .val (.long tk), .second, .val (.double (avg dd tk)), .second, .val (.int (1 : Int32))] [(.int (lcmpW q1 (1048576 : Int64)))])) (fun _ k => XS.lcmp X33.here hx rfl (hb hby at_274) rfl k) ?_
            by_cases hc38 : (lcmpW q1 (1048576 : Int64)) < (0 : Int32)
            · refine Ends.st (S' := T33.setTop (mkF m 278 #[.val (.int v0), .val (.int v1), .val (.long v2), .second, .val (.int v3), .val (.int v4), .val (.int dd), .val (.int (v1 &&& (2147483647 : Int32))), .val (.long rr), .second, .val (.long qm), .second, .val (.long q1), .second, .val (.long tk), .second, .val (.double (avg dd tk)), .second, .val (.int (1 : Int32))] [])) (fun _ k => XS.ifNo X33.here hx rfl (hb hby at_275) rfl ((if0 _ _).trans (tlt hc38).2.1) k) ?_
              refine Ends.st (S' := T33.setTop (mkF m 280 #[.val (.int v0), .val (.int v1), .val (.long v2), .second, .val (.int v3), .val (.int v4), .val (.int dd), .val (.int (v1 &&& (2147483647 : Int32))), .val (.long rr), .second, .val (.long qm), .second, .val (.long q1), .second, .val (.long tk), .second, .val (.double (avg dd tk)), .second, .val (.int (1 : Int32))] [(.int (1 : Int32))])) (fun _ k => XS.iload X33.here hx rfl (hb hby at_278) rfl k) ?_
              refine Ends.st (S' := T33.setTop (mkF m 283 #[.val (.int v0), .val (.int v1), .val (.long v2), .second, .val (.int v3), .val (.int v4), .val (.int dd), .val (.int (v1 &&& (2147483647 : Int32))), .val (.long rr), .second, .val (.long qm), .second, .val (.long q1), .second, .val (.long tk), .second, .val (.double (avg dd tk)), .second, .val (.int (1 : Int32))] [])) (fun _ k => XS.ifNo X33.here hx rfl (hb hby at_280) rfl ((if0 _ _).trans (feq (by decide : ¬ ((1 : Int32) = (0 : Int32)))).1) k) ?_
              refine Ends.st (S' := T33.setTop (mkF m 285 #[.val (.int v0), .val (.int v1), .val (.long v2), .second, .val (.int v3), .val (.int v4), .val (.int dd), .val (.int (v1 &&& (2147483647 : Int32))), .val (.long rr), .second, .val (.long qm), .second, .val (.long q1), .second, .val (.long tk), .second, .val (.double (avg dd tk)), .second, .val (.int (1 : Int32))] [(.long q1)])) (fun _ k => XS.lload X33.here hx rfl (hb hby at_283) rfl k) ?_
              refine Ends.st (S' := T33.setTop (mkF m 286 #[.val (.int v0), .val (.int v1), .val (.long v2), .second, .val (.int v3), .val (.int v4), .val (.int dd), .val (.int (v1 &&& (2147483647 : Int32))), .val (.long rr), .second, .val (.long qm), .second, .val (.long q1), .second, .val (.long tk), .second, .val (.double (avg dd tk)), .second, .val (.int (1 : Int32))] [(.double (FP.l2d q1))])) (fun _ k => XS.l2dS X33.here hx rfl (hb hby at_285) rfl rfl k) ?_
              refine Ends.st (S' := T33.setTop (mkF m 288 #[.val (.int v0), .val (.int v1), .val (.long v2), .second, .val (.int v3), .val (.int v4), .val (.int dd), .val (.int (v1 &&& (2147483647 : Int32))), .val (.long rr), .second, .val (.long qm), .second, .val (.long q1), .second, .val (.long tk), .second, .val (.double (avg dd tk)), .second, .val (.int (1 : Int32))] [(.double (avg dd tk)), (.double (FP.l2d q1))])) (fun _ k => XS.dload X33.here hx rfl (hb hby at_286) rfl k) ?_
              refine Ends.st (S' := T33.setTop (mkF m 289 #[.val (.int v0), .val (.int v1), .val (.long v2), .second, .val (.int v3), .val (.int v4), .val (.int dd), .val (.int (v1 &&& (2147483647 : Int32))), .val (.long rr), .second, .val (.long qm), .second, .val (.long q1), .second, .val (.long tk), .second, .val (.double (avg dd tk)), .second, .val (.int (1 : Int32))] [(.int (cmpValue (FP.dcmp (FP.l2d q1) (avg dd tk)) .g))])) (fun _ k => XS.dcmpS X33.here hx rfl (hb hby at_288) rfl rfl k) ?_
              have hb39 : (cmpValue (FP.dcmp (FP.l2d q1) (avg dd tk)) .g) < (0 : Int32) := own_lo2 hd0 hc12 hk0 hk1 hq0 hkq hr0 hr1 (own_rz hr0 hc34) (own_small hc38)
              refine Ends.st (S' := T33.setTop (mkF m 292 #[.val (.int v0), .val (.int v1), .val (.long v2), .second, .val (.int v3), .val (.int v4), .val (.int dd), .val (.int (v1 &&& (2147483647 : Int32))), .val (.long rr), .second, .val (.long qm), .second, .val (.long q1), .second, .val (.long tk), .second, .val (.double (avg dd tk)), .second, .val (.int (1 : Int32))] [])) (fun _ k => XS.ifNo X33.here hx rfl (hb hby at_289) rfl ((if0 _ _).trans (tlt hb39).2.1) k) ?_
              refine Ends.st (S' := T33.setTop (mkF m 294 #[.val (.int v0), .val (.int v1), .val (.long v2), .second, .val (.int v3), .val (.int v4), .val (.int dd), .val (.int (v1 &&& (2147483647 : Int32))), .val (.long rr), .second, .val (.long qm), .second, .val (.long q1), .second, .val (.long tk), .second, .val (.double (avg dd tk)), .second, .val (.int (1 : Int32))] [(.double (avg dd tk))])) (fun _ k => XS.dload X33.here hx rfl (hb hby at_292) rfl k) ?_
              refine Ends.st (S' := T33.setTop (mkF m 296 #[.val (.int v0), .val (.int v1), .val (.long v2), .second, .val (.int v3), .val (.int v4), .val (.int dd), .val (.int (v1 &&& (2147483647 : Int32))), .val (.long rr), .second, .val (.long qm), .second, .val (.long q1), .second, .val (.long tk), .second, .val (.double (avg dd tk)), .second, .val (.int (1 : Int32))] [(.long q1), (.double (avg dd tk))])) (fun _ k => XS.lload X33.here hx rfl (hb hby at_294) rfl k) ?_
              refine Ends.st (S' := T33.setTop (mkF m 297 #[.val (.int v0), .val (.int v1), .val (.long v2), .second, .val (.int v3), .val (.int v4), .val (.int dd), .val (.int (v1 &&& (2147483647 : Int32))), .val (.long rr), .second, .val (.long qm), .second, .val (.long q1), .second, .val (.long tk), .second, .val (.double (avg dd tk)), .second, .val (.int (1 : Int32))] [(.long (1 : Int64)), (.long q1), (.double (avg dd tk))])) (fun _ k => XS.lconst X33.here hx rfl (hb hby at_296) k) ?_
              refine Ends.st (S' := T33.setTop (mkF m 298 #[.val (.int v0), .val (.int v1), .val (.long v2), .second, .val (.int v3), .val (.int v4), .val (.int dd), .val (.int (v1 &&& (2147483647 : Int32))), .val (.long rr), .second, .val (.long qm), .second, .val (.long q1), .second, .val (.long tk), .second, .val (.double (avg dd tk)), .second, .val (.int (1 : Int32))] [(.long (q1 + (1 : Int64))), (.double (avg dd tk))])) (fun _ k => XS.ladd X33.here hx rfl (hb hby at_297) rfl k) ?_
              refine Ends.st (S' := T33.setTop (mkF m 299 #[.val (.int v0), .val (.int v1), .val (.long v2), .second, .val (.int v3), .val (.int v4), .val (.int dd), .val (.int (v1 &&& (2147483647 : Int32))), .val (.long rr), .second, .val (.long qm), .second, .val (.long q1), .second, .val (.long tk), .second, .val (.double (avg dd tk)), .second, .val (.int (1 : Int32))] [(.double (FP.l2d (q1 + (1 : Int64)))), (.double (avg dd tk))])) (fun _ k => XS.l2dS X33.here hx rfl (hb hby at_298) rfl rfl k) ?_
              refine Ends.st (S' := T33.setTop (mkF m 300 #[.val (.int v0), .val (.int v1), .val (.long v2), .second, .val (.int v3), .val (.int v4), .val (.int dd), .val (.int (v1 &&& (2147483647 : Int32))), .val (.long rr), .second, .val (.long qm), .second, .val (.long q1), .second, .val (.long tk), .second, .val (.double (avg dd tk)), .second, .val (.int (1 : Int32))] [(.int (cmpValue (FP.dcmp (avg dd tk) (FP.l2d (q1 + (1 : Int64)))) .g))])) (fun _ k => XS.dcmpS X33.here hx rfl (hb hby at_299) rfl rfl k) ?_
              have hb40 : (cmpValue (FP.dcmp (avg dd tk) (FP.l2d (q1 + (1 : Int64)))) .g) < (0 : Int32) := own_hi2 hd0 hc12 hk0 hk1 hq0 hkq hr0 hr1 (own_rz hr0 hc34) (own_small hc38)
              refine Ends.st (S' := T33.setTop (mkF m 303 #[.val (.int v0), .val (.int v1), .val (.long v2), .second, .val (.int v3), .val (.int v4), .val (.int dd), .val (.int (v1 &&& (2147483647 : Int32))), .val (.long rr), .second, .val (.long qm), .second, .val (.long q1), .second, .val (.long tk), .second, .val (.double (avg dd tk)), .second, .val (.int (1 : Int32))] [])) (fun _ k => XS.ifNo X33.here hx rfl (hb hby at_300) rfl ((if0 _ _).trans (tlt hb40).2.1) k) ?_
              refine Ends.st (S' := T33.setTop (mkF m 304 #[.val (.int v0), .val (.int v1), .val (.long v2), .second, .val (.int v3), .val (.int v4), .val (.int dd), .val (.int (v1 &&& (2147483647 : Int32))), .val (.long rr), .second, .val (.long qm), .second, .val (.long q1), .second, .val (.long tk), .second, .val (.double (avg dd tk)), .second, .val (.int (1 : Int32))] [(.int (1 : Int32))])) (fun _ k => XS.iconst X33.here hx rfl (hb hby at_303) k) ?_
              refine Ends.st (S' := T33.setTop (mkF m 308 #[.val (.int v0), .val (.int v1), .val (.long v2), .second, .val (.int v3), .val (.int v4), .val (.int dd), .val (.int (v1 &&& (2147483647 : Int32))), .val (.long rr), .second, .val (.long qm), .second, .val (.long q1), .second, .val (.long tk), .second, .val (.double (avg dd tk)), .second, .val (.int (1 : Int32))] [(.int (1 : Int32))])) (fun _ k => XS.goto X33.here hx rfl (pc0 := 304) (pc' := 308) rfl (hb hby at_304) (by decide) (by decide) k) ?_
              obtain ⟨fs, hr, hrun, hended, hW, hsame⟩ := X33.leave (v := some (.int (1 : Int32))) (fun h => by rw [Bd.returns] at h; cases h)
              exact ⟨_, _, retN X33 hx (t := .boolean) Bd.returns (by simp) (hb hby at_308) hr, hrun, hended, _, _, rfl, (by show Q0 Z  h0 n0 _ T33.heap _; rw [e33]; exact ⟨rfl, N33⟩), ⟨_, rfl⟩, hW, hsame.mono (by decide) (by decide)⟩
            · refine Ends.st (S' := T33.setTop (mkF m 309 #[.val (.int v0), .val (.int v1), .val (.long v2), .second, .val (.int v3), .val (.int v4), .val (.int dd), .val (.int (v1 &&& (2147483647 : Int32))), .val (.long rr), .second, .val (.long qm), .second, .val (.long q1), .second, .val (.long tk), .second, .val (.double (avg dd tk)), .second, .val (.int (1 : Int32))] [])) (fun _ k => XS.ifYes X33.here hx rfl (pc0 := 275) (pc' := 309) rfl (hb hby at_275) rfl ((if0 _ _).trans (flt hc38).2.1) (by decide) (by decide) k) ?_
              refine Ends.st (S' := T33.setTop (mkF m 311 #[.val (.int v0), .val (.int v1), .val (.long v2), .second, .val (.int v3), .val (.int v4), .val (.int dd), .val (.int (v1 &&& (2147483647 : Int32))), .val (.long rr), .second, .val (.long qm), .second, .val (.long q1), .second, .val (.long tk), .second, .val (.double (avg dd tk)), .second, .val (.int (1 : Int32))] [(.int (1 : Int32))])) (fun _ k => XS.iload X33.here hx rfl (hb hby at_309) rfl k) ?_
              obtain ⟨fs, hr, hrun, hended, hW, hsame⟩ := X33.leave (v := some (.int (1 : Int32))) (fun h => by rw [Bd.returns] at h; cases h)
              exact ⟨_, _, retN X33 hx (t := .boolean) Bd.returns (by simp) (hb hby at_311) hr, hrun, hended, _, _, rfl, (by show Q0 Z  h0 n0 _ T33.heap _; rw [e33]; exact ⟨rfl, N33⟩), ⟨_, rfl⟩, hW, hsame.mono (by decide) (by decide)⟩
        · refine Ends.st (S' := s₁.setTop (mkF m 183 #[.val (.int v0), .val (.int v1), .val (.long v2), .second, .val (.int v3), .val (.int v4), .val (.int dd), .val (.int (v1 &&& (2147483647 : Int32))), .val (.long rr), .second, .val (.long qm), .second, .val (.long q1), .second, .unset, .unset, .unset, .unset, .unset] [])) (fun _ k => XS.ifNo X0.here hx rfl (hb hby at_180) rfl ((if0 _ _).trans (feq hc24).1) k) ?_
          refine Ends.st (S' := s₁.setTop (mkF m 185 #[.val (.int v0), .val (.int v1), .val (.long v2), .second, .val (.int v3), .val (.int v4), .val (.int dd), .val (.int (v1 &&& (2147483647 : Int32))), .val (.long rr), .second, .val (.long qm), .second, .val (.long q1), .second, .unset, .unset, .unset, .unset, .unset] [(.long q1)])) (fun _ k => XS.lload X0.here hx rfl (hb hby at_183) rfl k) ?_
          refine Ends.st (S' := s₁.setTop (mkF m 188 #[.val (.int v0), .val (.int v1), .val (.long v2), .second, .val (.int v3), .val (.int v4), .val (.int dd), .val (.int (v1 &&& (2147483647 : Int32))), .val (.long rr), .second, .val (.long qm), .second, .val (.long q1), .second, .unset, .unset, .unset, .unset, .unset] [(.long (1048575 : Int64)), (.long q1)])) (fun _ k => X0.ldc2Long hx hown (mvT hZ (hw _ (List.mem_of_getElem? (i := 28) rfl))) (g := (mkF m 185 #[.val (.int v0), .val (.int v1), .val (.long v2), .second, .val (.int v3), .val (.int v4), .val (.int dd), .val (.int (v1 &&& (2147483647 : Int32))), .val (.long rr), .second, .val (.long qm), .second, .val (.long q1), .second, .unset, .unset, .unset, .unset, .unset] [(.long q1)])) rfl (hb hby at_185) _ k) ?_
          refine Ends.st (S' := s₁.setTop (mkF m 189 #[.val (.int v0), .val (.int v1), .val (.long v2), .second, .val (.int v3), .val (.int v4), .val (.int dd), .val (.int (v1 &&& (2147483647 : Int32))), .val (.long rr), .second, .val (.long qm), .second, .val (.long q1), .second, .unset, .unset, .unset, .unset, .unset] [(.long (q1 &&& (1048575 : Int64)))])) (fun _ k => XS.land X0.here hx rfl (hb hby at_188) rfl k) ?_
          refine Ends.st (S' := s₁.setTop (mkF m 191 #[.val (.int v0), .val (.int v1), .val (.long v2), .second, .val (.int v3), .val (.int v4), .val (.int dd), .val (.int (v1 &&& (2147483647 : Int32))), .val (.long rr), .second, .val (.long qm), .second, .val (.long (q1 &&& (1048575 : Int64))), .second, .unset, .unset, .unset, .unset, .unset] [])) (fun _ k => XS.lstore X0.here hx rfl (hb hby at_189) rfl (l' := #[.val (.int v0), .val (.int v1), .val (.long v2), .second, .val (.int v3), .val (.int v4), .val (.int dd), .val (.int (v1 &&& (2147483647 : Int32))), .val (.long rr), .second, .val (.long qm), .second, .val (.long (q1 &&& (1048575 : Int64))), .second, .unset, .unset, .unset, .unset, .unset]) rfl k) ?_
          obtain ⟨q2, hq2⟩ : ∃ z, z = (q1 &&& (1048575 : Int64)) := ⟨_, rfl⟩
          rw [← hq2]
          refine Ends.st (S' := s₁.setTop (mkF m 193 #[.val (.int v0), .val (.int v1), .val (.long v2), .second, .val (.int v3), .val (.int v4), .val (.int dd), .val (.int (v1 &&& (2147483647 : Int32))), .val (.long rr), .second, .val (.long qm), .second, .val (.long q2), .second, .unset, .unset, .unset, .unset, .unset] [(.long q2)])) (fun _ k => XS.lload X0.here hx rfl (hb hby at_191) rfl k) ?_
          refine Ends.st (S' := s₁.setTop (mkF m 195 #[.val (.int v0), .val (.int v1), .val (.long v2), .second, .val (.int v3), .val (.int v4), .val (.int dd), .val (.int (v1 &&& (2147483647 : Int32))), .val (.long rr), .second, .val (.long qm), .second, .val (.long q2), .second, .unset, .unset, .unset, .unset, .unset] [(.int dd), (.long q2)])) (fun _ k => XS.iload X0.here hx rfl (hb hby at_193) rfl k) ?_
          refine Ends.st (S' := s₁.setTop (mkF m 196 #[.val (.int v0), .val (.int v1), .val (.long v2), .second, .val (.int v3), .val (.int v4), .val (.int dd), .val (.int (v1 &&& (2147483647 : Int32))), .val (.long rr), .second, .val (.long qm), .second, .val (.long q2), .second, .unset, .unset, .unset, .unset, .unset] [(.long (dd.toInt64)), (.long q2)])) (fun _ k => XS.i2l X0.here hx rfl (hb hby at_195) rfl k) ?_
          refine Ends.st (S' := s₁.setTop (mkF m 197 #[.val (.int v0), .val (.int v1), .val (.long v2), .second, .val (.int v3), .val (.int v4), .val (.int dd), .val (.int (v1 &&& (2147483647 : Int32))), .val (.long rr), .second, .val (.long qm), .second, .val (.long q2), .second, .unset, .unset, .unset, .unset, .unset] [(.long (q2 * (dd.toInt64)))])) (fun _ k => XS.lmul X0.here hx rfl (hb hby at_196) rfl k) ?_
          refine Ends.st (S' := s₁.setTop (mkF m 199 #[.val (.int v0), .val (.int v1), .val (.long v2), .second, .val (.int v3), .val (.int v4), .val (.int dd), .val (.int (v1 &&& (2147483647 : Int32))), .val (.long rr), .second, .val (.long qm), .second, .val (.long q2), .second, .unset, .unset, .unset, .unset, .unset] [(.long rr), (.long (q2 * (dd.toInt64)))])) (fun _ k => XS.lload X0.here hx rfl (hb hby at_197) rfl k) ?_
          refine Ends.st (S' := s₁.setTop (mkF m 200 #[.val (.int v0), .val (.int v1), .val (.long v2), .second, .val (.int v3), .val (.int v4), .val (.int dd), .val (.int (v1 &&& (2147483647 : Int32))), .val (.long rr), .second, .val (.long qm), .second, .val (.long q2), .second, .unset, .unset, .unset, .unset, .unset] [(.long ((q2 * (dd.toInt64)) + rr))])) (fun _ k => XS.ladd X0.here hx rfl (hb hby at_199) rfl k) ?_
          refine Ends.st (S' := s₁.setTop (mkF m 202 #[.val (.int v0), .val (.int v1), .val (.long v2), .second, .val (.int v3), .val (.int v4), .val (.int dd), .val (.int (v1 &&& (2147483647 : Int32))), .val (.long rr), .second, .val (.long qm), .second, .val (.long q2), .second, .val (.long ((q2 * (dd.toInt64)) + rr)), .second, .unset, .unset, .unset] [])) (fun _ k => XS.lstore X0.here hx rfl (hb hby at_200) rfl (l' := #[.val (.int v0), .val (.int v1), .val (.long v2), .second, .val (.int v3), .val (.int v4), .val (.int dd), .val (.int (v1 &&& (2147483647 : Int32))), .val (.long rr), .second, .val (.long qm), .second, .val (.long q2), .second, .val (.long ((q2 * (dd.toInt64)) + rr)), .second, .unset, .unset, .unset]) rfl k) ?_
          obtain ⟨tk, htk⟩ : ∃ z, z = ((q2 * (dd.toInt64)) + rr) := ⟨_, rfl⟩
          rw [← htk]
          obtain ⟨hk0, hk1, hr0, hr1, hq0, hkq⟩ := own_arith (rem := v3) (quot := v2) hc12 hd0 hrr hqm hq1 (own_q2 hq2) htk
          obtain ⟨T41, h41, X41, e41, E41, A41, D41, -, st41⟩ := newO X0 hx hZ hown (hw _ (List.mem_of_getElem? (i := 2) rfl)) (hw _ (List.mem_of_getElem? (i := 3) rfl)) (hw _ (List.mem_of_getElem? (i := 4) rfl)) e0 (g := (mkF m 202 #[.val (.int v0), .val (.int v1), .val (.long v2), .second, .val (.int v3), .val (.int v4), .val (.int dd), .val (.int (v1 &&& (2147483647 : Int32))), .val (.long rr), .second, .val (.long qm), .second, .val (.long q2), .second, .val (.long tk), .second, .unset, .unset, .unset] [])) rfl (hb hby at_202) (by decide) (by decide)
          obtain ⟨b41, g41⟩ : ∃ z, z = h0.size := ⟨_, rfl⟩
          rw [← g41] at A41 D41 st41
          have g_b41 : n0 ≤ b41 := Nat.le_trans Z0 (Nat.le_of_eq g41.symm)
          have f42 := Nat.le_trans Z0 E41.1
          have F43 : Fld Z h41 b41 "com/example/net_weight/netweight/core/index/CollectionStatistics" "documents" "I" (.int (0 : Int32)) := D41 (Or.inr (hw _ (List.mem_of_getElem? (i := 17) rfl))) (ty := .int) (by decide)
          have F44 : Fld Z h41 b41 "com/example/net_weight/netweight/core/index/CollectionStatistics" "terms" "I" (.int (0 : Int32)) := D41 (Or.inr (hw _ (List.mem_of_getElem? (i := 19) rfl))) (ty := .int) (by decide)
          have F45 : Fld Z h41 b41 "com/example/net_weight/netweight/core/index/CollectionStatistics" "tokens" "J" (.long (0 : Int64)) := D41 (Or.inr (hw _ (List.mem_of_getElem? (i := 21) rfl))) (ty := .long) (by decide)
          refine Ends.st (S' := T41.setTop (mkF m 205 #[.val (.int v0), .val (.int v1), .val (.long v2), .second, .val (.int v3), .val (.int v4), .val (.int dd), .val (.int (v1 &&& (2147483647 : Int32))), .val (.long rr), .second, .val (.long qm), .second, .val (.long q2), .second, .val (.long tk), .second, .unset, .unset, .unset] [(.ref b41)])) (fun _ k => st41 _ k) ?_
          refine Ends.st (S' := T41.setTop (mkF m 206 #[.val (.int v0), .val (.int v1), .val (.long v2), .second, .val (.int v3), .val (.int v4), .val (.int dd), .val (.int (v1 &&& (2147483647 : Int32))), .val (.long rr), .second, .val (.long qm), .second, .val (.long q2), .second, .val (.long tk), .second, .unset, .unset, .unset] [(.ref b41), (.ref b41)])) (fun _ k => XS.dup X41.here hx rfl (hb hby at_205) rfl rfl k) ?_
          refine Ends.st (S' := T41.setTop (mkF m 208 #[.val (.int v0), .val (.int v1), .val (.long v2), .second, .val (.int v3), .val (.int v4), .val (.int dd), .val (.int (v1 &&& (2147483647 : Int32))), .val (.long rr), .second, .val (.long qm), .second, .val (.long q2), .second, .val (.long tk), .second, .unset, .unset, .unset] [(.int dd), (.ref b41), (.ref b41)])) (fun _ k => XS.iload X41.here hx rfl (hb hby at_206) rfl k) ?_
          refine Ends.st (S' := T41.setTop (mkF m 210 #[.val (.int v0), .val (.int v1), .val (.long v2), .second, .val (.int v3), .val (.int v4), .val (.int dd), .val (.int (v1 &&& (2147483647 : Int32))), .val (.long rr), .second, .val (.long qm), .second, .val (.long q2), .second, .val (.long tk), .second, .unset, .unset, .unset] [(.int (v1 &&& (2147483647 : Int32))), (.int dd), (.ref b41), (.ref b41)])) (fun _ k => XS.iload X41.here hx rfl (hb hby at_208) rfl k) ?_
          refine Ends.st (S' := T41.setTop (mkF m 212 #[.val (.int v0), .val (.int v1), .val (.long v2), .second, .val (.int v3), .val (.int v4), .val (.int dd), .val (.int (v1 &&& (2147483647 : Int32))), .val (.long rr), .second, .val (.long qm), .second, .val (.long q2), .second, .val (.long tk), .second, .unset, .unset, .unset] [(.long tk), (.int (v1 &&& (2147483647 : Int32))), (.int dd), (.ref b41), (.ref b41)])) (fun _ k => XS.lload X41.here hx rfl (hb hby at_210) rfl k) ?_
          obtain ⟨_, _, ⟨T46, L46, k46, n46⟩, -, X46, ⟨Lc46, hQ46, l46, y46, z46⟩, st46⟩ := X41.specialBack hx (y := (⟨"com/example/net_weight/netweight/core/index/CollectionStatistics", "<init>", "(IIJ)V"⟩ : MethodName)) rfl hown (mvT hZ (hw _ (List.mem_of_getElem? (i := 5) rfl))) (mvT hZ (hw _ (List.mem_of_getElem? (i := 6) rfl))) (mvT hZ (hw _ (List.mem_of_getElem? (i := 7) rfl))) (by decide) (backOf (W := 1) (rm1 l Z a0 hw [] b41 dd (v1 &&& (2147483647 : Int32)) tk h41 n0 f42 A41 F43 F44 F45 g_b41 hd0 (own_nonneg v1) hk0) hZ (hw _ (List.mem_of_getElem? (i := 7) rfl)) (hw _ (List.mem_of_getElem? (i := 4) rfl)) (by decide) (by decide)) (g := (mkF m 212 #[.val (.int v0), .val (.int v1), .val (.long v2), .second, .val (.int v3), .val (.int v4), .val (.int dd), .val (.int (v1 &&& (2147483647 : Int32))), .val (.long rr), .second, .val (.long qm), .second, .val (.long q2), .second, .val (.long tk), .second, .unset, .unset, .unset] [(.long tk), (.int (v1 &&& (2147483647 : Int32))), (.int dd), (.ref b41), (.ref b41)])) rfl (by rw [hml]; rfl) (Steps.refl _) (a := b41) (argsL := [(.int dd), (.int (v1 &&& (2147483647 : Int32))), (.long tk)]) (rest := [(.ref b41)]) (lenOf pd_1 rfl) rfl (by show 2 * 0 + _ ≤ _; exact Nat.le_of_eq rfl) (hb hby at_212) (fun _ _ => ⟨rfl, e41, (by decide : 0 + 1 + 0 ≤ _), (by decide : 0 + 3 + 0 ≤ _)⟩)
          dsimp only [Pt.U, Pt.locs, Pt.cells, Pt.slots] at X46 l46 y46 z46 st46 hQ46
          subst l46 y46 z46
          obtain ⟨rfl, N46q, K46, G46, J46⟩ := hQ46
          have N46 := Fr.app N0 N46q
          have f47 := Nat.le_trans f42 K46.1
          have f48 := A41.keep K46
          refine Ends.st (S' := T46.setTop (mkF m 215 #[.val (.int v0), .val (.int v1), .val (.long v2), .second, .val (.int v3), .val (.int v4), .val (.int dd), .val (.int (v1 &&& (2147483647 : Int32))), .val (.long rr), .second, .val (.long qm), .second, .val (.long q2), .second, .val (.long tk), .second, .unset, .unset, .unset] [(.ref b41)])) (fun _ k => st46.trans k) ?_
          obtain ⟨cq49, kq49, q49a, q49b, q49c⟩ := isOf hZ rfl (f48)
          obtain ⟨_, _, ⟨T49, L49, k49, n49⟩, -, X49, ⟨Lc49, hQ49, l49, y49, z49⟩, st49⟩ := X46.virtualBack hx (y := (⟨"com/example/net_weight/netweight/core/index/CollectionStatistics", "averageDocumentLength", "()D"⟩ : MethodName)) (z := (⟨"com/example/net_weight/netweight/core/index/CollectionStatistics", "averageDocumentLength", "()D"⟩ : MethodName)) hown (mvT hZ (hw _ (List.mem_of_getElem? (i := 22) rfl))) (mvT hZ (hw _ (List.mem_of_getElem? (i := 23) rfl))) (notFace_of_selects (args := #[]) (mvT hZ (hw _ (List.mem_of_getElem? (i := 25) rfl)))) (mvT hZ (hw _ (List.mem_of_getElem? (i := 25) rfl))) (mvT hZ (hw _ (List.mem_of_getElem? (i := 24) rfl))) (by decide) (backOf (W := 0) (rm4 l Z a0 hw [] b41 dd tk T46.heap n0 f47 G46 J46) hZ (hw _ (List.mem_of_getElem? (i := 26) rfl)) (hw _ (List.mem_of_getElem? (i := 4) rfl)) (by decide) (by decide)) q49a q49c (g := (mkF m 215 #[.val (.int v0), .val (.int v1), .val (.long v2), .second, .val (.int v3), .val (.int v4), .val (.int dd), .val (.int (v1 &&& (2147483647 : Int32))), .val (.long rr), .second, .val (.long qm), .second, .val (.long q2), .second, .val (.long tk), .second, .unset, .unset, .unset] [(.ref b41)])) rfl (by rw [hml]; rfl) (Steps.refl _) (argsL := []) (rest := []) (lenOf pd_2 rfl) rfl (by show 2 * 0 + _ ≤ _; exact Nat.le_of_eq rfl) (hb hby at_215) (fun _ _ => ⟨rfl, rfl, (by decide : 0 + 1 + 0 + 0 ≤ _), (by decide : 0 + 3 + 0 + 0 ≤ _)⟩)
          dsimp only [Pt.U, Pt.locs, Pt.cells, Pt.slots] at X49 l49 y49 z49 st49 hQ49
          subst l49 y49 z49
          obtain ⟨rfl, N49q, e49⟩ := hQ49
          have N49 := Fr.app N46 N49q
          refine Ends.st (S' := T49.setTop (mkF m 218 #[.val (.int v0), .val (.int v1), .val (.long v2), .second, .val (.int v3), .val (.int v4), .val (.int dd), .val (.int (v1 &&& (2147483647 : Int32))), .val (.long rr), .second, .val (.long qm), .second, .val (.long q2), .second, .val (.long tk), .second, .unset, .unset, .unset] [(.double (avg dd tk))])) (fun _ k => st49.trans k) ?_
          refine Ends.st (S' := T49.setTop (mkF m 220 #[.val (.int v0), .val (.int v1), .val (.long v2), .second, .val (.int v3), .val (.int v4), .val (.int dd), .val (.int (v1 &&& (2147483647 : Int32))), .val (.long rr), .second, .val (.long qm), .second, .val (.long q2), .second, .val (.long tk), .second, .val (.double (avg dd tk)), .second, .unset] [])) (fun _ k => XS.dstore X49.here hx rfl (hb hby at_218) rfl (l' := #[.val (.int v0), .val (.int v1), .val (.long v2), .second, .val (.int v3), .val (.int v4), .val (.int dd), .val (.int (v1 &&& (2147483647 : Int32))), .val (.long rr), .second, .val (.long qm), .second, .val (.long q2), .second, .val (.long tk), .second, .val (.double (avg dd tk)), .second, .unset]) rfl k) ?_
          refine Ends.st (S' := T49.setTop (mkF m 222 #[.val (.int v0), .val (.int v1), .val (.long v2), .second, .val (.int v3), .val (.int v4), .val (.int dd), .val (.int (v1 &&& (2147483647 : Int32))), .val (.long rr), .second, .val (.long qm), .second, .val (.long q2), .second, .val (.long tk), .second, .val (.double (avg dd tk)), .second, .unset] [(.long rr)])) (fun _ k => XS.lload X49.here hx rfl (hb hby at_220) rfl k) ?_
          refine Ends.st (S' := T49.setTop (mkF m 223 #[.val (.int v0), .val (.int v1), .val (.long v2), .second, .val (.int v3), .val (.int v4), .val (.int dd), .val (.int (v1 &&& (2147483647 : Int32))), .val (.long rr), .second, .val (.long qm), .second, .val (.long q2), .second, .val (.long tk), .second, .val (.double (avg dd tk)), .second, .unset] [(.long (0 : Int64)), (.long rr)])) (fun _ k => XS.lconst X49.here hx rfl (hb hby at_222) k) ?_
          refine Ends.st (S' := T49.setTop (mkF m 224 #[.val (.int v0), .val (.int v1), .val (.long v2), .second, .val (.int v3), .val (.int v4), .val (.int dd), .val (.int (v1 &&& (2147483647 : Int32))), .val (.long rr), .second, .val (.long qm), .second, .val (.long q2), .second, .val (.long tk), .second, .val (.double (avg dd tk)), .second, .unset] [(.int (lcmpW rr (0 : Int64)))])) (fun _ k => XS.lcmp X49.here hx rfl (hb hby at_223) rfl k) ?_
          by_cases hc50 : (lcmpW rr (0 : Int64)) = (0 : Int32)
          · refine Ends.st (S' := T49.setTop (mkF m 227 #[.val (.int v0), .val (.int v1), .val (.long v2), .second, .val (.int v3), .val (.int v4), .val (.int dd), .val (.int (v1 &&& (2147483647 : Int32))), .val (.long rr), .second, .val (.long qm), .second, .val (.long q2), .second, .val (.long tk), .second, .val (.double (avg dd tk)), .second, .unset] [])) (fun _ k => XS.ifNo X49.here hx rfl (hb hby at_224) rfl ((if0 _ _).trans (teq hc50).2) k) ?_
            refine Ends.st (S' := T49.setTop (mkF m 229 #[.val (.int v0), .val (.int v1), .val (.long v2), .second, .val (.int v3), .val (.int v4), .val (.int dd), .val (.int (v1 &&& (2147483647 : Int32))), .val (.long rr), .second, .val (.long qm), .second, .val (.long q2), .second, .val (.long tk), .second, .val (.double (avg dd tk)), .second, .unset] [(.double (avg dd tk))])) (fun _ k => XS.dload X49.here hx rfl (hb hby at_227) rfl k) ?_
            refine Ends.st (S' := T49.setTop (mkF m 231 #[.val (.int v0), .val (.int v1), .val (.long v2), .second, .val (.int v3), .val (.int v4), .val (.int dd), .val (.int (v1 &&& (2147483647 : Int32))), .val (.long rr), .second, .val (.long qm), .second, .val (.long q2), .second, .val (.long tk), .second, .val (.double (avg dd tk)), .second, .unset] [(.long q2), (.double (avg dd tk))])) (fun _ k => XS.lload X49.here hx rfl (hb hby at_229) rfl k) ?_
            refine Ends.st (S' := T49.setTop (mkF m 232 #[.val (.int v0), .val (.int v1), .val (.long v2), .second, .val (.int v3), .val (.int v4), .val (.int dd), .val (.int (v1 &&& (2147483647 : Int32))), .val (.long rr), .second, .val (.long qm), .second, .val (.long q2), .second, .val (.long tk), .second, .val (.double (avg dd tk)), .second, .unset] [(.double (FP.l2d q2)), (.double (avg dd tk))])) (fun _ k => XS.l2dS X49.here hx rfl (hb hby at_231) rfl rfl k) ?_
            refine Ends.st (S' := T49.setTop (mkF m 233 #[.val (.int v0), .val (.int v1), .val (.long v2), .second, .val (.int v3), .val (.int v4), .val (.int dd), .val (.int (v1 &&& (2147483647 : Int32))), .val (.long rr), .second, .val (.long qm), .second, .val (.long q2), .second, .val (.long tk), .second, .val (.double (avg dd tk)), .second, .unset] [(.int (cmpValue (FP.dcmp (avg dd tk) (FP.l2d q2)) .l))])) (fun _ k => XS.dcmpS X49.here hx rfl (hb hby at_232) rfl rfl k) ?_
            have hb51 : (cmpValue (FP.dcmp (avg dd tk) (FP.l2d q2)) .l) = (0 : Int32) := own_exact hd0 hc12 hk0 hk1 hq0 (by rw [hkq, own_r0 hc50, Int.add_zero])
            refine Ends.st (S' := T49.setTop (mkF m 236 #[.val (.int v0), .val (.int v1), .val (.long v2), .second, .val (.int v3), .val (.int v4), .val (.int dd), .val (.int (v1 &&& (2147483647 : Int32))), .val (.long rr), .second, .val (.long qm), .second, .val (.long q2), .second, .val (.long tk), .second, .val (.double (avg dd tk)), .second, .unset] [])) (fun _ k => XS.ifNo X49.here hx rfl (hb hby at_233) rfl ((if0 _ _).trans (teq hb51).2) k) ?_
            refine Ends.st (S' := T49.setTop (mkF m 237 #[.val (.int v0), .val (.int v1), .val (.long v2), .second, .val (.int v3), .val (.int v4), .val (.int dd), .val (.int (v1 &&& (2147483647 : Int32))), .val (.long rr), .second, .val (.long qm), .second, .val (.long q2), .second, .val (.long tk), .second, .val (.double (avg dd tk)), .second, .unset] [(.int (1 : Int32))])) (fun _ k => XS.iconst X49.here hx rfl (hb hby at_236) k) ?_
            refine Ends.st (S' := T49.setTop (mkF m 241 #[.val (.int v0), .val (.int v1), .val (.long v2), .second, .val (.int v3), .val (.int v4), .val (.int dd), .val (.int (v1 &&& (2147483647 : Int32))), .val (.long rr), .second, .val (.long qm), .second, .val (.long q2), .second, .val (.long tk), .second, .val (.double (avg dd tk)), .second, .unset] [(.int (1 : Int32))])) (fun _ k => XS.goto X49.here hx rfl (pc0 := 237) (pc' := 241) rfl (hb hby at_237) (by decide) (by decide) k) ?_
            obtain ⟨fs, hr, hrun, hended, hW, hsame⟩ := X49.leave (v := some (.int (1 : Int32))) (fun h => by rw [Bd.returns] at h; cases h)
            exact ⟨_, _, retN X49 hx (t := .boolean) Bd.returns (by simp) (hb hby at_241) hr, hrun, hended, _, _, rfl, (by show Q0 Z  h0 n0 _ T49.heap _; rw [e49]; exact ⟨rfl, N49⟩), ⟨_, rfl⟩, hW, hsame.mono (by decide) (by decide)⟩
          · refine Ends.st (S' := T49.setTop (mkF m 242 #[.val (.int v0), .val (.int v1), .val (.long v2), .second, .val (.int v3), .val (.int v4), .val (.int dd), .val (.int (v1 &&& (2147483647 : Int32))), .val (.long rr), .second, .val (.long qm), .second, .val (.long q2), .second, .val (.long tk), .second, .val (.double (avg dd tk)), .second, .unset] [])) (fun _ k => XS.ifYes X49.here hx rfl (pc0 := 224) (pc' := 242) rfl (hb hby at_224) rfl ((if0 _ _).trans (feq hc50).2) (by decide) (by decide) k) ?_
            refine Ends.st (S' := T49.setTop (mkF m 244 #[.val (.int v0), .val (.int v1), .val (.long v2), .second, .val (.int v3), .val (.int v4), .val (.int dd), .val (.int (v1 &&& (2147483647 : Int32))), .val (.long rr), .second, .val (.long qm), .second, .val (.long q2), .second, .val (.long tk), .second, .val (.double (avg dd tk)), .second, .unset] [(.long q2)])) (fun _ k => XS.lload X49.here hx rfl (hb hby at_242) rfl k) ?_
            refine Ends.st (S' := T49.setTop (mkF m 245 #[.val (.int v0), .val (.int v1), .val (.long v2), .second, .val (.int v3), .val (.int v4), .val (.int dd), .val (.int (v1 &&& (2147483647 : Int32))), .val (.long rr), .second, .val (.long qm), .second, .val (.long q2), .second, .val (.long tk), .second, .val (.double (avg dd tk)), .second, .unset] [(.double (FP.l2d q2))])) (fun _ k => XS.l2dS X49.here hx rfl (hb hby at_244) rfl rfl k) ?_
            refine Ends.st (S' := T49.setTop (mkF m 247 #[.val (.int v0), .val (.int v1), .val (.long v2), .second, .val (.int v3), .val (.int v4), .val (.int dd), .val (.int (v1 &&& (2147483647 : Int32))), .val (.long rr), .second, .val (.long qm), .second, .val (.long q2), .second, .val (.long tk), .second, .val (.double (avg dd tk)), .second, .unset] [(.double (avg dd tk)), (.double (FP.l2d q2))])) (fun _ k => XS.dload X49.here hx rfl (hb hby at_245) rfl k) ?_
            refine Ends.st (S' := T49.setTop (mkF m 248 #[.val (.int v0), .val (.int v1), .val (.long v2), .second, .val (.int v3), .val (.int v4), .val (.int dd), .val (.int (v1 &&& (2147483647 : Int32))), .val (.long rr), .second, .val (.long qm), .second, .val (.long q2), .second, .val (.long tk), .second, .val (.double (avg dd tk)), .second, .unset] [(.int (cmpValue (FP.dcmp (FP.l2d q2) (avg dd tk)) .g))])) (fun _ k => XS.dcmpS X49.here hx rfl (hb hby at_247) rfl rfl k) ?_
            have hb52 : ¬ ((0 : Int32) < (cmpValue (FP.dcmp (FP.l2d q2) (avg dd tk)) .g)) := own_lo hd0 hc12 hk0 hk1 hq0 hkq hr0 hr1
            refine Ends.st (S' := T49.setTop (mkF m 251 #[.val (.int v0), .val (.int v1), .val (.long v2), .second, .val (.int v3), .val (.int v4), .val (.int dd), .val (.int (v1 &&& (2147483647 : Int32))), .val (.long rr), .second, .val (.long qm), .second, .val (.long q2), .second, .val (.long tk), .second, .val (.double (avg dd tk)), .second, .unset] [])) (fun _ k => XS.ifNo X49.here hx rfl (hb hby at_248) rfl ((if0 _ _).trans (flt hb52).2.2.1) k) ?_
            refine Ends.st (S' := T49.setTop (mkF m 253 #[.val (.int v0), .val (.int v1), .val (.long v2), .second, .val (.int v3), .val (.int v4), .val (.int dd), .val (.int (v1 &&& (2147483647 : Int32))), .val (.long rr), .second, .val (.long qm), .second, .val (.long q2), .second, .val (.long tk), .second, .val (.double (avg dd tk)), .second, .unset] [(.double (avg dd tk))])) (fun _ k => XS.dload X49.here hx rfl (hb hby at_251) rfl k) ?_
            refine Ends.st (S' := T49.setTop (mkF m 255 #[.val (.int v0), .val (.int v1), .val (.long v2), .second, .val (.int v3), .val (.int v4), .val (.int dd), .val (.int (v1 &&& (2147483647 : Int32))), .val (.long rr), .second, .val (.long qm), .second, .val (.long q2), .second, .val (.long tk), .second, .val (.double (avg dd tk)), .second, .unset] [(.long q2), (.double (avg dd tk))])) (fun _ k => XS.lload X49.here hx rfl (hb hby at_253) rfl k) ?_
            refine Ends.st (S' := T49.setTop (mkF m 256 #[.val (.int v0), .val (.int v1), .val (.long v2), .second, .val (.int v3), .val (.int v4), .val (.int dd), .val (.int (v1 &&& (2147483647 : Int32))), .val (.long rr), .second, .val (.long qm), .second, .val (.long q2), .second, .val (.long tk), .second, .val (.double (avg dd tk)), .second, .unset] [(.long (1 : Int64)), (.long q2), (.double (avg dd tk))])) (fun _ k => XS.lconst X49.here hx rfl (hb hby at_255) k) ?_
            refine Ends.st (S' := T49.setTop (mkF m 257 #[.val (.int v0), .val (.int v1), .val (.long v2), .second, .val (.int v3), .val (.int v4), .val (.int dd), .val (.int (v1 &&& (2147483647 : Int32))), .val (.long rr), .second, .val (.long qm), .second, .val (.long q2), .second, .val (.long tk), .second, .val (.double (avg dd tk)), .second, .unset] [(.long (q2 + (1 : Int64))), (.double (avg dd tk))])) (fun _ k => XS.ladd X49.here hx rfl (hb hby at_256) rfl k) ?_
            refine Ends.st (S' := T49.setTop (mkF m 258 #[.val (.int v0), .val (.int v1), .val (.long v2), .second, .val (.int v3), .val (.int v4), .val (.int dd), .val (.int (v1 &&& (2147483647 : Int32))), .val (.long rr), .second, .val (.long qm), .second, .val (.long q2), .second, .val (.long tk), .second, .val (.double (avg dd tk)), .second, .unset] [(.double (FP.l2d (q2 + (1 : Int64)))), (.double (avg dd tk))])) (fun _ k => XS.l2dS X49.here hx rfl (hb hby at_257) rfl rfl k) ?_
            refine Ends.st (S' := T49.setTop (mkF m 259 #[.val (.int v0), .val (.int v1), .val (.long v2), .second, .val (.int v3), .val (.int v4), .val (.int dd), .val (.int (v1 &&& (2147483647 : Int32))), .val (.long rr), .second, .val (.long qm), .second, .val (.long q2), .second, .val (.long tk), .second, .val (.double (avg dd tk)), .second, .unset] [(.int (cmpValue (FP.dcmp (avg dd tk) (FP.l2d (q2 + (1 : Int64)))) .g))])) (fun _ k => XS.dcmpS X49.here hx rfl (hb hby at_258) rfl rfl k) ?_
            have hb53 : ¬ ((0 : Int32) < (cmpValue (FP.dcmp (avg dd tk) (FP.l2d (q2 + (1 : Int64)))) .g)) := own_hi hd0 hc12 hk0 hk1 hq0 hkq hr0 hr1 (own_rz hr0 hc50)
            refine Ends.st (S' := T49.setTop (mkF m 262 #[.val (.int v0), .val (.int v1), .val (.long v2), .second, .val (.int v3), .val (.int v4), .val (.int dd), .val (.int (v1 &&& (2147483647 : Int32))), .val (.long rr), .second, .val (.long qm), .second, .val (.long q2), .second, .val (.long tk), .second, .val (.double (avg dd tk)), .second, .unset] [])) (fun _ k => XS.ifNo X49.here hx rfl (hb hby at_259) rfl ((if0 _ _).trans (flt hb53).2.2.1) k) ?_
            refine Ends.st (S' := T49.setTop (mkF m 263 #[.val (.int v0), .val (.int v1), .val (.long v2), .second, .val (.int v3), .val (.int v4), .val (.int dd), .val (.int (v1 &&& (2147483647 : Int32))), .val (.long rr), .second, .val (.long qm), .second, .val (.long q2), .second, .val (.long tk), .second, .val (.double (avg dd tk)), .second, .unset] [(.int (1 : Int32))])) (fun _ k => XS.iconst X49.here hx rfl (hb hby at_262) k) ?_
            refine Ends.st (S' := T49.setTop (mkF m 267 #[.val (.int v0), .val (.int v1), .val (.long v2), .second, .val (.int v3), .val (.int v4), .val (.int dd), .val (.int (v1 &&& (2147483647 : Int32))), .val (.long rr), .second, .val (.long qm), .second, .val (.long q2), .second, .val (.long tk), .second, .val (.double (avg dd tk)), .second, .unset] [(.int (1 : Int32))])) (fun _ k => XS.goto X49.here hx rfl (pc0 := 263) (pc' := 267) rfl (hb hby at_263) (by decide) (by decide) k) ?_
            refine Ends.st (S' := T49.setTop (mkF m 269 #[.val (.int v0), .val (.int v1), .val (.long v2), .second, .val (.int v3), .val (.int v4), .val (.int dd), .val (.int (v1 &&& (2147483647 : Int32))), .val (.long rr), .second, .val (.long qm), .second, .val (.long q2), .second, .val (.long tk), .second, .val (.double (avg dd tk)), .second, .val (.int (1 : Int32))] [])) (fun _ k => XS.istore X49.here hx rfl (hb hby at_267) rfl (l' := #[.val (.int v0), .val (.int v1), .val (.long v2), .second, .val (.int v3), .val (.int v4), .val (.int dd), .val (.int (v1 &&& (2147483647 : Int32))), .val (.long rr), .second, .val (.long qm), .second, .val (.long q2), .second, .val (.long tk), .second, .val (.double (avg dd tk)), .second, .val (.int (1 : Int32))]) rfl k) ?_
            refine Ends.st (S' := T49.setTop (mkF m 271 #[.val (.int v0), .val (.int v1), .val (.long v2), .second, .val (.int v3), .val (.int v4), .val (.int dd), .val (.int (v1 &&& (2147483647 : Int32))), .val (.long rr), .second, .val (.long qm), .second, .val (.long q2), .second, .val (.long tk), .second, .val (.double (avg dd tk)), .second, .val (.int (1 : Int32))] [(.long q2)])) (fun _ k => XS.lload X49.here hx rfl (hb hby at_269) rfl k) ?_
            refine Ends.st (S' := T49.setTop (mkF m 274 #[.val (.int v0), .val (.int v1), .val (.long v2), .second, .val (.int v3), .val (.int v4), .val (.int dd), .val (.int (v1 &&& (2147483647 : Int32))), .val (.long rr), .second, .val (.long qm), .second, .val (.long q2), .second, .val (.long tk), .second, .val (.double (avg dd tk)), .second, .val (.int (1 : Int32))] [(.long (1048576 : Int64)), (.long q2)])) (fun _ k => X49.ldc2Long hx hown (mvT hZ (hw _ (List.mem_of_getElem? (i := 29) rfl))) (g := (mkF m 271 #[.val (.int v0), .val (.int v1), .val (.long v2), .second, .val (.int v3), .val (.int v4), .val (.int dd), .val (.int (v1 &&& (2147483647 : Int32))), .val (.long rr), .second, .val (.long qm), .second, .val (.long q2), .second, .val (.long tk), .second, .val (.double (avg dd tk)), .second, .val (.int (1 : Int32))] [(.long q2)])) rfl (hb hby at_271) _ k) ?_
            refine Ends.st (S' := T49.setTop (mkF m 275 #[.val (.int v0), .val (.int v1), .val (.long v2), .second, .val (.int v3), .val (.int v4), .val (.int dd), .val (.int (v1 &&& (2147483647 : Int32))), .val (.long rr), .second, .val (.long qm), .second, .val (.long q2), .second, .val (.long tk), .second, .val (.double (avg dd tk)), .second, .val (.int (1 : Int32))] [(.int (lcmpW q2 (1048576 : Int64)))])) (fun _ k => XS.lcmp X49.here hx rfl (hb hby at_274) rfl k) ?_
            by_cases hc54 : (lcmpW q2 (1048576 : Int64)) < (0 : Int32)
            · refine Ends.st (S' := T49.setTop (mkF m 278 #[.val (.int v0), .val (.int v1), .val (.long v2), .second, .val (.int v3), .val (.int v4), .val (.int dd), .val (.int (v1 &&& (2147483647 : Int32))), .val (.long rr), .second, .val (.long qm), .second, .val (.long q2), .second, .val (.long tk), .second, .val (.double (avg dd tk)), .second, .val (.int (1 : Int32))] [])) (fun _ k => XS.ifNo X49.here hx rfl (hb hby at_275) rfl ((if0 _ _).trans (tlt hc54).2.1) k) ?_
              refine Ends.st (S' := T49.setTop (mkF m 280 #[.val (.int v0), .val (.int v1), .val (.long v2), .second, .val (.int v3), .val (.int v4), .val (.int dd), .val (.int (v1 &&& (2147483647 : Int32))), .val (.long rr), .second, .val (.long qm), .second, .val (.long q2), .second, .val (.long tk), .second, .val (.double (avg dd tk)), .second, .val (.int (1 : Int32))] [(.int (1 : Int32))])) (fun _ k => XS.iload X49.here hx rfl (hb hby at_278) rfl k) ?_
              refine Ends.st (S' := T49.setTop (mkF m 283 #[.val (.int v0), .val (.int v1), .val (.long v2), .second, .val (.int v3), .val (.int v4), .val (.int dd), .val (.int (v1 &&& (2147483647 : Int32))), .val (.long rr), .second, .val (.long qm), .second, .val (.long q2), .second, .val (.long tk), .second, .val (.double (avg dd tk)), .second, .val (.int (1 : Int32))] [])) (fun _ k => XS.ifNo X49.here hx rfl (hb hby at_280) rfl ((if0 _ _).trans (feq (by decide : ¬ ((1 : Int32) = (0 : Int32)))).1) k) ?_
              refine Ends.st (S' := T49.setTop (mkF m 285 #[.val (.int v0), .val (.int v1), .val (.long v2), .second, .val (.int v3), .val (.int v4), .val (.int dd), .val (.int (v1 &&& (2147483647 : Int32))), .val (.long rr), .second, .val (.long qm), .second, .val (.long q2), .second, .val (.long tk), .second, .val (.double (avg dd tk)), .second, .val (.int (1 : Int32))] [(.long q2)])) (fun _ k => XS.lload X49.here hx rfl (hb hby at_283) rfl k) ?_
              refine Ends.st (S' := T49.setTop (mkF m 286 #[.val (.int v0), .val (.int v1), .val (.long v2), .second, .val (.int v3), .val (.int v4), .val (.int dd), .val (.int (v1 &&& (2147483647 : Int32))), .val (.long rr), .second, .val (.long qm), .second, .val (.long q2), .second, .val (.long tk), .second, .val (.double (avg dd tk)), .second, .val (.int (1 : Int32))] [(.double (FP.l2d q2))])) (fun _ k => XS.l2dS X49.here hx rfl (hb hby at_285) rfl rfl k) ?_
              refine Ends.st (S' := T49.setTop (mkF m 288 #[.val (.int v0), .val (.int v1), .val (.long v2), .second, .val (.int v3), .val (.int v4), .val (.int dd), .val (.int (v1 &&& (2147483647 : Int32))), .val (.long rr), .second, .val (.long qm), .second, .val (.long q2), .second, .val (.long tk), .second, .val (.double (avg dd tk)), .second, .val (.int (1 : Int32))] [(.double (avg dd tk)), (.double (FP.l2d q2))])) (fun _ k => XS.dload X49.here hx rfl (hb hby at_286) rfl k) ?_
              refine Ends.st (S' := T49.setTop (mkF m 289 #[.val (.int v0), .val (.int v1), .val (.long v2), .second, .val (.int v3), .val (.int v4), .val (.int dd), .val (.int (v1 &&& (2147483647 : Int32))), .val (.long rr), .second, .val (.long qm), .second, .val (.long q2), .second, .val (.long tk), .second, .val (.double (avg dd tk)), .second, .val (.int (1 : Int32))] [(.int (cmpValue (FP.dcmp (FP.l2d q2) (avg dd tk)) .g))])) (fun _ k => XS.dcmpS X49.here hx rfl (hb hby at_288) rfl rfl k) ?_
              have hb55 : (cmpValue (FP.dcmp (FP.l2d q2) (avg dd tk)) .g) < (0 : Int32) := own_lo2 hd0 hc12 hk0 hk1 hq0 hkq hr0 hr1 (own_rz hr0 hc50) (own_small hc54)
              refine Ends.st (S' := T49.setTop (mkF m 292 #[.val (.int v0), .val (.int v1), .val (.long v2), .second, .val (.int v3), .val (.int v4), .val (.int dd), .val (.int (v1 &&& (2147483647 : Int32))), .val (.long rr), .second, .val (.long qm), .second, .val (.long q2), .second, .val (.long tk), .second, .val (.double (avg dd tk)), .second, .val (.int (1 : Int32))] [])) (fun _ k => XS.ifNo X49.here hx rfl (hb hby at_289) rfl ((if0 _ _).trans (tlt hb55).2.1) k) ?_
              refine Ends.st (S' := T49.setTop (mkF m 294 #[.val (.int v0), .val (.int v1), .val (.long v2), .second, .val (.int v3), .val (.int v4), .val (.int dd), .val (.int (v1 &&& (2147483647 : Int32))), .val (.long rr), .second, .val (.long qm), .second, .val (.long q2), .second, .val (.long tk), .second, .val (.double (avg dd tk)), .second, .val (.int (1 : Int32))] [(.double (avg dd tk))])) (fun _ k => XS.dload X49.here hx rfl (hb hby at_292) rfl k) ?_
              refine Ends.st (S' := T49.setTop (mkF m 296 #[.val (.int v0), .val (.int v1), .val (.long v2), .second, .val (.int v3), .val (.int v4), .val (.int dd), .val (.int (v1 &&& (2147483647 : Int32))), .val (.long rr), .second, .val (.long qm), .second, .val (.long q2), .second, .val (.long tk), .second, .val (.double (avg dd tk)), .second, .val (.int (1 : Int32))] [(.long q2), (.double (avg dd tk))])) (fun _ k => XS.lload X49.here hx rfl (hb hby at_294) rfl k) ?_
              refine Ends.st (S' := T49.setTop (mkF m 297 #[.val (.int v0), .val (.int v1), .val (.long v2), .second, .val (.int v3), .val (.int v4), .val (.int dd), .val (.int (v1 &&& (2147483647 : Int32))), .val (.long rr), .second, .val (.long qm), .second, .val (.long q2), .second, .val (.long tk), .second, .val (.double (avg dd tk)), .second, .val (.int (1 : Int32))] [(.long (1 : Int64)), (.long q2), (.double (avg dd tk))])) (fun _ k => XS.lconst X49.here hx rfl (hb hby at_296) k) ?_
              refine Ends.st (S' := T49.setTop (mkF m 298 #[.val (.int v0), .val (.int v1), .val (.long v2), .second, .val (.int v3), .val (.int v4), .val (.int dd), .val (.int (v1 &&& (2147483647 : Int32))), .val (.long rr), .second, .val (.long qm), .second, .val (.long q2), .second, .val (.long tk), .second, .val (.double (avg dd tk)), .second, .val (.int (1 : Int32))] [(.long (q2 + (1 : Int64))), (.double (avg dd tk))])) (fun _ k => XS.ladd X49.here hx rfl (hb hby at_297) rfl k) ?_
              refine Ends.st (S' := T49.setTop (mkF m 299 #[.val (.int v0), .val (.int v1), .val (.long v2), .second, .val (.int v3), .val (.int v4), .val (.int dd), .val (.int (v1 &&& (2147483647 : Int32))), .val (.long rr), .second, .val (.long qm), .second, .val (.long q2), .second, .val (.long tk), .second, .val (.double (avg dd tk)), .second, .val (.int (1 : Int32))] [(.double (FP.l2d (q2 + (1 : Int64)))), (.double (avg dd tk))])) (fun _ k => XS.l2dS X49.here hx rfl (hb hby at_298) rfl rfl k) ?_
              refine Ends.st (S' := T49.setTop (mkF m 300 #[.val (.int v0), .val (.int v1), .val (.long v2), .second, .val (.int v3), .val (.int v4), .val (.int dd), .val (.int (v1 &&& (2147483647 : Int32))), .val (.long rr), .second, .val (.long qm), .second, .val (.long q2), .second, .val (.long tk), .second, .val (.double (avg dd tk)), .second, .val (.int (1 : Int32))] [(.int (cmpValue (FP.dcmp (avg dd tk) (FP.l2d (q2 + (1 : Int64)))) .g))])) (fun _ k => XS.dcmpS X49.here hx rfl (hb hby at_299) rfl rfl k) ?_
              have hb56 : (cmpValue (FP.dcmp (avg dd tk) (FP.l2d (q2 + (1 : Int64)))) .g) < (0 : Int32) := own_hi2 hd0 hc12 hk0 hk1 hq0 hkq hr0 hr1 (own_rz hr0 hc50) (own_small hc54)
              refine Ends.st (S' := T49.setTop (mkF m 303 #[.val (.int v0), .val (.int v1), .val (.long v2), .second, .val (.int v3), .val (.int v4), .val (.int dd), .val (.int (v1 &&& (2147483647 : Int32))), .val (.long rr), .second, .val (.long qm), .second, .val (.long q2), .second, .val (.long tk), .second, .val (.double (avg dd tk)), .second, .val (.int (1 : Int32))] [])) (fun _ k => XS.ifNo X49.here hx rfl (hb hby at_300) rfl ((if0 _ _).trans (tlt hb56).2.1) k) ?_
              refine Ends.st (S' := T49.setTop (mkF m 304 #[.val (.int v0), .val (.int v1), .val (.long v2), .second, .val (.int v3), .val (.int v4), .val (.int dd), .val (.int (v1 &&& (2147483647 : Int32))), .val (.long rr), .second, .val (.long qm), .second, .val (.long q2), .second, .val (.long tk), .second, .val (.double (avg dd tk)), .second, .val (.int (1 : Int32))] [(.int (1 : Int32))])) (fun _ k => XS.iconst X49.here hx rfl (hb hby at_303) k) ?_
              refine Ends.st (S' := T49.setTop (mkF m 308 #[.val (.int v0), .val (.int v1), .val (.long v2), .second, .val (.int v3), .val (.int v4), .val (.int dd), .val (.int (v1 &&& (2147483647 : Int32))), .val (.long rr), .second, .val (.long qm), .second, .val (.long q2), .second, .val (.long tk), .second, .val (.double (avg dd tk)), .second, .val (.int (1 : Int32))] [(.int (1 : Int32))])) (fun _ k => XS.goto X49.here hx rfl (pc0 := 304) (pc' := 308) rfl (hb hby at_304) (by decide) (by decide) k) ?_
              obtain ⟨fs, hr, hrun, hended, hW, hsame⟩ := X49.leave (v := some (.int (1 : Int32))) (fun h => by rw [Bd.returns] at h; cases h)
              exact ⟨_, _, retN X49 hx (t := .boolean) Bd.returns (by simp) (hb hby at_308) hr, hrun, hended, _, _, rfl, (by show Q0 Z  h0 n0 _ T49.heap _; rw [e49]; exact ⟨rfl, N49⟩), ⟨_, rfl⟩, hW, hsame.mono (by decide) (by decide)⟩
            · refine Ends.st (S' := T49.setTop (mkF m 309 #[.val (.int v0), .val (.int v1), .val (.long v2), .second, .val (.int v3), .val (.int v4), .val (.int dd), .val (.int (v1 &&& (2147483647 : Int32))), .val (.long rr), .second, .val (.long qm), .second, .val (.long q2), .second, .val (.long tk), .second, .val (.double (avg dd tk)), .second, .val (.int (1 : Int32))] [])) (fun _ k => XS.ifYes X49.here hx rfl (pc0 := 275) (pc' := 309) rfl (hb hby at_275) rfl ((if0 _ _).trans (flt hc54).2.1) (by decide) (by decide) k) ?_
              refine Ends.st (S' := T49.setTop (mkF m 311 #[.val (.int v0), .val (.int v1), .val (.long v2), .second, .val (.int v3), .val (.int v4), .val (.int dd), .val (.int (v1 &&& (2147483647 : Int32))), .val (.long rr), .second, .val (.long qm), .second, .val (.long q2), .second, .val (.long tk), .second, .val (.double (avg dd tk)), .second, .val (.int (1 : Int32))] [(.int (1 : Int32))])) (fun _ k => XS.iload X49.here hx rfl (hb hby at_309) rfl k) ?_
              obtain ⟨fs, hr, hrun, hended, hW, hsame⟩ := X49.leave (v := some (.int (1 : Int32))) (fun h => by rw [Bd.returns] at h; cases h)
              exact ⟨_, _, retN X49 hx (t := .boolean) Bd.returns (by simp) (hb hby at_311) hr, hrun, hended, _, _, rfl, (by show Q0 Z  h0 n0 _ T49.heap _; rw [e49]; exact ⟨rfl, N49⟩), ⟨_, rfl⟩, hW, hsame.mono (by decide) (by decide)⟩
      · refine Ends.st (S' := s₁.setTop (mkF m 73 #[.val (.int v0), .val (.int v1), .val (.long v2), .second, .val (.int v3), .val (.int v4), .val (.int dd), .val (.int (v1 &&& (2147483647 : Int32))), .unset, .unset, .unset, .unset, .unset, .unset, .unset, .unset, .unset, .unset, .unset] [])) (fun _ k => XS.ifNo X0.here hx rfl (hb hby at_70) rfl ((if0 _ _).trans (feq hc23).1) k) ?_
        refine Ends.st (S' := s₁.setTop (mkF m 74 #[.val (.int v0), .val (.int v1), .val (.long v2), .second, .val (.int v3), .val (.int v4), .val (.int dd), .val (.int (v1 &&& (2147483647 : Int32))), .unset, .unset, .unset, .unset, .unset, .unset, .unset, .unset, .unset, .unset, .unset] [(.long v2)])) (fun _ k => XS.lloadN X0.here hx rfl (hb hby at_73) rfl k) ?_
        refine Ends.st (S' := s₁.setTop (mkF m 77 #[.val (.int v0), .val (.int v1), .val (.long v2), .second, .val (.int v3), .val (.int v4), .val (.int dd), .val (.int (v1 &&& (2147483647 : Int32))), .unset, .unset, .unset, .unset, .unset, .unset, .unset, .unset, .unset, .unset, .unset] [(.long (9223372036854775807 : Int64)), (.long v2)])) (fun _ k => X0.ldc2Long hx hown (mvT hZ (hw _ (List.mem_of_getElem? (i := 1) rfl))) (g := (mkF m 74 #[.val (.int v0), .val (.int v1), .val (.long v2), .second, .val (.int v3), .val (.int v4), .val (.int dd), .val (.int (v1 &&& (2147483647 : Int32))), .unset, .unset, .unset, .unset, .unset, .unset, .unset, .unset, .unset, .unset, .unset] [(.long v2)])) rfl (hb hby at_74) _ k) ?_
        refine Ends.st (S' := s₁.setTop (mkF m 78 #[.val (.int v0), .val (.int v1), .val (.long v2), .second, .val (.int v3), .val (.int v4), .val (.int dd), .val (.int (v1 &&& (2147483647 : Int32))), .unset, .unset, .unset, .unset, .unset, .unset, .unset, .unset, .unset, .unset, .unset] [(.long (v2 &&& (9223372036854775807 : Int64)))])) (fun _ k => XS.land X0.here hx rfl (hb hby at_77) rfl k) ?_
        refine Ends.st (S' := s₁.setTop (mkF m 80 #[.val (.int v0), .val (.int v1), .val (.long v2), .second, .val (.int v3), .val (.int v4), .val (.int dd), .val (.int (v1 &&& (2147483647 : Int32))), .val (.long (v2 &&& (9223372036854775807 : Int64))), .second, .unset, .unset, .unset, .unset, .unset, .unset, .unset, .unset, .unset] [])) (fun _ k => XS.lstore X0.here hx rfl (hb hby at_78) rfl (l' := #[.val (.int v0), .val (.int v1), .val (.long v2), .second, .val (.int v3), .val (.int v4), .val (.int dd), .val (.int (v1 &&& (2147483647 : Int32))), .val (.long (v2 &&& (9223372036854775807 : Int64))), .second, .unset, .unset, .unset, .unset, .unset, .unset, .unset, .unset, .unset]) rfl k) ?_
        obtain ⟨T57, h57, X57, e57, E57, A57, D57, -, st57⟩ := newO X0 hx hZ hown (hw _ (List.mem_of_getElem? (i := 2) rfl)) (hw _ (List.mem_of_getElem? (i := 3) rfl)) (hw _ (List.mem_of_getElem? (i := 4) rfl)) e0 (g := (mkF m 80 #[.val (.int v0), .val (.int v1), .val (.long v2), .second, .val (.int v3), .val (.int v4), .val (.int dd), .val (.int (v1 &&& (2147483647 : Int32))), .val (.long (v2 &&& (9223372036854775807 : Int64))), .second, .unset, .unset, .unset, .unset, .unset, .unset, .unset, .unset, .unset] [])) rfl (hb hby at_80) (by decide) (by decide)
        obtain ⟨b57, g57⟩ : ∃ z, z = h0.size := ⟨_, rfl⟩
        rw [← g57] at A57 D57 st57
        have g_b57 : n0 ≤ b57 := Nat.le_trans Z0 (Nat.le_of_eq g57.symm)
        have f58 := Nat.le_trans Z0 E57.1
        have F59 : Fld Z h57 b57 "com/example/net_weight/netweight/core/index/CollectionStatistics" "documents" "I" (.int (0 : Int32)) := D57 (Or.inr (hw _ (List.mem_of_getElem? (i := 17) rfl))) (ty := .int) (by decide)
        have F60 : Fld Z h57 b57 "com/example/net_weight/netweight/core/index/CollectionStatistics" "terms" "I" (.int (0 : Int32)) := D57 (Or.inr (hw _ (List.mem_of_getElem? (i := 19) rfl))) (ty := .int) (by decide)
        have F61 : Fld Z h57 b57 "com/example/net_weight/netweight/core/index/CollectionStatistics" "tokens" "J" (.long (0 : Int64)) := D57 (Or.inr (hw _ (List.mem_of_getElem? (i := 21) rfl))) (ty := .long) (by decide)
        refine Ends.st (S' := T57.setTop (mkF m 83 #[.val (.int v0), .val (.int v1), .val (.long v2), .second, .val (.int v3), .val (.int v4), .val (.int dd), .val (.int (v1 &&& (2147483647 : Int32))), .val (.long (v2 &&& (9223372036854775807 : Int64))), .second, .unset, .unset, .unset, .unset, .unset, .unset, .unset, .unset, .unset] [(.ref b57)])) (fun _ k => st57 _ k) ?_
        refine Ends.st (S' := T57.setTop (mkF m 84 #[.val (.int v0), .val (.int v1), .val (.long v2), .second, .val (.int v3), .val (.int v4), .val (.int dd), .val (.int (v1 &&& (2147483647 : Int32))), .val (.long (v2 &&& (9223372036854775807 : Int64))), .second, .unset, .unset, .unset, .unset, .unset, .unset, .unset, .unset, .unset] [(.ref b57), (.ref b57)])) (fun _ k => XS.dup X57.here hx rfl (hb hby at_83) rfl rfl k) ?_
        refine Ends.st (S' := T57.setTop (mkF m 86 #[.val (.int v0), .val (.int v1), .val (.long v2), .second, .val (.int v3), .val (.int v4), .val (.int dd), .val (.int (v1 &&& (2147483647 : Int32))), .val (.long (v2 &&& (9223372036854775807 : Int64))), .second, .unset, .unset, .unset, .unset, .unset, .unset, .unset, .unset, .unset] [(.int dd), (.ref b57), (.ref b57)])) (fun _ k => XS.iload X57.here hx rfl (hb hby at_84) rfl k) ?_
        refine Ends.st (S' := T57.setTop (mkF m 88 #[.val (.int v0), .val (.int v1), .val (.long v2), .second, .val (.int v3), .val (.int v4), .val (.int dd), .val (.int (v1 &&& (2147483647 : Int32))), .val (.long (v2 &&& (9223372036854775807 : Int64))), .second, .unset, .unset, .unset, .unset, .unset, .unset, .unset, .unset, .unset] [(.int (v1 &&& (2147483647 : Int32))), (.int dd), (.ref b57), (.ref b57)])) (fun _ k => XS.iload X57.here hx rfl (hb hby at_86) rfl k) ?_
        refine Ends.st (S' := T57.setTop (mkF m 90 #[.val (.int v0), .val (.int v1), .val (.long v2), .second, .val (.int v3), .val (.int v4), .val (.int dd), .val (.int (v1 &&& (2147483647 : Int32))), .val (.long (v2 &&& (9223372036854775807 : Int64))), .second, .unset, .unset, .unset, .unset, .unset, .unset, .unset, .unset, .unset] [(.long (v2 &&& (9223372036854775807 : Int64))), (.int (v1 &&& (2147483647 : Int32))), (.int dd), (.ref b57), (.ref b57)])) (fun _ k => XS.lload X57.here hx rfl (hb hby at_88) rfl k) ?_
        obtain ⟨_, _, ⟨T62, L62, k62, n62⟩, -, X62, ⟨Lc62, hQ62, l62, y62, z62⟩, st62⟩ := X57.specialBack hx (y := (⟨"com/example/net_weight/netweight/core/index/CollectionStatistics", "<init>", "(IIJ)V"⟩ : MethodName)) rfl hown (mvT hZ (hw _ (List.mem_of_getElem? (i := 5) rfl))) (mvT hZ (hw _ (List.mem_of_getElem? (i := 6) rfl))) (mvT hZ (hw _ (List.mem_of_getElem? (i := 7) rfl))) (by decide) (backOf (W := 1) (rm1 l Z a0 hw [] b57 dd (v1 &&& (2147483647 : Int32)) (v2 &&& (9223372036854775807 : Int64)) h57 n0 f58 A57 F59 F60 F61 g_b57 hd0 (own_nonneg v1) (own_nonneg64 v2)) hZ (hw _ (List.mem_of_getElem? (i := 7) rfl)) (hw _ (List.mem_of_getElem? (i := 4) rfl)) (by decide) (by decide)) (g := (mkF m 90 #[.val (.int v0), .val (.int v1), .val (.long v2), .second, .val (.int v3), .val (.int v4), .val (.int dd), .val (.int (v1 &&& (2147483647 : Int32))), .val (.long (v2 &&& (9223372036854775807 : Int64))), .second, .unset, .unset, .unset, .unset, .unset, .unset, .unset, .unset, .unset] [(.long (v2 &&& (9223372036854775807 : Int64))), (.int (v1 &&& (2147483647 : Int32))), (.int dd), (.ref b57), (.ref b57)])) rfl (by rw [hml]; rfl) (Steps.refl _) (a := b57) (argsL := [(.int dd), (.int (v1 &&& (2147483647 : Int32))), (.long (v2 &&& (9223372036854775807 : Int64)))]) (rest := [(.ref b57)]) (lenOf pd_1 rfl) rfl (by show 2 * 0 + _ ≤ _; exact Nat.le_of_eq rfl) (hb hby at_90) (fun _ _ => ⟨rfl, e57, (by decide : 0 + 1 + 0 ≤ _), (by decide : 0 + 3 + 0 ≤ _)⟩)
        dsimp only [Pt.U, Pt.locs, Pt.cells, Pt.slots] at X62 l62 y62 z62 st62 hQ62
        subst l62 y62 z62
        obtain ⟨rfl, N62q, K62, G62, J62⟩ := hQ62
        have N62 := Fr.app N0 N62q
        have f63 := Nat.le_trans f58 K62.1
        have f64 := A57.keep K62
        refine Ends.st (S' := T62.setTop (mkF m 93 #[.val (.int v0), .val (.int v1), .val (.long v2), .second, .val (.int v3), .val (.int v4), .val (.int dd), .val (.int (v1 &&& (2147483647 : Int32))), .val (.long (v2 &&& (9223372036854775807 : Int64))), .second, .unset, .unset, .unset, .unset, .unset, .unset, .unset, .unset, .unset] [(.ref b57)])) (fun _ k => st62.trans k) ?_
        obtain ⟨cq65, kq65, q65a, q65b, q65c⟩ := isOf hZ rfl (f64)
        obtain ⟨_, _, ⟨T65, L65, k65, n65⟩, -, X65, ⟨Lc65, hQ65, l65, y65, z65⟩, st65⟩ := X62.virtualBack hx (y := (⟨"com/example/net_weight/netweight/core/index/CollectionStatistics", "averageDocumentLength", "()D"⟩ : MethodName)) (z := (⟨"com/example/net_weight/netweight/core/index/CollectionStatistics", "averageDocumentLength", "()D"⟩ : MethodName)) hown (mvT hZ (hw _ (List.mem_of_getElem? (i := 22) rfl))) (mvT hZ (hw _ (List.mem_of_getElem? (i := 23) rfl))) (notFace_of_selects (args := #[]) (mvT hZ (hw _ (List.mem_of_getElem? (i := 25) rfl)))) (mvT hZ (hw _ (List.mem_of_getElem? (i := 25) rfl))) (mvT hZ (hw _ (List.mem_of_getElem? (i := 24) rfl))) (by decide) (backOf (W := 0) (rm4 l Z a0 hw [] b57 dd (v2 &&& (9223372036854775807 : Int64)) T62.heap n0 f63 G62 J62) hZ (hw _ (List.mem_of_getElem? (i := 26) rfl)) (hw _ (List.mem_of_getElem? (i := 4) rfl)) (by decide) (by decide)) q65a q65c (g := (mkF m 93 #[.val (.int v0), .val (.int v1), .val (.long v2), .second, .val (.int v3), .val (.int v4), .val (.int dd), .val (.int (v1 &&& (2147483647 : Int32))), .val (.long (v2 &&& (9223372036854775807 : Int64))), .second, .unset, .unset, .unset, .unset, .unset, .unset, .unset, .unset, .unset] [(.ref b57)])) rfl (by rw [hml]; rfl) (Steps.refl _) (argsL := []) (rest := []) (lenOf pd_2 rfl) rfl (by show 2 * 0 + _ ≤ _; exact Nat.le_of_eq rfl) (hb hby at_93) (fun _ _ => ⟨rfl, rfl, (by decide : 0 + 1 + 0 + 0 ≤ _), (by decide : 0 + 3 + 0 + 0 ≤ _)⟩)
        dsimp only [Pt.U, Pt.locs, Pt.cells, Pt.slots] at X65 l65 y65 z65 st65 hQ65
        subst l65 y65 z65
        obtain ⟨rfl, N65q, e65⟩ := hQ65
        have N65 := Fr.app N62 N65q
        refine Ends.st (S' := T65.setTop (mkF m 96 #[.val (.int v0), .val (.int v1), .val (.long v2), .second, .val (.int v3), .val (.int v4), .val (.int dd), .val (.int (v1 &&& (2147483647 : Int32))), .val (.long (v2 &&& (9223372036854775807 : Int64))), .second, .unset, .unset, .unset, .unset, .unset, .unset, .unset, .unset, .unset] [(.double (avg dd (v2 &&& (9223372036854775807 : Int64))))])) (fun _ k => st65.trans k) ?_
        refine Ends.st (S' := T65.setTop (mkF m 98 #[.val (.int v0), .val (.int v1), .val (.long v2), .second, .val (.int v3), .val (.int v4), .val (.int dd), .val (.int (v1 &&& (2147483647 : Int32))), .val (.long (v2 &&& (9223372036854775807 : Int64))), .second, .val (.double (avg dd (v2 &&& (9223372036854775807 : Int64)))), .second, .unset, .unset, .unset, .unset, .unset, .unset, .unset] [])) (fun _ k => XS.dstore X65.here hx rfl (hb hby at_96) rfl (l' := #[.val (.int v0), .val (.int v1), .val (.long v2), .second, .val (.int v3), .val (.int v4), .val (.int dd), .val (.int (v1 &&& (2147483647 : Int32))), .val (.long (v2 &&& (9223372036854775807 : Int64))), .second, .val (.double (avg dd (v2 &&& (9223372036854775807 : Int64)))), .second, .unset, .unset, .unset, .unset, .unset, .unset, .unset]) rfl k) ?_
        refine Ends.st (S' := T65.setTop (mkF m 100 #[.val (.int v0), .val (.int v1), .val (.long v2), .second, .val (.int v3), .val (.int v4), .val (.int dd), .val (.int (v1 &&& (2147483647 : Int32))), .val (.long (v2 &&& (9223372036854775807 : Int64))), .second, .val (.double (avg dd (v2 &&& (9223372036854775807 : Int64)))), .second, .unset, .unset, .unset, .unset, .unset, .unset, .unset] [(.int dd)])) (fun _ k => XS.iload X65.here hx rfl (hb hby at_98) rfl k) ?_
        refine Ends.st (S' := T65.setTop (mkF m 101 #[.val (.int v0), .val (.int v1), .val (.long v2), .second, .val (.int v3), .val (.int v4), .val (.int dd), .val (.int (v1 &&& (2147483647 : Int32))), .val (.long (v2 &&& (9223372036854775807 : Int64))), .second, .val (.double (avg dd (v2 &&& (9223372036854775807 : Int64)))), .second, .unset, .unset, .unset, .unset, .unset, .unset, .unset] [(.int (1 : Int32)), (.int dd)])) (fun _ k => XS.iconst X65.here hx rfl (hb hby at_100) k) ?_
        by_cases hc66 : dd = (1 : Int32)
        · refine Ends.st (S' := T65.setTop (mkF m 104 #[.val (.int v0), .val (.int v1), .val (.long v2), .second, .val (.int v3), .val (.int v4), .val (.int dd), .val (.int (v1 &&& (2147483647 : Int32))), .val (.long (v2 &&& (9223372036854775807 : Int64))), .second, .val (.double (avg dd (v2 &&& (9223372036854775807 : Int64)))), .second, .unset, .unset, .unset, .unset, .unset, .unset, .unset] [])) (fun _ k => XS.icmpNo X65.here hx rfl (hb hby at_101) rfl (teq hc66).2 k) ?_
          refine Ends.st (S' := T65.setTop (mkF m 106 #[.val (.int v0), .val (.int v1), .val (.long v2), .second, .val (.int v3), .val (.int v4), .val (.int dd), .val (.int (v1 &&& (2147483647 : Int32))), .val (.long (v2 &&& (9223372036854775807 : Int64))), .second, .val (.double (avg dd (v2 &&& (9223372036854775807 : Int64)))), .second, .unset, .unset, .unset, .unset, .unset, .unset, .unset] [(.double (avg dd (v2 &&& (9223372036854775807 : Int64))))])) (fun _ k => XS.dload X65.here hx rfl (hb hby at_104) rfl k) ?_
          refine Ends.st (S' := T65.setTop (mkF m 108 #[.val (.int v0), .val (.int v1), .val (.long v2), .second, .val (.int v3), .val (.int v4), .val (.int dd), .val (.int (v1 &&& (2147483647 : Int32))), .val (.long (v2 &&& (9223372036854775807 : Int64))), .second, .val (.double (avg dd (v2 &&& (9223372036854775807 : Int64)))), .second, .unset, .unset, .unset, .unset, .unset, .unset, .unset] [(.long (v2 &&& (9223372036854775807 : Int64))), (.double (avg dd (v2 &&& (9223372036854775807 : Int64))))])) (fun _ k => XS.lload X65.here hx rfl (hb hby at_106) rfl k) ?_
          refine Ends.st (S' := T65.setTop (mkF m 109 #[.val (.int v0), .val (.int v1), .val (.long v2), .second, .val (.int v3), .val (.int v4), .val (.int dd), .val (.int (v1 &&& (2147483647 : Int32))), .val (.long (v2 &&& (9223372036854775807 : Int64))), .second, .val (.double (avg dd (v2 &&& (9223372036854775807 : Int64)))), .second, .unset, .unset, .unset, .unset, .unset, .unset, .unset] [(.double (FP.l2d (v2 &&& (9223372036854775807 : Int64)))), (.double (avg dd (v2 &&& (9223372036854775807 : Int64))))])) (fun _ k => XS.l2dS X65.here hx rfl (hb hby at_108) rfl rfl k) ?_
          refine Ends.st (S' := T65.setTop (mkF m 110 #[.val (.int v0), .val (.int v1), .val (.long v2), .second, .val (.int v3), .val (.int v4), .val (.int dd), .val (.int (v1 &&& (2147483647 : Int32))), .val (.long (v2 &&& (9223372036854775807 : Int64))), .second, .val (.double (avg dd (v2 &&& (9223372036854775807 : Int64)))), .second, .unset, .unset, .unset, .unset, .unset, .unset, .unset] [(.int (cmpValue (FP.dcmp (avg dd (v2 &&& (9223372036854775807 : Int64))) (FP.l2d (v2 &&& (9223372036854775807 : Int64)))) .l))])) (fun _ k => XS.dcmpS X65.here hx rfl (hb hby at_109) rfl rfl k) ?_
          have hb67 : (cmpValue (FP.dcmp (avg dd (v2 &&& (9223372036854775807 : Int64))) (FP.l2d (v2 &&& (9223372036854775807 : Int64)))) .l) = (0 : Int32) := own_one hc66 (own_nonneg64 v2)
          refine Ends.st (S' := T65.setTop (mkF m 113 #[.val (.int v0), .val (.int v1), .val (.long v2), .second, .val (.int v3), .val (.int v4), .val (.int dd), .val (.int (v1 &&& (2147483647 : Int32))), .val (.long (v2 &&& (9223372036854775807 : Int64))), .second, .val (.double (avg dd (v2 &&& (9223372036854775807 : Int64)))), .second, .unset, .unset, .unset, .unset, .unset, .unset, .unset] [])) (fun _ k => XS.ifNo X65.here hx rfl (hb hby at_110) rfl ((if0 _ _).trans (teq hb67).2) k) ?_
          refine Ends.st (S' := T65.setTop (mkF m 114 #[.val (.int v0), .val (.int v1), .val (.long v2), .second, .val (.int v3), .val (.int v4), .val (.int dd), .val (.int (v1 &&& (2147483647 : Int32))), .val (.long (v2 &&& (9223372036854775807 : Int64))), .second, .val (.double (avg dd (v2 &&& (9223372036854775807 : Int64)))), .second, .unset, .unset, .unset, .unset, .unset, .unset, .unset] [(.int (1 : Int32))])) (fun _ k => XS.iconst X65.here hx rfl (hb hby at_113) k) ?_
          refine Ends.st (S' := T65.setTop (mkF m 118 #[.val (.int v0), .val (.int v1), .val (.long v2), .second, .val (.int v3), .val (.int v4), .val (.int dd), .val (.int (v1 &&& (2147483647 : Int32))), .val (.long (v2 &&& (9223372036854775807 : Int64))), .second, .val (.double (avg dd (v2 &&& (9223372036854775807 : Int64)))), .second, .unset, .unset, .unset, .unset, .unset, .unset, .unset] [(.int (1 : Int32))])) (fun _ k => XS.goto X65.here hx rfl (pc0 := 114) (pc' := 118) rfl (hb hby at_114) (by decide) (by decide) k) ?_
          obtain ⟨fs, hr, hrun, hended, hW, hsame⟩ := X65.leave (v := some (.int (1 : Int32))) (fun h => by rw [Bd.returns] at h; cases h)
          exact ⟨_, _, retN X65 hx (t := .boolean) Bd.returns (by simp) (hb hby at_118) hr, hrun, hended, _, _, rfl, (by show Q0 Z  h0 n0 _ T65.heap _; rw [e65]; exact ⟨rfl, N65⟩), ⟨_, rfl⟩, hW, hsame.mono (by decide) (by decide)⟩
        · refine Ends.st (S' := T65.setTop (mkF m 119 #[.val (.int v0), .val (.int v1), .val (.long v2), .second, .val (.int v3), .val (.int v4), .val (.int dd), .val (.int (v1 &&& (2147483647 : Int32))), .val (.long (v2 &&& (9223372036854775807 : Int64))), .second, .val (.double (avg dd (v2 &&& (9223372036854775807 : Int64)))), .second, .unset, .unset, .unset, .unset, .unset, .unset, .unset] [])) (fun _ k => XS.icmpYes X65.here hx rfl (pc0 := 101) (pc' := 119) rfl (hb hby at_101) rfl (feq hc66).2 (by decide) (by decide) k) ?_
          refine Ends.st (S' := T65.setTop (mkF m 120 #[.val (.int v0), .val (.int v1), .val (.long v2), .second, .val (.int v3), .val (.int v4), .val (.int dd), .val (.int (v1 &&& (2147483647 : Int32))), .val (.long (v2 &&& (9223372036854775807 : Int64))), .second, .val (.double (avg dd (v2 &&& (9223372036854775807 : Int64)))), .second, .unset, .unset, .unset, .unset, .unset, .unset, .unset] [(.double (0 : UInt64))])) (fun _ k => XS.dconst0 X65.here hx rfl (hb hby at_119) rfl k) ?_
          refine Ends.st (S' := T65.setTop (mkF m 122 #[.val (.int v0), .val (.int v1), .val (.long v2), .second, .val (.int v3), .val (.int v4), .val (.int dd), .val (.int (v1 &&& (2147483647 : Int32))), .val (.long (v2 &&& (9223372036854775807 : Int64))), .second, .val (.double (avg dd (v2 &&& (9223372036854775807 : Int64)))), .second, .unset, .unset, .unset, .unset, .unset, .unset, .unset] [(.double (avg dd (v2 &&& (9223372036854775807 : Int64)))), (.double (0 : UInt64))])) (fun _ k => XS.dload X65.here hx rfl (hb hby at_120) rfl k) ?_
          refine Ends.st (S' := T65.setTop (mkF m 123 #[.val (.int v0), .val (.int v1), .val (.long v2), .second, .val (.int v3), .val (.int v4), .val (.int dd), .val (.int (v1 &&& (2147483647 : Int32))), .val (.long (v2 &&& (9223372036854775807 : Int64))), .second, .val (.double (avg dd (v2 &&& (9223372036854775807 : Int64)))), .second, .unset, .unset, .unset, .unset, .unset, .unset, .unset] [(.int (cmpValue (FP.dcmp (0 : UInt64) (avg dd (v2 &&& (9223372036854775807 : Int64)))) .g))])) (fun _ k => XS.dcmpS X65.here hx rfl (hb hby at_122) rfl rfl k) ?_
          have hb68 : ¬ ((0 : Int32) < (cmpValue (FP.dcmp (0 : UInt64) (avg dd (v2 &&& (9223372036854775807 : Int64)))) .g)) := own_ge0 hd0 hc12 (own_nonneg64 v2)
          refine Ends.st (S' := T65.setTop (mkF m 126 #[.val (.int v0), .val (.int v1), .val (.long v2), .second, .val (.int v3), .val (.int v4), .val (.int dd), .val (.int (v1 &&& (2147483647 : Int32))), .val (.long (v2 &&& (9223372036854775807 : Int64))), .second, .val (.double (avg dd (v2 &&& (9223372036854775807 : Int64)))), .second, .unset, .unset, .unset, .unset, .unset, .unset, .unset] [])) (fun _ k => XS.ifNo X65.here hx rfl (hb hby at_123) rfl ((if0 _ _).trans (flt hb68).2.2.1) k) ?_
          refine Ends.st (S' := T65.setTop (mkF m 128 #[.val (.int v0), .val (.int v1), .val (.long v2), .second, .val (.int v3), .val (.int v4), .val (.int dd), .val (.int (v1 &&& (2147483647 : Int32))), .val (.long (v2 &&& (9223372036854775807 : Int64))), .second, .val (.double (avg dd (v2 &&& (9223372036854775807 : Int64)))), .second, .unset, .unset, .unset, .unset, .unset, .unset, .unset] [(.double (avg dd (v2 &&& (9223372036854775807 : Int64))))])) (fun _ k => XS.dload X65.here hx rfl (hb hby at_126) rfl k) ?_
          refine Ends.st (S' := T65.setTop (mkF m 130 #[.val (.int v0), .val (.int v1), .val (.long v2), .second, .val (.int v3), .val (.int v4), .val (.int dd), .val (.int (v1 &&& (2147483647 : Int32))), .val (.long (v2 &&& (9223372036854775807 : Int64))), .second, .val (.double (avg dd (v2 &&& (9223372036854775807 : Int64)))), .second, .unset, .unset, .unset, .unset, .unset, .unset, .unset] [(.long (v2 &&& (9223372036854775807 : Int64))), (.double (avg dd (v2 &&& (9223372036854775807 : Int64))))])) (fun _ k => XS.lload X65.here hx rfl (hb hby at_128) rfl k) ?_
          refine Ends.st (S' := T65.setTop (mkF m 131 #[.val (.int v0), .val (.int v1), .val (.long v2), .second, .val (.int v3), .val (.int v4), .val (.int dd), .val (.int (v1 &&& (2147483647 : Int32))), .val (.long (v2 &&& (9223372036854775807 : Int64))), .second, .val (.double (avg dd (v2 &&& (9223372036854775807 : Int64)))), .second, .unset, .unset, .unset, .unset, .unset, .unset, .unset] [(.double (FP.l2d (v2 &&& (9223372036854775807 : Int64)))), (.double (avg dd (v2 &&& (9223372036854775807 : Int64))))])) (fun _ k => XS.l2dS X65.here hx rfl (hb hby at_130) rfl rfl k) ?_
          refine Ends.st (S' := T65.setTop (mkF m 132 #[.val (.int v0), .val (.int v1), .val (.long v2), .second, .val (.int v3), .val (.int v4), .val (.int dd), .val (.int (v1 &&& (2147483647 : Int32))), .val (.long (v2 &&& (9223372036854775807 : Int64))), .second, .val (.double (avg dd (v2 &&& (9223372036854775807 : Int64)))), .second, .unset, .unset, .unset, .unset, .unset, .unset, .unset] [(.int (cmpValue (FP.dcmp (avg dd (v2 &&& (9223372036854775807 : Int64))) (FP.l2d (v2 &&& (9223372036854775807 : Int64)))) .g))])) (fun _ k => XS.dcmpS X65.here hx rfl (hb hby at_131) rfl rfl k) ?_
          have hb69 : ¬ ((0 : Int32) < (cmpValue (FP.dcmp (avg dd (v2 &&& (9223372036854775807 : Int64))) (FP.l2d (v2 &&& (9223372036854775807 : Int64)))) .g)) := own_lebig hd0 hc12 (own_nonneg64 v2)
          refine Ends.st (S' := T65.setTop (mkF m 135 #[.val (.int v0), .val (.int v1), .val (.long v2), .second, .val (.int v3), .val (.int v4), .val (.int dd), .val (.int (v1 &&& (2147483647 : Int32))), .val (.long (v2 &&& (9223372036854775807 : Int64))), .second, .val (.double (avg dd (v2 &&& (9223372036854775807 : Int64)))), .second, .unset, .unset, .unset, .unset, .unset, .unset, .unset] [])) (fun _ k => XS.ifNo X65.here hx rfl (hb hby at_132) rfl ((if0 _ _).trans (flt hb69).2.2.1) k) ?_
          refine Ends.st (S' := T65.setTop (mkF m 136 #[.val (.int v0), .val (.int v1), .val (.long v2), .second, .val (.int v3), .val (.int v4), .val (.int dd), .val (.int (v1 &&& (2147483647 : Int32))), .val (.long (v2 &&& (9223372036854775807 : Int64))), .second, .val (.double (avg dd (v2 &&& (9223372036854775807 : Int64)))), .second, .unset, .unset, .unset, .unset, .unset, .unset, .unset] [(.int (1 : Int32))])) (fun _ k => XS.iconst X65.here hx rfl (hb hby at_135) k) ?_
          refine Ends.st (S' := T65.setTop (mkF m 140 #[.val (.int v0), .val (.int v1), .val (.long v2), .second, .val (.int v3), .val (.int v4), .val (.int dd), .val (.int (v1 &&& (2147483647 : Int32))), .val (.long (v2 &&& (9223372036854775807 : Int64))), .second, .val (.double (avg dd (v2 &&& (9223372036854775807 : Int64)))), .second, .unset, .unset, .unset, .unset, .unset, .unset, .unset] [(.int (1 : Int32))])) (fun _ k => XS.goto X65.here hx rfl (pc0 := 136) (pc' := 140) rfl (hb hby at_136) (by decide) (by decide) k) ?_
          obtain ⟨fs, hr, hrun, hended, hW, hsame⟩ := X65.leave (v := some (.int (1 : Int32))) (fun h => by rw [Bd.returns] at h; cases h)
          exact ⟨_, _, retN X65 hx (t := .boolean) Bd.returns (by simp) (hb hby at_140) hr, hrun, hended, _, _, rfl, (by show Q0 Z  h0 n0 _ T65.heap _; rw [e65]; exact ⟨rfl, N65⟩), ⟨_, rfl⟩, hW, hsame.mono (by decide) (by decide)⟩
set_option maxRecDepth 65536 in
set_option maxHeartbeats 40000000 in
theorem comes_1 {Post : Tables → Env → Array Value → State → Outcome → State → Prop} (hpost : ∀ tb e args s v u, (limb_1_1.after args s (.returned v) u = true ∧ limb_1_2.after args s (.returned v) u = true ∧ True) → FrameEnd s (.returned v) u (Jvm.fieldLocs frame_1_writes args s ++ Jvm.arrayLocs frame_1_arrays args s ++ Jvm.staticLocs frame_1_statics s) 16 128 → Post tb e args s (.returned v) u) :
    ArmFor flags0 classFile x code maxLocals ret World_1 tables_1 room_1 Calls_1 rest_1 Pre_1 Post := by
  intro l hfl _ _ p e ha hc hk s m args below hf hA hF happ hP
  obtain ⟨hcalls, hrest, hpre⟩ := hP
  obtain ⟨-, -, -, hnamed, -, -, -, hat⟩ := (Spec.applies_iff hf).mp happ
  obtain ⟨hg, hn⟩ := and_e (Cond.before_iff.mp (show (Jvm.Cond.and given_1 narrow_1).before args s = true from hpre))
  obtain ⟨gc, gr0⟩ := and_e hg
  obtain ⟨ga0, gr1⟩ := and_e gr0
  obtain ⟨ga1, gr2⟩ := and_e gr1
  obtain ⟨ga2, gr3⟩ := and_e gr2
  obtain ⟨ga3, gr4⟩ := and_e gr3
  obtain ⟨w0, w1, w2, w3, w4, rfl⟩ : ∃ w0 w1 w2 w3 w4 : Value, args = #[w0, w1, w2, w3, w4] := by
    have hs : args.size = 5 := by simpa [Cond.value, given_1] using gc
    obtain ⟨L⟩ := args
    match L, hs with
    | [w0, w1, w2, w3, w4], _ => exact ⟨w0, w1, w2, w3, w4, rfl⟩
  have hw := fun d (hd : d ∈ tables_1) => atoms_spec (ws := Jvm.Cond.code x code maxLocals ret :: tables_1) hat d (List.mem_cons_of_mem _ hd)
  have hfit : Fit s := fun {y c} hc i hi => by
    obtain ⟨ha, rfl⟩ := Array.getElem?_eq_some_iff.mp hc
    have q := List.all_eq_true.mp ((Array.all_eq_true_iff_forall_mem.mp hF) _ (Array.getElem_mem ha)) i (List.mem_range.mpr hi)
    simpa [Array.getElem?_eq_getElem hi] using q
  obtain ⟨i0, ei0⟩ := is_v ga0
  obtain rfl : w0 = (.int i0) := Option.some.inj ei0
  obtain ⟨i1, ei1⟩ := is_v ga1
  obtain rfl : w1 = (.int i1) := Option.some.inj ei1
  obtain ⟨i2, ei2⟩ := isL_v ga2
  obtain rfl : w2 = (.long i2) := Option.some.inj ei2
  obtain ⟨i3, ei3⟩ := is_v ga3
  obtain rfl : w3 = (.int i3) := Option.some.inj ei3
  obtain ⟨i4, ei4⟩ := is_v gr4
  obtain rfl : w4 = (.int i4) := Option.some.inj ei4
  obtain ⟨n, o, h1, h2, h3, _, L, rfl, ⟨rfl, N⟩, hq⟩ := rm0 l s _ hw tables_1 i0 i1 i2 i3 i4 s.heap s.heap.size (Nat.le_refl _)  p e ha hc hk s m _ below hf ((Spec.applies_iff_loose hf).mp happ).1 ⟨rfl, State.Warmed39.refl s, rfl⟩ trivial
  refine ⟨n, _, h1, h2, h3, hpost _ _ _ _ _ _ ⟨Cond.after_iff.mpr rfl, Cond.after_iff.mpr (eq_i res_at (Term.int_eval (1)) rfl), trivial⟩ ⟨hq.1, hq.2.1, (hq.2.2.sift fun y hy => Or.inr (N y hy)).mono (by decide) (by decide)⟩⟩
theorem main_1_1 : Claimed_1_1 := comes_1 fun _ _ _ _ _ _ h hF => ⟨h.1, hF⟩
theorem main_1_2 : Claimed_1_2 := comes_1 fun _ _ _ _ _ _ h hF => ⟨h.2.1, hF⟩
end Jvm.Pilot.@@N@@
namespace Jvm.Pilot.@@N@@
open Jvm Jvm.ClassFile Sem Op Lib Jvm.Free Jvm.Stand Jvm.Pilot.@@N@@.Jvm.D
/-! MADE BY PROGRAM (witnessworld.py) out of the Statement's table words and the real class files: 10 classes; the members and pool entries that the words name. The judged class is class 1, her method 1. -/
namespace start1
open Jvm.ClassFile
def u (s : String) : CpInfo := .utf8 (stringToUtf16 s)
/-- a pool by its gaps: so many unusable entries, then the entry; so many at the end -/
def gap : Nat → List CpInfo → List CpInfo
  | 0, r => r
  | n + 1, r => .unusable :: gap n r
def poolList (es : List (Nat × CpInfo)) (last : Nat) : List CpInfo := es.foldr (fun e r => gap e.1 (e.2 :: r)) (gap last [])
def pool (es : List (Nat × CpInfo)) (last : Nat) : Array CpInfo := ⟨poolList es last⟩
def fileOf (pool : Array CpInfo) (this : Nat) (attrs : Array Attribute := #[]) (ms : Array MethodInfo := #[]) (fl : Nat := 33) (sup : Nat := 0) (ifs : Array Nat := #[]) (fds : Array FieldInfo := #[]) : ClassFile where
  minorVersion := 0
  majorVersion := 65
  constantPool := pool
  accessFlags := fl
  thisClass := this
  superClass := sup
  interfaces := ifs
  fields := fds
  methods := ms
  attributes := attrs
def plain (name : String) (sup : Option ClassId) : Class where
  name := name
  kind := .ordinary
  loader := none
  accessFlags := 33
  super := sup
  interfaces := #[]
  cf := none
  fields := #[]
  methods := #[]
  instanceTypes := #[]
  staticTypes := #[]
  resolved := #[]
  callSites := []
  init := .initialized
  statics := none
  mirror := none

def pool0 : Array CpInfo := pool [(5, u "<init>"), (0, u "()V"), (1, .class_ 10), (1, u "java/lang/Object")] 113

def k0c0 : Code := { maxStack := 0, maxLocals := 1, code := object_method_1_code, exceptionTable := #[], attributes := #[] }
def k0m0 : Method := { name := "<init>", desc := "()V", sig := { parameters := [], returnType := none }, accessFlags := 1, code := some k0c0 }
/-- java/lang/Object -/
def k0 : Class := { plain "java/lang/Object" none with
  accessFlags := 33
  interfaces := #[]
  cf := some (fileOf pool0 8 #[] #[{ accessFlags := 1, nameIndex := 5, descriptorIndex := 6, attributes := #[] }] 33 0 #[] #[])
  fields := #[]
  methods := #[k0m0]
  instanceTypes := #[]
  staticTypes := #[]
  resolved := Array.replicate 124 none
  statics := none }

def pool1 : Array CpInfo := pool [(2, .class_ 4), (1, u "java/lang/Object"), (0, u "<init>"), (0, u "()V"), (0, .integer 2147483647), (2, .long 9223372036854775807), (1, .class_ 13), (0, u "com/example/net_weight/netweight/core/index/CollectionStatistics"), (0, .methodref 12 15), (0, .nameAndType 5 16), (0, u "(IIJ)V"), (0, .methodref 12 18), (0, .nameAndType 19 20), (0, u "averageDocumentLength"), (0, u "()D"), (0, .long 9007199254740991), (1, .long 1048575), (1, .long 1048576), (1, .class_ 28), (0, u "com/example/net_weight/netweight/core/index/CollectionStatisticsAverageDocumentLengthPinLaw"), (2, u "law"), (0, u "(IIJII)Z")] 3

def k1m0 : Method := { name := "<init>", desc := "()V", sig := { parameters := [], returnType := none }, accessFlags := 1, code := none }
def k1c1 : Code := { maxStack := 6, maxLocals := 19, code := code, exceptionTable := #[], attributes := #[] }
def k1m1 : Method := { name := "law", desc := "(IIJII)Z", sig := { parameters := [.int, .int, .long, .int, .int], returnType := some .boolean }, accessFlags := 9, code := some k1c1 }
/-- com/example/net_weight/netweight/core/index/CollectionStatisticsAverageDocumentLengthPinLaw -/
def k1 : Class := { plain "com/example/net_weight/netweight/core/index/CollectionStatisticsAverageDocumentLengthPinLaw" (some 0) with
  accessFlags := 49
  interfaces := #[]
  cf := some (fileOf pool1 27 #[] #[{ accessFlags := 1, nameIndex := 5, descriptorIndex := 6, attributes := #[] }, { accessFlags := 9, nameIndex := 31, descriptorIndex := 32, attributes := #[] }] 49 2 #[] #[])
  fields := #[]
  methods := #[k1m0, k1m1]
  instanceTypes := #[]
  staticTypes := #[]
  resolved := Array.replicate 36 none
  statics := none }

def pool2 : Array CpInfo := pool [(1, .methodref 2 3), (0, .class_ 4), (0, .nameAndType 5 6), (0, u "java/lang/Object"), (0, u "<init>"), (0, u "()V"), (0, .class_ 8), (0, u "java/lang/Record")] 13

def k2c0 : Code := { maxStack := 1, maxLocals := 1, code := jdk_30_method_1_code, exceptionTable := #[], attributes := #[] }
def k2m0 : Method := { name := "<init>", desc := "()V", sig := { parameters := [], returnType := none }, accessFlags := 4, code := some k2c0 }
/-- java/lang/Record -/
def k2 : Class := { plain "java/lang/Record" (some 0) with
  accessFlags := 1057
  interfaces := #[]
  cf := some (fileOf pool2 7 #[] #[{ accessFlags := 4, nameIndex := 5, descriptorIndex := 6, attributes := #[] }] 1057 2 #[] #[])
  fields := #[]
  methods := #[k2m0]
  instanceTypes := #[]
  staticTypes := #[]
  resolved := Array.replicate 22 none
  statics := none }

def pool3 : Array CpInfo := pool [(1, .methodref 2 3), (0, .class_ 4), (0, .nameAndType 5 6), (0, u "java/lang/Record"), (0, u "<init>"), (0, u "()V"), (9, .fieldref 17 18), (0, .class_ 19), (0, .nameAndType 20 21), (0, u "com/example/net_weight/netweight/core/index/CollectionStatistics"), (0, u "documents"), (0, u "I"), (0, .fieldref 17 23), (0, .nameAndType 24 21), (0, u "terms"), (0, .fieldref 17 26), (0, .nameAndType 27 28), (0, u "tokens"), (0, u "J"), (12, u "(IIJ)V"), (4, u "averageDocumentLength"), (0, u "()D")] 34

def k3c0 : Code := { maxStack := 6, maxLocals := 5, code := prog_6_method_1_code, exceptionTable := #[], attributes := #[] }
def k3m0 : Method := { name := "<init>", desc := "(IIJ)V", sig := { parameters := [.int, .int, .long], returnType := none }, accessFlags := 1, code := some k3c0 }
def k3c1 : Code := { maxStack := 4, maxLocals := 1, code := prog_6_method_2_code, exceptionTable := #[], attributes := #[] }
def k3m1 : Method := { name := "averageDocumentLength", desc := "()D", sig := { parameters := [], returnType := some .double }, accessFlags := 1, code := some k3c1 }
/-- com/example/net_weight/netweight/core/index/CollectionStatistics -/
def k3 : Class := { plain "com/example/net_weight/netweight/core/index/CollectionStatistics" (some 2) with
  accessFlags := 49
  interfaces := #[]
  cf := some (fileOf pool3 17 #[] #[{ accessFlags := 1, nameIndex := 5, descriptorIndex := 41, attributes := #[] }, { accessFlags := 1, nameIndex := 46, descriptorIndex := 47, attributes := #[] }] 49 2 #[] #[{ accessFlags := 18, nameIndex := 20, descriptorIndex := 21, attributes := #[] }, { accessFlags := 18, nameIndex := 24, descriptorIndex := 21, attributes := #[] }, { accessFlags := 18, nameIndex := 27, descriptorIndex := 28, attributes := #[] }])
  fields := #[{ name := "documents", type := .int, accessFlags := 18, slot := 0, constantValue := 0 }, { name := "terms", type := .int, accessFlags := 18, slot := 1, constantValue := 0 }, { name := "tokens", type := .long, accessFlags := 18, slot := 2, constantValue := 0 }]
  methods := #[k3m0, k3m1]
  instanceTypes := #[.int, .int, .long]
  staticTypes := #[]
  resolved := Array.replicate 82 none
  statics := none }

def pool4 : Array CpInfo := pool [(1, u "java/lang/Cloneable"), (0, .class_ 1), (0, u "java/lang/Object"), (0, .class_ 3)] 3

/-- java/lang/Cloneable -/
def k4 : Class := { plain "java/lang/Cloneable" (some 0) with
  accessFlags := 1537
  interfaces := #[]
  cf := some (fileOf pool4 2 #[] #[] 1537 4 #[] #[])
  fields := #[]
  methods := #[]
  instanceTypes := #[]
  staticTypes := #[]
  resolved := Array.replicate 8 none
  statics := none }

def pool5 : Array CpInfo := pool [(1, u "java/io/Serializable"), (0, .class_ 1), (0, u "java/lang/Object"), (0, .class_ 3)] 3

/-- java/io/Serializable -/
def k5 : Class := { plain "java/io/Serializable" (some 0) with
  accessFlags := 1537
  interfaces := #[]
  cf := some (fileOf pool5 2 #[] #[] 1537 4 #[] #[])
  fields := #[]
  methods := #[]
  instanceTypes := #[]
  staticTypes := #[]
  resolved := Array.replicate 8 none
  statics := none }

/-- the primitive byte -/
def k6 : Class := { plain "byte" none with kind := .primitive 'B', accessFlags := 0x411 }
/-- [B -/
def k7 : Class := { plain "[B" (some 0) with kind := .array 6 .byte, interfaces := #[4, 5], accessFlags := 1041 }

/-- the primitive int -/
def k8 : Class := { plain "int" none with kind := .primitive 'I', accessFlags := 0x411 }
/-- [I -/
def k9 : Class := { plain "[I" (some 0) with kind := .array 8 .int, interfaces := #[4, 5], accessFlags := 1041 }

def heap : Heap := #[]
def classes : Array Class := #[k0, k1, k2, k3, k4, k5, k6, k7, k8, k9]
def interned : List (Array UInt16 × Addr) := []
def slotsUsed : Nat := 0
def theMethod : MethodId := ⟨1, 1⟩
def args0 : Array Value := #[.int 3, .int 5, .long 100, .int 2, .int 3]
def aboutOver (below : List Frame) : State where
  vm := { classes := classes, interned := interned.toArray }
  heap := heap
  slotsUsed := slotsUsed
  threads := #[{ frames := .invoking theMethod args0 :: below }]
def below0 : List Frame := [.native { method := ⟨0, 0⟩, args := #[] }]
def about1 : State := aboutOver below0
def p0 : Program := .bare "" "" ""
def e0 : Env := launch0.env 0 0 0
theorem w_frames : about1.frames = Frame.invoking theMethod args0 :: below0 := rfl
set_option maxRecDepth 65536 in
theorem w_args : argsFit about1.vm theMethod args0 = true := by decide +kernel
set_option maxRecDepth 65536 in
theorem w_heap : heapFits about1 = true := by decide +kernel
set_option maxRecDepth 65536 in
theorem w_runnable : about1.curStatus? = some .runnable := by decide +kernel
set_option maxRecDepth 65536 in
theorem w_alone : about1.alone = true := by decide +kernel
set_option maxRecDepth 65536 in
theorem w_named : about1.methodNamed? x = some theMethod := by decide +kernel
set_option maxRecDepth 65536 in
theorem w_hears : about1.hears theMethod below0 = true := by decide +kernel
set_option maxRecDepth 65536 in
theorem w_ripe : about1.ripe theMethod args0 below0 = true := by decide +kernel
theorem w_running : about1.status = .running := rfl
set_option maxRecDepth 65536 in
theorem w_room : about1.hasRoom e0.platform room_1 = true :=
  launch0.hasRoom_least _ room_1 (by decide +kernel) (by decide +kernel) (by decide +kernel) (by decide +kernel) (by decide +kernel) (by decide +kernel)
theorem allAtoms_all (ts : List Jvm.Cond) (a : Array Jvm.Value) (st : Jvm.State) : (allAtoms ts).before a st = ts.all (fun c => c.before a st) := by
  induction ts with
  | nil => rfl
  | cons c t ih =>
    show (Jvm.Cond.and c (allAtoms t)).before a st = _
    rw [Jvm.Cond.before_and, ih, List.all_cons]
def words1 : List Jvm.Cond := Jvm.Cond.code x code maxLocals ret :: tables_1
/-- a 'code' word, met by the world's own term for the bytes: nothing is compared byte by byte -/
theorem code_word {y : MethodName} {bytes : ByteArray} {mx : Nat} {rt : Option FieldType} {a : Array Value} {s : State} {m : MethodId} {meth : Method} {c : Code} (h1 : s.methodNamed? y = some m) (h2 : s.vm.method? m = some meth) (h3 : meth.code = some c) (h4 : c.code = bytes)
    (h5 : (c.maxLocals == mx && c.exceptionTable.isEmpty && decide (c.maxStack ≤ mostOperands) && decide (meth.sig.returnType = rt) && !meth.locks && decide (parseMethodDescriptor y.desc = some meth.sig)) = true) : (Jvm.Cond.code y bytes mx rt).before a s = true := by
  simp only [Bool.and_eq_true, beq_iff_eq, Bool.not_eq_true', decide_eq_true_eq] at h5
  obtain ⟨⟨⟨⟨⟨g1, g2⟩, g3⟩, g4⟩, g5⟩, g6⟩ := h5
  simp [Cond.before, Cond.holds, Cond.value, h1, h2, h3, h4, g1, g2, g3, g4, g5, g6]
def isCode : Jvm.Cond → Bool
  | .code _ _ _ _ => true
  | _ => false
theorem all_split {L : List Jvm.Cond} {P : Jvm.Cond → Bool} (h1 : L.all (fun c => isCode c || P c) = true) (h2 : ∀ c ∈ L.filter isCode, P c = true) : L.all P = true := by
  refine List.all_eq_true.mpr fun c hc => ?_
  have h := List.all_eq_true.mp h1 c hc
  rcases Bool.eq_false_or_eq_true (isCode c) with hi | hi
  · exact h2 c (List.mem_filter.mpr ⟨hc, hi⟩)
  · simpa [hi] using h
set_option maxRecDepth 65536 in
theorem w_c0 : (Jvm.Cond.code x code maxLocals ret).before args0 about1 = true := code_word (m := ⟨1, 1⟩) (meth := k1m1) (c := k1c1) (by decide +kernel) rfl rfl rfl (by decide +kernel)
set_option maxRecDepth 65536 in
theorem w_c1 : (Jvm.Cond.code ({ cls := "com/example/net_weight/netweight/core/index/CollectionStatistics", name := "<init>", desc := "(IIJ)V" } : Jvm.MethodName) prog_6_method_1_code (5 : Nat) (Option.none : Option Jvm.ClassFile.FieldType)).before args0 about1 = true := code_word (m := ⟨3, 0⟩) (meth := k3m0) (c := k3c0) (by decide +kernel) rfl rfl rfl (by decide +kernel)
set_option maxRecDepth 65536 in
theorem w_c2 : (Jvm.Cond.code ({ cls := "java/lang/Record", name := "<init>", desc := "()V" } : Jvm.MethodName) jdk_30_method_1_code (1 : Nat) (Option.none : Option Jvm.ClassFile.FieldType)).before args0 about1 = true := code_word (m := ⟨2, 0⟩) (meth := k2m0) (c := k2c0) (by decide +kernel) rfl rfl rfl (by decide +kernel)
set_option maxRecDepth 65536 in
theorem w_c3 : (Jvm.Cond.code ({ cls := "java/lang/Object", name := "<init>", desc := "()V" } : Jvm.MethodName) object_method_1_code (1 : Nat) (Option.none : Option Jvm.ClassFile.FieldType)).before args0 about1 = true := code_word (m := ⟨0, 0⟩) (meth := k0m0) (c := k0c0) (by decide +kernel) rfl rfl rfl (by decide +kernel)
set_option maxRecDepth 65536 in
theorem w_c4 : (Jvm.Cond.code ({ cls := "com/example/net_weight/netweight/core/index/CollectionStatistics", name := "averageDocumentLength", desc := "()D" } : Jvm.MethodName) prog_6_method_2_code (1 : Nat) (Option.some Jvm.ClassFile.FieldType.double)).before args0 about1 = true := code_word (m := ⟨3, 1⟩) (meth := k3m1) (c := k3c1) (by decide +kernel) rfl rfl rfl (by decide +kernel)
def codes1 : List Jvm.Cond := [Jvm.Cond.code x code maxLocals ret, Jvm.Cond.code ({ cls := "com/example/net_weight/netweight/core/index/CollectionStatistics", name := "<init>", desc := "(IIJ)V" } : Jvm.MethodName) prog_6_method_1_code (5 : Nat) (Option.none : Option Jvm.ClassFile.FieldType), Jvm.Cond.code ({ cls := "java/lang/Record", name := "<init>", desc := "()V" } : Jvm.MethodName) jdk_30_method_1_code (1 : Nat) (Option.none : Option Jvm.ClassFile.FieldType), Jvm.Cond.code ({ cls := "java/lang/Object", name := "<init>", desc := "()V" } : Jvm.MethodName) object_method_1_code (1 : Nat) (Option.none : Option Jvm.ClassFile.FieldType), Jvm.Cond.code ({ cls := "com/example/net_weight/netweight/core/index/CollectionStatistics", name := "averageDocumentLength", desc := "()D" } : Jvm.MethodName) prog_6_method_2_code (1 : Nat) (Option.some Jvm.ClassFile.FieldType.double)]
set_option maxRecDepth 65536 in
theorem codes_eq : words1.filter isCode = codes1 := rfl
theorem w_codes : ∀ c ∈ words1.filter isCode, c.before args0 about1 = true := by
  rw [codes_eq]
  intro c hc
  simp only [codes1, List.mem_cons, List.not_mem_nil, or_false] at hc
  rcases hc with rfl | rfl | rfl | rfl | rfl
  · exact w_c0
  · exact w_c1
  · exact w_c2
  · exact w_c3
  · exact w_c4
set_option maxRecDepth 65536 in
theorem w_t1 : (words1.take 24).all (fun c => isCode c || c.before args0 about1) = true := by decide +kernel
set_option maxRecDepth 65536 in
theorem w_t2 : (words1.drop 24).all (fun c => isCode c || c.before args0 about1) = true := by decide +kernel
theorem w_tables : (allAtoms (Jvm.Cond.code x code maxLocals ret :: tables_1)).before args0 about1 = true := by
  rw [allAtoms_all]
  show words1.all (fun c => c.before args0 about1) = true
  refine all_split ?_ w_codes
  rw [← List.take_append_drop 24 words1, List.all_append, w_t1, w_t2]
  rfl
set_option maxRecDepth 65536 in
theorem w_case : (Jvm.Cond.and given_1 narrow_1).before args0 about1 = true := by decide +kernel
theorem w_applies : (headSpec (Jvm.Cond.code x code maxLocals ret :: tables_1) room_1).applies x e0.platform about1 = true :=
  (Spec.applies_iff w_frames).mpr ⟨w_running, w_runnable, w_alone, w_named, w_hears, w_ripe, w_room, w_tables⟩
theorem atStart : AtStart classFile x code maxLocals ret World_1 tables_1 room_1 Calls_1 rest_1 Pre_1 launch0 p0 e0 about1 theMethod args0 below0 :=
  ⟨lists_1, trivial, launch0.admits_env _ _ _, launch0.least_env, fairChoices_fair.cas, fairChoices_fair.clock, w_frames, w_args, w_heap, w_applies, trivial, trivial, w_case⟩
end start1
theorem witness_1 : WitnessClaimed_1 := ⟨start1.p0, start1.e0, start1.about1, start1.theMethod, start1.args0, start1.below0, start1.atStart⟩
end Jvm.Pilot.@@N@@
