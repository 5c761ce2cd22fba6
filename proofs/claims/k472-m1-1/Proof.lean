import JvmDerived
import JvmDerived.Pilot.@@N@@Statement
import JvmDerived.Pilot.@@N@@Code
set_option linter.unusedVariables false
set_option linter.unusedSimpArgs false
@@BLOCK:NumsL.lean.txt@@
namespace Jvm.RoadKit
open Sem ClassFile Op Lib Jvm.Stand Jvm.Free Jvm.LawKit
section New
variable {p : Program} {l : Launch} {e : Env} {R : Room} {s : State} {m : MethodId} {args : Array Value} {below : List Frame} {meth : Method} {c : Code} {T : State} {locs : List Loc} {cells slots : Nat}
theorem retI (X : Stand p l e R s m args below meth c T locs cells slots) (hx : p.tables.exec = Jvm.exec) {pc : Nat} {Ls : Array Slot} {z : Int32} {rest : List Value} (hret : meth.sig.returnType = some .int) (hd : decode c.code pc = .ok (.ireturn, 1)) {fs : List Frame}
    (hl : ∀ (f : JFrame) (acts : List Action), f.method = m → f.locked = none → f.entered = [] → (doReturn e (T.setTop f) acts (some (.int z))).1 = T.setFrames fs) : Steps p.tables e below (T.setTop (mkF m pc Ls (.int z :: rest))) (T.setFrames fs) := by
  have hm' : T.vm.method? m = some meth := X.method'
  have hn : narrow .int (.int z) = .int z := rfl
  show Steps p.tables e below (T.setTop { method := m, pc := pc, locals := Ls, stack := _ :: rest, locked := none }) _
  jvm_step X.here [X.here.top, hx, hd, hm', hret, hn]
  first | (intro acts; rw [hl _ acts rfl rfl rfl]) | rw [hl _ _ rfl rfl rfl]
  exact Steps.refl _
theorem retRef (X : Stand p l e R s m args below meth c T locs cells slots) (hx : p.tables.exec = Jvm.exec) {pc : Nat} {Ls : Array Slot} {v : Value} {rest : List Value} {ty : FieldType} (hret : meth.sig.returnType = some ty) (hty : ty.isReference = true) (hv : v.isRef = true) (hd : decode c.code pc = .ok (.areturn, 1)) {fs : List Frame}
    (hl : ∀ (f : JFrame) (acts : List Action), f.method = m → f.locked = none → f.entered = [] → (doReturn e (T.setTop f) acts (some v)).1 = T.setFrames fs) : Steps p.tables e below (T.setTop (mkF m pc Ls (v :: rest))) (T.setFrames fs) := by
  have hm' : T.vm.method? m = some meth := X.method'
  show Steps p.tables e below (T.setTop { method := m, pc := pc, locals := Ls, stack := _ :: rest, locked := none }) _
  jvm_step X.here [X.here.top, hx, hd, hm', hret, hty, hv]
  first | (intro acts; rw [hl _ acts rfl rfl rfl]) | rw [hl _ _ rfl rfl rfl]
  exact Steps.refl _
theorem retD (X : Stand p l e R s m args below meth c T locs cells slots) (hx : p.tables.exec = Jvm.exec) {pc : Nat} {Ls : Array Slot} {z : UInt64} {rest : List Value} (hret : meth.sig.returnType = some .double) (hd : decode c.code pc = .ok (.dreturn, 1)) {fs : List Frame}
    (hl : ∀ (f : JFrame) (acts : List Action), f.method = m → f.locked = none → f.entered = [] → (doReturn e (T.setTop f) acts (some (.double z))).1 = T.setFrames fs) : Steps p.tables e below (T.setTop (mkF m pc Ls (.double z :: rest))) (T.setFrames fs) := by
  have hm' : T.vm.method? m = some meth := X.method'
  have hn : narrow .double (.double z) = .double z := rfl
  show Steps p.tables e below (T.setTop { method := m, pc := pc, locals := Ls, stack := _ :: rest, locked := none }) _
  jvm_step X.here [X.here.top, hx, hd, hm', hret, hn]
  first | (intro acts; rw [hl _ acts rfl rfl rfl]) | rw [hl _ _ rfl rfl rfl]
  exact Steps.refl _
end New
end Jvm.RoadKit
namespace Jvm.Pilot.@@N@@
open Jvm Jvm.ClassFile Sem Op Lib Jvm.Free Jvm.Stand Jvm.LawKit Jvm.RoadKit Bundle Jvm.Pilot.@@N@@.Jvm.D
/-- from the state S the run comes to an end of which R speaks -/
abbrev Ends (tb : Tables) (e : Env) (below : List Frame) (S : State) (R : State → Outcome → Prop) : Prop := ∃ t o, Steps tb e below S t ∧ R t o
theorem Ends.st {tb : Tables} {e : Env} {below : List Frame} {S S' : State} {R : State → Outcome → Prop} (h : ∀ t, Steps tb e below S' t → Steps tb e below S t) (k : Ends tb e below S' R) : Ends tb e below S R := by
  obtain ⟨t, o, h1, h2⟩ := k
  exact ⟨t, o, h t h1, h2⟩
theorem pd_0 : parseMethodDescriptor "(I)Z" = some ⟨[.int], some .boolean⟩ := by decide +kernel
theorem pd_1 : parseMethodDescriptor "(ZI)Z" = some ⟨[.boolean, .int], some .boolean⟩ := by decide +kernel
theorem own_ord {t : Term} {args : Array Value} {s : State} {x : Addr} {C n d : String} {k : Int32} (ev : t.eval args s none [] s = some (.ref x)) (h : (Cond.eq (Term.field t C n d) (Term.int k)).value args s none s [] = some true) : s.fieldOf? x C n d = some (.int k) := by
  have e := fld_at (C := C) (n := n) (dd := d) ev
  obtain ⟨u, v, h1, h2, k1, k2⟩ := cmp_v (Or.inl h)
  have hv : v = .int k := (Option.some.inj ((Term.int_eval k).symm.trans h2)).symm
  subst hv
  obtain ⟨z, rfl⟩ := k2
  rw [← e, h1]
  have q := h
  simp only [Cond.value, h1, h2] at q
  have q' : decide (z = k) = true := Option.some.inj q
  rw [of_decide_eq_true q']
theorem own_eqR {a b : Term} {args : Array Value} {s : State} {x : Value} {y : Addr} (ha : a.eval args s none [] s = some x) (hb : b.eval args s none [] s = some (.ref y)) (h : (Cond.eq a b).value args s none s [] = some true) : x = .ref y := by
  cases x <;> simp [Cond.value, ha, hb] at h
  rw [h]
theorem own_some {a b : Term} {args : Array Value} {s : State} (h : (Cond.eq a b).value args s none s [] = some true) : ∃ x, a.eval args s none [] s = some x := by
  obtain ⟨u, v, h1, -⟩ := cmp_v (Or.inl h)
  exact ⟨u, h1⟩
theorem own_len {t : Term} {args : Array Value} {s : State} {x : Addr} {cl : Cell} {ty : FieldType} {k : Int32} (ev : t.eval args s none [] s = some (.ref x)) (A : Arr s s.heap x cl ty) (h : (Cond.eq (Term.length t) (Term.int k)).value args s none s [] = some true) : cl.slots.size < 2 ^ 31 ∧ cl.slots.size.toInt32 = k := by
  have ha := A.fin (Vm.Alike.refl _)
  obtain ⟨u, v, h1, h2, k1, k2⟩ := cmp_v (Or.inl h)
  by_cases hl : cl.slots.size < 2 ^ 31
  · refine ⟨hl, ?_⟩
    have e := len_f (args := args) (first := s) (o := none) (idx := []) ev ha hl
    have hv : v = .int k := (Option.some.inj ((Term.int_eval k).symm.trans h2)).symm
    subst hv
    have hu : u = .int cl.slots.size.toInt32 := Option.some.inj (h1.symm.trans e)
    subst hu
    have q := h
    simp only [Cond.value, h1, h2] at q
    exact of_decide_eq_true (Option.some.inj q)
  · exfalso
    simp [Term.eval, ev, ha, hl] at h1
theorem own_elem {t : Term} {args : Array Value} {s : State} {x : Addr} {cl : Cell} {ty : FieldType} {k : Int32} {b : Term} {y : Addr} (ev : t.eval args s none [] s = some (.ref x)) (A : Arr s s.heap x cl ty) (hb : b.eval args s none [] s = some (.ref y)) (h : (Cond.eq (Term.elem t (Term.int k)) b).value args s none s [] = some true) :
    ¬ (k < 0 ∨ cl.slots.size ≤ k.toNatClampNeg) ∧ cl.slots[k.toNatClampNeg]? = some (.ref y) := by
  obtain ⟨u, hu⟩ := own_some h
  have e := own_eqR hu hb h
  subst e
  exact elem_in hu ev (Term.int_eval k) A.1
theorem own_fref {t : Term} {args : Array Value} {s : State} {x y : Addr} {C n d : String} {b : Term} (ev : t.eval args s none [] s = some (.ref x)) (hb : b.eval args s none [] s = some (.ref y)) (h : (Cond.eq (Term.field t C n d) b).value args s none s [] = some true) : s.fieldOf? x C n d = some (.ref y) := by
  have e := fld_at (C := C) (n := n) (dd := d) ev
  obtain ⟨u, hu⟩ := own_some h
  have q := own_eqR hu hb h
  subst q
  rw [← e, hu]
def f1 (a w : Addr) (c : Int32) : Int32 := if c < 32 then (if c = 9 then 1 else if c = 10 then 1 else if c = 13 then 1 else if a = w then (if c = 0 then 0 else 1) else 0) else if 55295 < c then (if c < 57344 then (if c < 65536 then 0 else if 1114111 < c then 0 else 1) else if 65533 < c then (if c < 65536 then 0 else if 1114111 < c then 0 else 1) else 1) else 1
def f2 (b c : Int32) : Int32 := if c = 0 then 0 else if 31 < c then (if c < 55296 then 1 else if c < 57344 then 0 else if c < 65534 then 1 else if c < 65536 then 0 else if c < 1114112 then 1 else 0) else if b = 0 then (if c = 9 then 1 else if c = 10 then 1 else if c = 13 then 1 else 0) else 1
def g1 (t : Bool) (z : Int) : Int32 := if z < 32 then (if z = 9 then 1 else if z = 10 then 1 else if z = 13 then 1 else if t = true then (if z = 0 then 0 else 1) else 0) else if 55295 < z then (if z < 57344 then (if z < 65536 then 0 else if 1114111 < z then 0 else 1) else if 65533 < z then (if z < 65536 then 0 else if 1114111 < z then 0 else 1) else 1) else 1
def g2 (t : Bool) (z : Int) : Int32 := if z = 0 then 0 else if 31 < z then (if z < 55296 then 1 else if z < 57344 then 0 else if z < 65534 then 1 else if z < 65536 then 0 else if z < 1114112 then 1 else 0) else if t = false then (if z = 9 then 1 else if z = 10 then 1 else if z = 13 then 1 else 0) else 1
set_option maxHeartbeats 4000000 in
theorem own_ints (t : Bool) (z : Int) (hz : 0 ≤ z) : g1 t z = g2 t z := by
  unfold g1 g2
  cases t
  · rw [if_neg (by decide : ¬ false = true), if_pos (rfl : false = false)]
    repeat' split
    all_goals first | rfl | omega
  · rw [if_pos (rfl : true = true), if_neg (by decide : ¬ true = false)]
    repeat' split
    all_goals first | rfl | omega
theorem own_lt (c : Int32) (k : Int32) (n : Int) (h : k.toInt = n) : (c < k) = (c.toInt < n) := by rw [Int32.lt_iff_toInt_lt, h]
theorem own_gt (c : Int32) (k : Int32) (n : Int) (h : k.toInt = n) : (k < c) = (n < c.toInt) := by rw [Int32.lt_iff_toInt_lt, h]
theorem own_eq (c : Int32) (k : Int32) (n : Int) (h : k.toInt = n) : (c = k) = (c.toInt = n) := by rw [← Int32.toInt_inj, h]
theorem own_f1 (a w : Addr) (c : Int32) : f1 a w c = g1 (decide (a = w)) c.toInt := by
  unfold f1 g1
  simp only [decide_eq_true_eq, own_lt c 32 32 (by decide), own_lt c 57344 57344 (by decide), own_lt c 65536 65536 (by decide), own_gt c 55295 55295 (by decide), own_gt c 65533 65533 (by decide), own_gt c 1114111 1114111 (by decide), own_eq c 9 9 (by decide), own_eq c 10 10 (by decide), own_eq c 13 13 (by decide), own_eq c 0 0 (by decide)]
theorem own_f2 (b c : Int32) (t : Bool) (h : (b = 0) = (t = false)) : f2 b c = g2 t c.toInt := by
  unfold f2 g2
  simp only [h, own_lt c 55296 55296 (by decide), own_lt c 57344 57344 (by decide), own_lt c 65534 65534 (by decide), own_lt c 65536 65536 (by decide), own_lt c 1114112 1114112 (by decide), own_gt c 31 31 (by decide), own_eq c 9 9 (by decide), own_eq c 10 10 (by decide), own_eq c 13 13 (by decide), own_eq c 0 0 (by decide)]
theorem own_both (a w : Addr) (b c : Int32) (h : (b = 0 ∧ ¬ a = w) ∨ (¬ b = 0 ∧ a = w)) (hc : 0 ≤ c.toInt) : f1 a w c = f2 b c := by
  rw [own_f1, own_f2 b c (decide (a = w)), own_ints _ _ hc]
  rcases h with ⟨h1, h2⟩ | ⟨h1, h2⟩
  · simp [h1, h2]
  · simp [h1, h2]
def Q1 (Z : State) (a w : Addr) (b : Int32) (h0 : Heap) (n0 : Nat) (v : Option Value) (h : Heap) (L : List Loc) : Prop := v = some (.int (f1 a w b)) ∧ Fr n0 L ∧ h = h0
def Q2 (Z : State) (a b : Int32) (h0 : Heap) (n0 : Nat) (v : Option Value) (h : Heap) (L : List Loc) : Prop := v = some (.int (f2 a b)) ∧ Fr n0 L ∧ h = h0
def Q0 (Z : State)  (h0 : Heap) (n0 : Nat) (v : Option Value) (h : Heap) (L : List Loc) : Prop := v = some (.int 1) ∧ Fr n0 L
theorem d1_0 : decode prog_173_method_8_code 0 = .ok (.iload_n 1, 1) := by decide +kernel
theorem d1_1 : decode prog_173_method_8_code 1 = .ok (.bipush 32, 2) := by decide +kernel
theorem d1_3 : decode prog_173_method_8_code 3 = .ok (.if_icmp .ge 38, 3) := by decide +kernel
theorem d1_6 : decode prog_173_method_8_code 6 = .ok (.iload_n 1, 1) := by decide +kernel
theorem d1_7 : decode prog_173_method_8_code 7 = .ok (.bipush 9, 2) := by decide +kernel
theorem d1_9 : decode prog_173_method_8_code 9 = .ok (.if_icmp .eq 26, 3) := by decide +kernel
theorem d1_12 : decode prog_173_method_8_code 12 = .ok (.iload_n 1, 1) := by decide +kernel
theorem d1_13 : decode prog_173_method_8_code 13 = .ok (.bipush 10, 2) := by decide +kernel
theorem d1_15 : decode prog_173_method_8_code 15 = .ok (.if_icmp .eq 20, 3) := by decide +kernel
theorem d1_18 : decode prog_173_method_8_code 18 = .ok (.iload_n 1, 1) := by decide +kernel
theorem d1_19 : decode prog_173_method_8_code 19 = .ok (.bipush 13, 2) := by decide +kernel
theorem d1_21 : decode prog_173_method_8_code 21 = .ok (.if_icmp .eq 14, 3) := by decide +kernel
theorem d1_24 : decode prog_173_method_8_code 24 = .ok (.aload_n 0, 1) := by decide +kernel
theorem d1_25 : decode prog_173_method_8_code 25 = .ok (.getstatic 7, 3) := by decide +kernel
theorem d1_28 : decode prog_173_method_8_code 28 = .ok (.if_acmp .ne 11, 3) := by decide +kernel
theorem d1_31 : decode prog_173_method_8_code 31 = .ok (.iload_n 1, 1) := by decide +kernel
theorem d1_32 : decode prog_173_method_8_code 32 = .ok (.ifCond .eq 7, 3) := by decide +kernel
theorem d1_35 : decode prog_173_method_8_code 35 = .ok (.iconst 1, 1) := by decide +kernel
theorem d1_36 : decode prog_173_method_8_code 36 = .ok (.goto 4, 3) := by decide +kernel
theorem d1_39 : decode prog_173_method_8_code 39 = .ok (.iconst 0, 1) := by decide +kernel
theorem d1_40 : decode prog_173_method_8_code 40 = .ok (.ireturn, 1) := by decide +kernel
theorem d1_41 : decode prog_173_method_8_code 41 = .ok (.iload_n 1, 1) := by decide +kernel
theorem d1_42 : decode prog_173_method_8_code 42 = .ok (.ldc 62, 2) := by decide +kernel
theorem d1_44 : decode prog_173_method_8_code 44 = .ok (.if_icmp .le 27, 3) := by decide +kernel
theorem d1_47 : decode prog_173_method_8_code 47 = .ok (.iload_n 1, 1) := by decide +kernel
theorem d1_48 : decode prog_173_method_8_code 48 = .ok (.ldc 63, 2) := by decide +kernel
theorem d1_50 : decode prog_173_method_8_code 50 = .ok (.if_icmp .lt 9, 3) := by decide +kernel
theorem d1_53 : decode prog_173_method_8_code 53 = .ok (.iload_n 1, 1) := by decide +kernel
theorem d1_54 : decode prog_173_method_8_code 54 = .ok (.ldc 64, 2) := by decide +kernel
theorem d1_56 : decode prog_173_method_8_code 56 = .ok (.if_icmp .le 15, 3) := by decide +kernel
theorem d1_59 : decode prog_173_method_8_code 59 = .ok (.iload_n 1, 1) := by decide +kernel
theorem d1_60 : decode prog_173_method_8_code 60 = .ok (.ldc 65, 2) := by decide +kernel
theorem d1_62 : decode prog_173_method_8_code 62 = .ok (.if_icmp .lt 13, 3) := by decide +kernel
theorem d1_65 : decode prog_173_method_8_code 65 = .ok (.iload_n 1, 1) := by decide +kernel
theorem d1_66 : decode prog_173_method_8_code 66 = .ok (.ldc 66, 2) := by decide +kernel
theorem d1_68 : decode prog_173_method_8_code 68 = .ok (.if_icmp .gt 7, 3) := by decide +kernel
theorem d1_71 : decode prog_173_method_8_code 71 = .ok (.iconst 1, 1) := by decide +kernel
theorem d1_72 : decode prog_173_method_8_code 72 = .ok (.goto 4, 3) := by decide +kernel
theorem d1_75 : decode prog_173_method_8_code 75 = .ok (.iconst 0, 1) := by decide +kernel
theorem d1_76 : decode prog_173_method_8_code 76 = .ok (.ireturn, 1) := by decide +kernel
theorem pn_1 : plainName "com/example/ruleweave/ruleweave/XmlVersion" = true := by first | (simp [plainName, overriddenIn]; done) | decide +kernel
theorem d2_0 : decode method_2_code 0 = .ok (.iload_n 1, 1) := by decide +kernel
theorem d2_1 : decode method_2_code 1 = .ok (.ifCond .ne 5, 3) := by decide +kernel
theorem d2_4 : decode method_2_code 4 = .ok (.iconst 0, 1) := by decide +kernel
theorem d2_5 : decode method_2_code 5 = .ok (.ireturn, 1) := by decide +kernel
theorem d2_6 : decode method_2_code 6 = .ok (.iload_n 1, 1) := by decide +kernel
theorem d2_7 : decode method_2_code 7 = .ok (.bipush 31, 2) := by decide +kernel
theorem d2_9 : decode method_2_code 9 = .ok (.if_icmp .gt 31, 3) := by decide +kernel
theorem d2_12 : decode method_2_code 12 = .ok (.iload_n 0, 1) := by decide +kernel
theorem d2_13 : decode method_2_code 13 = .ok (.ifCond .ne 21, 3) := by decide +kernel
theorem d2_16 : decode method_2_code 16 = .ok (.iload_n 1, 1) := by decide +kernel
theorem d2_17 : decode method_2_code 17 = .ok (.bipush 9, 2) := by decide +kernel
theorem d2_19 : decode method_2_code 19 = .ok (.if_icmp .eq 15, 3) := by decide +kernel
theorem d2_22 : decode method_2_code 22 = .ok (.iload_n 1, 1) := by decide +kernel
theorem d2_23 : decode method_2_code 23 = .ok (.bipush 10, 2) := by decide +kernel
theorem d2_25 : decode method_2_code 25 = .ok (.if_icmp .eq 9, 3) := by decide +kernel
theorem d2_28 : decode method_2_code 28 = .ok (.iload_n 1, 1) := by decide +kernel
theorem d2_29 : decode method_2_code 29 = .ok (.bipush 13, 2) := by decide +kernel
theorem d2_31 : decode method_2_code 31 = .ok (.if_icmp .ne 7, 3) := by decide +kernel
theorem d2_34 : decode method_2_code 34 = .ok (.iconst 1, 1) := by decide +kernel
theorem d2_35 : decode method_2_code 35 = .ok (.goto 4, 3) := by decide +kernel
theorem d2_38 : decode method_2_code 38 = .ok (.iconst 0, 1) := by decide +kernel
theorem d2_39 : decode method_2_code 39 = .ok (.ireturn, 1) := by decide +kernel
theorem d2_40 : decode method_2_code 40 = .ok (.iload_n 1, 1) := by decide +kernel
theorem d2_41 : decode method_2_code 41 = .ok (.ldc 7, 2) := by decide +kernel
theorem d2_43 : decode method_2_code 43 = .ok (.if_icmp .ge 5, 3) := by decide +kernel
theorem d2_46 : decode method_2_code 46 = .ok (.iconst 1, 1) := by decide +kernel
theorem d2_47 : decode method_2_code 47 = .ok (.ireturn, 1) := by decide +kernel
theorem d2_48 : decode method_2_code 48 = .ok (.iload_n 1, 1) := by decide +kernel
theorem d2_49 : decode method_2_code 49 = .ok (.ldc 8, 2) := by decide +kernel
theorem d2_51 : decode method_2_code 51 = .ok (.if_icmp .ge 5, 3) := by decide +kernel
theorem d2_54 : decode method_2_code 54 = .ok (.iconst 0, 1) := by decide +kernel
theorem d2_55 : decode method_2_code 55 = .ok (.ireturn, 1) := by decide +kernel
theorem d2_56 : decode method_2_code 56 = .ok (.iload_n 1, 1) := by decide +kernel
theorem d2_57 : decode method_2_code 57 = .ok (.ldc 9, 2) := by decide +kernel
theorem d2_59 : decode method_2_code 59 = .ok (.if_icmp .ge 5, 3) := by decide +kernel
theorem d2_62 : decode method_2_code 62 = .ok (.iconst 1, 1) := by decide +kernel
theorem d2_63 : decode method_2_code 63 = .ok (.ireturn, 1) := by decide +kernel
theorem d2_64 : decode method_2_code 64 = .ok (.iload_n 1, 1) := by decide +kernel
theorem d2_65 : decode method_2_code 65 = .ok (.ldc 10, 2) := by decide +kernel
theorem d2_67 : decode method_2_code 67 = .ok (.if_icmp .ge 5, 3) := by decide +kernel
theorem d2_70 : decode method_2_code 70 = .ok (.iconst 0, 1) := by decide +kernel
theorem d2_71 : decode method_2_code 71 = .ok (.ireturn, 1) := by decide +kernel
theorem d2_72 : decode method_2_code 72 = .ok (.iload_n 1, 1) := by decide +kernel
theorem d2_73 : decode method_2_code 73 = .ok (.ldc 11, 2) := by decide +kernel
theorem d2_75 : decode method_2_code 75 = .ok (.if_icmp .ge 7, 3) := by decide +kernel
theorem d2_78 : decode method_2_code 78 = .ok (.iconst 1, 1) := by decide +kernel
theorem d2_79 : decode method_2_code 79 = .ok (.goto 4, 3) := by decide +kernel
theorem d2_82 : decode method_2_code 82 = .ok (.iconst 0, 1) := by decide +kernel
theorem d2_83 : decode method_2_code 83 = .ok (.ireturn, 1) := by decide +kernel
theorem pn_2 : plainName "com/example/ruleweave/ruleweave/XmlVersionHoldsInTextPinLaw" = true := by first | (simp [plainName, overriddenIn]; done) | decide +kernel
theorem pn_0 : plainName "com/example/ruleweave/ruleweave/XmlVersionHoldsInTextPinLaw" = true := by first | (simp [plainName, overriddenIn]; done) | decide +kernel
theorem ef_rm1 (m : MethodId) (x0 : Addr) (x1 : Int32)  : entryFrame m #[(.ref x0), (.int x1)] 2 = mkF m 0 #[.val (.ref x0), .val (.int x1)] [] := by first | (simp [entryFrame, mkF, argsToLocals, Value.category]; done) | rfl
set_option maxRecDepth 65536 in
set_option maxHeartbeats 40000000 in
theorem rm1 (l : Launch) (Z : State) (a0 : Array Value) (hw : ∀ d ∈ tables_1, d.before a0 Z = true) (ws : List Jvm.Cond) (a1 : Addr) (w1 : Addr) (v0 : Int32) (h0 : Heap) (n0 : Nat) (Z0 : n0 ≤ h0.size) (S11 : Sta Z h0 "com/example/ruleweave/ruleweave/XmlVersion" "XML_1_1" "Lcom/example/ruleweave/ruleweave/XmlVersion;" (.ref w1)) :
    MetFree l (⟨"com/example/ruleweave/ruleweave/XmlVersion", "holdsInText", "(I)Z"⟩ : MethodName) (head1 (Jvm.Cond.code (⟨"com/example/ruleweave/ruleweave/XmlVersion", "holdsInText", "(I)Z"⟩ : MethodName) prog_173_method_8_code 2 (some .boolean) :: ws) ({ frames := 0, cells := 0, slots := 0, locals := 0 } : Room)) (fun a U => a = #[(.ref a1), (.int v0)] ∧ Z.Warmed39 U.vm ∧ U.heap = h0) (fun _ _ _ _ _ => True) (fun _ U o U' => ∃ v L, o = .returned v ∧ Q1 Z a1 w1 v0 h0 n0 v U'.heap L ∧ FrameEnd U o U' L ({ frames := 0, cells := 0, slots := 0, locals := 0 } : Room).cells ({ frames := 0, cells := 0, slots := 0, locals := 0 } : Room).slots) := by
  refine MetFree.of_bodySF (plainFor_of_name pn_1) hisR ?_
  intro p e s m args below meth c s₁ Bd hml0 hP hK
  obtain ⟨rfl, hZ, hh⟩ := hP
  have hx := Bd.exec
  have hby := Bd.bytes
  have hml : c.maxLocals = 2 := hml0
  have hown : s.vm.findClass "com/example/ruleweave/ruleweave/XmlVersion" = some m.cls := findClass_of_methodNamed Bd.named
  have hnm := (name_of_methodNamed Bd.named Bd.method).1
  have X0 : Stand p l e ({ frames := 0, cells := 0, slots := 0, locals := 0 } : Room) s m #[(.ref a1), (.int v0)] below meth c s₁ [] 0 0 := Stand.of_body Bd
  have e0 : s₁.heap = h0 := by rw [← hh, Bd.state]; rfl
  have N0 := Fr.nil n0
  refine Ends.st (tb := p.tables) (e := e) (below := below) (S' := s₁.setTop (mkF m 0 #[.val (.ref a1), .val (.int v0)] [])) (fun t k => castTop (ef_rm1 m a1 v0) k) ?_
  refine Ends.st (S' := s₁.setTop (mkF m 1 #[.val (.ref a1), .val (.int v0)] [(.int v0)])) (fun _ k => XS.iloadN X0.here hx rfl (hb hby d1_0) rfl k) ?_
  refine Ends.st (S' := s₁.setTop (mkF m 3 #[.val (.ref a1), .val (.int v0)] [(.int (32 : Int32)), (.int v0)])) (fun _ k => XS.bipush X0.here hx rfl (hb hby d1_1) k) ?_
  by_cases hc1 : v0 < (32 : Int32)
  · refine Ends.st (S' := s₁.setTop (mkF m 6 #[.val (.ref a1), .val (.int v0)] [])) (fun _ k => XS.icmpNo X0.here hx rfl (hb hby d1_3) rfl (tlt hc1).2.1 k) ?_
    refine Ends.st (S' := s₁.setTop (mkF m 7 #[.val (.ref a1), .val (.int v0)] [(.int v0)])) (fun _ k => XS.iloadN X0.here hx rfl (hb hby d1_6) rfl k) ?_
    refine Ends.st (S' := s₁.setTop (mkF m 9 #[.val (.ref a1), .val (.int v0)] [(.int (9 : Int32)), (.int v0)])) (fun _ k => XS.bipush X0.here hx rfl (hb hby d1_7) k) ?_
    by_cases hc2 : v0 = (9 : Int32)
    · refine Ends.st (S' := s₁.setTop (mkF m 35 #[.val (.ref a1), .val (.int v0)] [])) (fun _ k => XS.icmpYes X0.here hx rfl (pc0 := 9) (pc' := 35) rfl (hb hby d1_9) rfl (teq hc2).1 (by decide) (by decide) k) ?_
      refine Ends.st (S' := s₁.setTop (mkF m 36 #[.val (.ref a1), .val (.int v0)] [(.int (1 : Int32))])) (fun _ k => XS.iconst X0.here hx rfl (hb hby d1_35) k) ?_
      refine Ends.st (S' := s₁.setTop (mkF m 40 #[.val (.ref a1), .val (.int v0)] [(.int (1 : Int32))])) (fun _ k => XS.goto X0.here hx rfl (pc0 := 36) (pc' := 40) rfl (hb hby d1_36) (by decide) (by decide) k) ?_
      obtain ⟨fs, hr, hrun, hended, hW, hsame⟩ := X0.leave (v := some (.int (1 : Int32))) (fun h => by rw [Bd.returns] at h; cases h)
      exact ⟨_, _, retN X0 hx (t := .boolean) Bd.returns (by simp) (hb hby d1_40) hr, hrun, hended, _, _, rfl, (by show Q1 Z a1 w1 v0 h0 n0 _ s₁.heap _; rw [e0]; exact ⟨(by simp [f1, hc1, hc2]), N0, rfl⟩), ⟨_, rfl⟩, hW, hsame.mono (by decide) (by decide)⟩
    · refine Ends.st (S' := s₁.setTop (mkF m 12 #[.val (.ref a1), .val (.int v0)] [])) (fun _ k => XS.icmpNo X0.here hx rfl (hb hby d1_9) rfl (feq hc2).1 k) ?_
      refine Ends.st (S' := s₁.setTop (mkF m 13 #[.val (.ref a1), .val (.int v0)] [(.int v0)])) (fun _ k => XS.iloadN X0.here hx rfl (hb hby d1_12) rfl k) ?_
      refine Ends.st (S' := s₁.setTop (mkF m 15 #[.val (.ref a1), .val (.int v0)] [(.int (10 : Int32)), (.int v0)])) (fun _ k => XS.bipush X0.here hx rfl (hb hby d1_13) k) ?_
      by_cases hc3 : v0 = (10 : Int32)
      · refine Ends.st (S' := s₁.setTop (mkF m 35 #[.val (.ref a1), .val (.int v0)] [])) (fun _ k => XS.icmpYes X0.here hx rfl (pc0 := 15) (pc' := 35) rfl (hb hby d1_15) rfl (teq hc3).1 (by decide) (by decide) k) ?_
        refine Ends.st (S' := s₁.setTop (mkF m 36 #[.val (.ref a1), .val (.int v0)] [(.int (1 : Int32))])) (fun _ k => XS.iconst X0.here hx rfl (hb hby d1_35) k) ?_
        refine Ends.st (S' := s₁.setTop (mkF m 40 #[.val (.ref a1), .val (.int v0)] [(.int (1 : Int32))])) (fun _ k => XS.goto X0.here hx rfl (pc0 := 36) (pc' := 40) rfl (hb hby d1_36) (by decide) (by decide) k) ?_
        obtain ⟨fs, hr, hrun, hended, hW, hsame⟩ := X0.leave (v := some (.int (1 : Int32))) (fun h => by rw [Bd.returns] at h; cases h)
        exact ⟨_, _, retN X0 hx (t := .boolean) Bd.returns (by simp) (hb hby d1_40) hr, hrun, hended, _, _, rfl, (by show Q1 Z a1 w1 v0 h0 n0 _ s₁.heap _; rw [e0]; exact ⟨(by simp [f1, hc1, hc2, hc3]), N0, rfl⟩), ⟨_, rfl⟩, hW, hsame.mono (by decide) (by decide)⟩
      · refine Ends.st (S' := s₁.setTop (mkF m 18 #[.val (.ref a1), .val (.int v0)] [])) (fun _ k => XS.icmpNo X0.here hx rfl (hb hby d1_15) rfl (feq hc3).1 k) ?_
        refine Ends.st (S' := s₁.setTop (mkF m 19 #[.val (.ref a1), .val (.int v0)] [(.int v0)])) (fun _ k => XS.iloadN X0.here hx rfl (hb hby d1_18) rfl k) ?_
        refine Ends.st (S' := s₁.setTop (mkF m 21 #[.val (.ref a1), .val (.int v0)] [(.int (13 : Int32)), (.int v0)])) (fun _ k => XS.bipush X0.here hx rfl (hb hby d1_19) k) ?_
        by_cases hc4 : v0 = (13 : Int32)
        · refine Ends.st (S' := s₁.setTop (mkF m 35 #[.val (.ref a1), .val (.int v0)] [])) (fun _ k => XS.icmpYes X0.here hx rfl (pc0 := 21) (pc' := 35) rfl (hb hby d1_21) rfl (teq hc4).1 (by decide) (by decide) k) ?_
          refine Ends.st (S' := s₁.setTop (mkF m 36 #[.val (.ref a1), .val (.int v0)] [(.int (1 : Int32))])) (fun _ k => XS.iconst X0.here hx rfl (hb hby d1_35) k) ?_
          refine Ends.st (S' := s₁.setTop (mkF m 40 #[.val (.ref a1), .val (.int v0)] [(.int (1 : Int32))])) (fun _ k => XS.goto X0.here hx rfl (pc0 := 36) (pc' := 40) rfl (hb hby d1_36) (by decide) (by decide) k) ?_
          obtain ⟨fs, hr, hrun, hended, hW, hsame⟩ := X0.leave (v := some (.int (1 : Int32))) (fun h => by rw [Bd.returns] at h; cases h)
          exact ⟨_, _, retN X0 hx (t := .boolean) Bd.returns (by simp) (hb hby d1_40) hr, hrun, hended, _, _, rfl, (by show Q1 Z a1 w1 v0 h0 n0 _ s₁.heap _; rw [e0]; exact ⟨(by simp [f1, hc1, hc2, hc3, hc4]), N0, rfl⟩), ⟨_, rfl⟩, hW, hsame.mono (by decide) (by decide)⟩
        · refine Ends.st (S' := s₁.setTop (mkF m 24 #[.val (.ref a1), .val (.int v0)] [])) (fun _ k => XS.icmpNo X0.here hx rfl (hb hby d1_21) rfl (feq hc4).1 k) ?_
          refine Ends.st (S' := s₁.setTop (mkF m 25 #[.val (.ref a1), .val (.int v0)] [(.ref a1)])) (fun _ k => XS.aloadN X0.here hx rfl (hb hby d1_24) rfl rfl k) ?_
          obtain ⟨T5, X5, e5, st5⟩ := getS2 X0 hx hZ hown (host := "") (Or.inl (hw _ (List.mem_of_getElem? (i := 23) rfl))) Via.refl e0 S11 (g := (mkF m 25 #[.val (.ref a1), .val (.int v0)] [(.ref a1)])) rfl (hb hby d1_25)
          refine Ends.st (S' := T5.setTop (mkF m 28 #[.val (.ref a1), .val (.int v0)] [(.ref w1), (.ref a1)])) (fun _ k => st5 _ k) ?_
          by_cases hc6 : a1 = w1
          · refine Ends.st (S' := T5.setTop (mkF m 31 #[.val (.ref a1), .val (.int v0)] [])) (fun _ k => Jvm.RoadKit.acmp (g := (mkF m 28 #[.val (.ref a1), .val (.int v0)] [(.ref w1), (.ref a1)])) X5 hx rfl rfl rfl (pc0 := 28) (pc' := 31) (same := true) rfl (hb hby d1_28) rfl (decide_eq_true (congrArg Value.ref hc6)) (by decide) (by decide) k) ?_
            refine Ends.st (S' := T5.setTop (mkF m 32 #[.val (.ref a1), .val (.int v0)] [(.int v0)])) (fun _ k => XS.iloadN X5.here hx rfl (hb hby d1_31) rfl k) ?_
            by_cases hc7 : v0 = (0 : Int32)
            · refine Ends.st (S' := T5.setTop (mkF m 39 #[.val (.ref a1), .val (.int v0)] [])) (fun _ k => XS.ifYes X5.here hx rfl (pc0 := 32) (pc' := 39) rfl (hb hby d1_32) rfl ((if0 _ _).trans (teq hc7).1) (by decide) (by decide) k) ?_
              refine Ends.st (S' := T5.setTop (mkF m 40 #[.val (.ref a1), .val (.int v0)] [(.int (0 : Int32))])) (fun _ k => XS.iconst X5.here hx rfl (hb hby d1_39) k) ?_
              obtain ⟨fs, hr, hrun, hended, hW, hsame⟩ := X5.leave (v := some (.int (0 : Int32))) (fun h => by rw [Bd.returns] at h; cases h)
              exact ⟨_, _, retN X5 hx (t := .boolean) Bd.returns (by simp) (hb hby d1_40) hr, hrun, hended, _, _, rfl, (by show Q1 Z a1 w1 v0 h0 n0 _ T5.heap _; rw [e5]; exact ⟨(by simp [f1, hc1, hc2, hc3, hc4, hc6, hc7]), N0, rfl⟩), ⟨_, rfl⟩, hW, hsame.mono (by decide) (by decide)⟩
            · refine Ends.st (S' := T5.setTop (mkF m 35 #[.val (.ref a1), .val (.int v0)] [])) (fun _ k => XS.ifNo X5.here hx rfl (hb hby d1_32) rfl ((if0 _ _).trans (feq hc7).1) k) ?_
              refine Ends.st (S' := T5.setTop (mkF m 36 #[.val (.ref a1), .val (.int v0)] [(.int (1 : Int32))])) (fun _ k => XS.iconst X5.here hx rfl (hb hby d1_35) k) ?_
              refine Ends.st (S' := T5.setTop (mkF m 40 #[.val (.ref a1), .val (.int v0)] [(.int (1 : Int32))])) (fun _ k => XS.goto X5.here hx rfl (pc0 := 36) (pc' := 40) rfl (hb hby d1_36) (by decide) (by decide) k) ?_
              obtain ⟨fs, hr, hrun, hended, hW, hsame⟩ := X5.leave (v := some (.int (1 : Int32))) (fun h => by rw [Bd.returns] at h; cases h)
              exact ⟨_, _, retN X5 hx (t := .boolean) Bd.returns (by simp) (hb hby d1_40) hr, hrun, hended, _, _, rfl, (by show Q1 Z a1 w1 v0 h0 n0 _ T5.heap _; rw [e5]; exact ⟨(by simp [f1, hc1, hc2, hc3, hc4, hc6, hc7]), N0, rfl⟩), ⟨_, rfl⟩, hW, hsame.mono (by decide) (by decide)⟩
          · refine Ends.st (S' := T5.setTop (mkF m 39 #[.val (.ref a1), .val (.int v0)] [])) (fun _ k => Jvm.RoadKit.acmp (g := (mkF m 28 #[.val (.ref a1), .val (.int v0)] [(.ref w1), (.ref a1)])) X5 hx rfl rfl rfl (pc0 := 28) (pc' := 39) (same := false) rfl (hb hby d1_28) rfl (decide_eq_false fun q => hc6 (Value.ref.inj q)) (by decide) (by decide) k) ?_
            refine Ends.st (S' := T5.setTop (mkF m 40 #[.val (.ref a1), .val (.int v0)] [(.int (0 : Int32))])) (fun _ k => XS.iconst X5.here hx rfl (hb hby d1_39) k) ?_
            obtain ⟨fs, hr, hrun, hended, hW, hsame⟩ := X5.leave (v := some (.int (0 : Int32))) (fun h => by rw [Bd.returns] at h; cases h)
            exact ⟨_, _, retN X5 hx (t := .boolean) Bd.returns (by simp) (hb hby d1_40) hr, hrun, hended, _, _, rfl, (by show Q1 Z a1 w1 v0 h0 n0 _ T5.heap _; rw [e5]; exact ⟨(by simp [f1, hc1, hc2, hc3, hc4, hc6]), N0, rfl⟩), ⟨_, rfl⟩, hW, hsame.mono (by decide) (by decide)⟩
  · refine Ends.st (S' := s₁.setTop (mkF m 41 #[.val (.ref a1), .val (.int v0)] [])) (fun _ k => XS.icmpYes X0.here hx rfl (pc0 := 3) (pc' := 41) rfl (hb hby d1_3) rfl (flt hc1).2.1 (by decide) (by decide) k) ?_
    refine Ends.st (S' := s₁.setTop (mkF m 42 #[.val (.ref a1), .val (.int v0)] [(.int v0)])) (fun _ k => XS.iloadN X0.here hx rfl (hb hby d1_41) rfl k) ?_
    refine Ends.st (S' := s₁.setTop (mkF m 44 #[.val (.ref a1), .val (.int v0)] [(.int (55295 : Int32)), (.int v0)])) (fun _ k => X0.ldcInt hx hown (mvT hZ (hw _ (List.mem_of_getElem? (i := 10) rfl))) (g := (mkF m 42 #[.val (.ref a1), .val (.int v0)] [(.int v0)])) rfl (hb hby d1_42) _ k) ?_
    by_cases hc8 : (55295 : Int32) < v0
    · refine Ends.st (S' := s₁.setTop (mkF m 47 #[.val (.ref a1), .val (.int v0)] [])) (fun _ k => XS.icmpNo X0.here hx rfl (hb hby d1_44) rfl (tlt hc8).2.2.2 k) ?_
      refine Ends.st (S' := s₁.setTop (mkF m 48 #[.val (.ref a1), .val (.int v0)] [(.int v0)])) (fun _ k => XS.iloadN X0.here hx rfl (hb hby d1_47) rfl k) ?_
      refine Ends.st (S' := s₁.setTop (mkF m 50 #[.val (.ref a1), .val (.int v0)] [(.int (57344 : Int32)), (.int v0)])) (fun _ k => X0.ldcInt hx hown (mvT hZ (hw _ (List.mem_of_getElem? (i := 11) rfl))) (g := (mkF m 48 #[.val (.ref a1), .val (.int v0)] [(.int v0)])) rfl (hb hby d1_48) _ k) ?_
      by_cases hc9 : v0 < (57344 : Int32)
      · refine Ends.st (S' := s₁.setTop (mkF m 59 #[.val (.ref a1), .val (.int v0)] [])) (fun _ k => XS.icmpYes X0.here hx rfl (pc0 := 50) (pc' := 59) rfl (hb hby d1_50) rfl (tlt hc9).1 (by decide) (by decide) k) ?_
        refine Ends.st (S' := s₁.setTop (mkF m 60 #[.val (.ref a1), .val (.int v0)] [(.int v0)])) (fun _ k => XS.iloadN X0.here hx rfl (hb hby d1_59) rfl k) ?_
        refine Ends.st (S' := s₁.setTop (mkF m 62 #[.val (.ref a1), .val (.int v0)] [(.int (65536 : Int32)), (.int v0)])) (fun _ k => X0.ldcInt hx hown (mvT hZ (hw _ (List.mem_of_getElem? (i := 25) rfl))) (g := (mkF m 60 #[.val (.ref a1), .val (.int v0)] [(.int v0)])) rfl (hb hby d1_60) _ k) ?_
        by_cases hc10 : v0 < (65536 : Int32)
        · refine Ends.st (S' := s₁.setTop (mkF m 75 #[.val (.ref a1), .val (.int v0)] [])) (fun _ k => XS.icmpYes X0.here hx rfl (pc0 := 62) (pc' := 75) rfl (hb hby d1_62) rfl (tlt hc10).1 (by decide) (by decide) k) ?_
          refine Ends.st (S' := s₁.setTop (mkF m 76 #[.val (.ref a1), .val (.int v0)] [(.int (0 : Int32))])) (fun _ k => XS.iconst X0.here hx rfl (hb hby d1_75) k) ?_
          obtain ⟨fs, hr, hrun, hended, hW, hsame⟩ := X0.leave (v := some (.int (0 : Int32))) (fun h => by rw [Bd.returns] at h; cases h)
          exact ⟨_, _, retN X0 hx (t := .boolean) Bd.returns (by simp) (hb hby d1_76) hr, hrun, hended, _, _, rfl, (by show Q1 Z a1 w1 v0 h0 n0 _ s₁.heap _; rw [e0]; exact ⟨(by simp [f1, hc1, hc8, hc9, hc10]), N0, rfl⟩), ⟨_, rfl⟩, hW, hsame.mono (by decide) (by decide)⟩
        · refine Ends.st (S' := s₁.setTop (mkF m 65 #[.val (.ref a1), .val (.int v0)] [])) (fun _ k => XS.icmpNo X0.here hx rfl (hb hby d1_62) rfl (flt hc10).1 k) ?_
          refine Ends.st (S' := s₁.setTop (mkF m 66 #[.val (.ref a1), .val (.int v0)] [(.int v0)])) (fun _ k => XS.iloadN X0.here hx rfl (hb hby d1_65) rfl k) ?_
          refine Ends.st (S' := s₁.setTop (mkF m 68 #[.val (.ref a1), .val (.int v0)] [(.int (1114111 : Int32)), (.int v0)])) (fun _ k => X0.ldcInt hx hown (mvT hZ (hw _ (List.mem_of_getElem? (i := 26) rfl))) (g := (mkF m 66 #[.val (.ref a1), .val (.int v0)] [(.int v0)])) rfl (hb hby d1_66) _ k) ?_
          by_cases hc11 : (1114111 : Int32) < v0
          · refine Ends.st (S' := s₁.setTop (mkF m 75 #[.val (.ref a1), .val (.int v0)] [])) (fun _ k => XS.icmpYes X0.here hx rfl (pc0 := 68) (pc' := 75) rfl (hb hby d1_68) rfl (tlt hc11).2.2.1 (by decide) (by decide) k) ?_
            refine Ends.st (S' := s₁.setTop (mkF m 76 #[.val (.ref a1), .val (.int v0)] [(.int (0 : Int32))])) (fun _ k => XS.iconst X0.here hx rfl (hb hby d1_75) k) ?_
            obtain ⟨fs, hr, hrun, hended, hW, hsame⟩ := X0.leave (v := some (.int (0 : Int32))) (fun h => by rw [Bd.returns] at h; cases h)
            exact ⟨_, _, retN X0 hx (t := .boolean) Bd.returns (by simp) (hb hby d1_76) hr, hrun, hended, _, _, rfl, (by show Q1 Z a1 w1 v0 h0 n0 _ s₁.heap _; rw [e0]; exact ⟨(by simp [f1, hc1, hc8, hc9, hc10, hc11]), N0, rfl⟩), ⟨_, rfl⟩, hW, hsame.mono (by decide) (by decide)⟩
          · refine Ends.st (S' := s₁.setTop (mkF m 71 #[.val (.ref a1), .val (.int v0)] [])) (fun _ k => XS.icmpNo X0.here hx rfl (hb hby d1_68) rfl (flt hc11).2.2.1 k) ?_
            refine Ends.st (S' := s₁.setTop (mkF m 72 #[.val (.ref a1), .val (.int v0)] [(.int (1 : Int32))])) (fun _ k => XS.iconst X0.here hx rfl (hb hby d1_71) k) ?_
            refine Ends.st (S' := s₁.setTop (mkF m 76 #[.val (.ref a1), .val (.int v0)] [(.int (1 : Int32))])) (fun _ k => XS.goto X0.here hx rfl (pc0 := 72) (pc' := 76) rfl (hb hby d1_72) (by decide) (by decide) k) ?_
            obtain ⟨fs, hr, hrun, hended, hW, hsame⟩ := X0.leave (v := some (.int (1 : Int32))) (fun h => by rw [Bd.returns] at h; cases h)
            exact ⟨_, _, retN X0 hx (t := .boolean) Bd.returns (by simp) (hb hby d1_76) hr, hrun, hended, _, _, rfl, (by show Q1 Z a1 w1 v0 h0 n0 _ s₁.heap _; rw [e0]; exact ⟨(by simp [f1, hc1, hc8, hc9, hc10, hc11]), N0, rfl⟩), ⟨_, rfl⟩, hW, hsame.mono (by decide) (by decide)⟩
      · refine Ends.st (S' := s₁.setTop (mkF m 53 #[.val (.ref a1), .val (.int v0)] [])) (fun _ k => XS.icmpNo X0.here hx rfl (hb hby d1_50) rfl (flt hc9).1 k) ?_
        refine Ends.st (S' := s₁.setTop (mkF m 54 #[.val (.ref a1), .val (.int v0)] [(.int v0)])) (fun _ k => XS.iloadN X0.here hx rfl (hb hby d1_53) rfl k) ?_
        refine Ends.st (S' := s₁.setTop (mkF m 56 #[.val (.ref a1), .val (.int v0)] [(.int (65533 : Int32)), (.int v0)])) (fun _ k => X0.ldcInt hx hown (mvT hZ (hw _ (List.mem_of_getElem? (i := 12) rfl))) (g := (mkF m 54 #[.val (.ref a1), .val (.int v0)] [(.int v0)])) rfl (hb hby d1_54) _ k) ?_
        by_cases hc12 : (65533 : Int32) < v0
        · refine Ends.st (S' := s₁.setTop (mkF m 59 #[.val (.ref a1), .val (.int v0)] [])) (fun _ k => XS.icmpNo X0.here hx rfl (hb hby d1_56) rfl (tlt hc12).2.2.2 k) ?_
          refine Ends.st (S' := s₁.setTop (mkF m 60 #[.val (.ref a1), .val (.int v0)] [(.int v0)])) (fun _ k => XS.iloadN X0.here hx rfl (hb hby d1_59) rfl k) ?_
          refine Ends.st (S' := s₁.setTop (mkF m 62 #[.val (.ref a1), .val (.int v0)] [(.int (65536 : Int32)), (.int v0)])) (fun _ k => X0.ldcInt hx hown (mvT hZ (hw _ (List.mem_of_getElem? (i := 25) rfl))) (g := (mkF m 60 #[.val (.ref a1), .val (.int v0)] [(.int v0)])) rfl (hb hby d1_60) _ k) ?_
          by_cases hc13 : v0 < (65536 : Int32)
          · refine Ends.st (S' := s₁.setTop (mkF m 75 #[.val (.ref a1), .val (.int v0)] [])) (fun _ k => XS.icmpYes X0.here hx rfl (pc0 := 62) (pc' := 75) rfl (hb hby d1_62) rfl (tlt hc13).1 (by decide) (by decide) k) ?_
            refine Ends.st (S' := s₁.setTop (mkF m 76 #[.val (.ref a1), .val (.int v0)] [(.int (0 : Int32))])) (fun _ k => XS.iconst X0.here hx rfl (hb hby d1_75) k) ?_
            obtain ⟨fs, hr, hrun, hended, hW, hsame⟩ := X0.leave (v := some (.int (0 : Int32))) (fun h => by rw [Bd.returns] at h; cases h)
            exact ⟨_, _, retN X0 hx (t := .boolean) Bd.returns (by simp) (hb hby d1_76) hr, hrun, hended, _, _, rfl, (by show Q1 Z a1 w1 v0 h0 n0 _ s₁.heap _; rw [e0]; exact ⟨(by simp [f1, hc1, hc8, hc9, hc12, hc13]), N0, rfl⟩), ⟨_, rfl⟩, hW, hsame.mono (by decide) (by decide)⟩
          · refine Ends.st (S' := s₁.setTop (mkF m 65 #[.val (.ref a1), .val (.int v0)] [])) (fun _ k => XS.icmpNo X0.here hx rfl (hb hby d1_62) rfl (flt hc13).1 k) ?_
            refine Ends.st (S' := s₁.setTop (mkF m 66 #[.val (.ref a1), .val (.int v0)] [(.int v0)])) (fun _ k => XS.iloadN X0.here hx rfl (hb hby d1_65) rfl k) ?_
            refine Ends.st (S' := s₁.setTop (mkF m 68 #[.val (.ref a1), .val (.int v0)] [(.int (1114111 : Int32)), (.int v0)])) (fun _ k => X0.ldcInt hx hown (mvT hZ (hw _ (List.mem_of_getElem? (i := 26) rfl))) (g := (mkF m 66 #[.val (.ref a1), .val (.int v0)] [(.int v0)])) rfl (hb hby d1_66) _ k) ?_
            by_cases hc14 : (1114111 : Int32) < v0
            · refine Ends.st (S' := s₁.setTop (mkF m 75 #[.val (.ref a1), .val (.int v0)] [])) (fun _ k => XS.icmpYes X0.here hx rfl (pc0 := 68) (pc' := 75) rfl (hb hby d1_68) rfl (tlt hc14).2.2.1 (by decide) (by decide) k) ?_
              refine Ends.st (S' := s₁.setTop (mkF m 76 #[.val (.ref a1), .val (.int v0)] [(.int (0 : Int32))])) (fun _ k => XS.iconst X0.here hx rfl (hb hby d1_75) k) ?_
              obtain ⟨fs, hr, hrun, hended, hW, hsame⟩ := X0.leave (v := some (.int (0 : Int32))) (fun h => by rw [Bd.returns] at h; cases h)
              exact ⟨_, _, retN X0 hx (t := .boolean) Bd.returns (by simp) (hb hby d1_76) hr, hrun, hended, _, _, rfl, (by show Q1 Z a1 w1 v0 h0 n0 _ s₁.heap _; rw [e0]; exact ⟨(by simp [f1, hc1, hc8, hc9, hc12, hc13, hc14]), N0, rfl⟩), ⟨_, rfl⟩, hW, hsame.mono (by decide) (by decide)⟩
            · refine Ends.st (S' := s₁.setTop (mkF m 71 #[.val (.ref a1), .val (.int v0)] [])) (fun _ k => XS.icmpNo X0.here hx rfl (hb hby d1_68) rfl (flt hc14).2.2.1 k) ?_
              refine Ends.st (S' := s₁.setTop (mkF m 72 #[.val (.ref a1), .val (.int v0)] [(.int (1 : Int32))])) (fun _ k => XS.iconst X0.here hx rfl (hb hby d1_71) k) ?_
              refine Ends.st (S' := s₁.setTop (mkF m 76 #[.val (.ref a1), .val (.int v0)] [(.int (1 : Int32))])) (fun _ k => XS.goto X0.here hx rfl (pc0 := 72) (pc' := 76) rfl (hb hby d1_72) (by decide) (by decide) k) ?_
              obtain ⟨fs, hr, hrun, hended, hW, hsame⟩ := X0.leave (v := some (.int (1 : Int32))) (fun h => by rw [Bd.returns] at h; cases h)
              exact ⟨_, _, retN X0 hx (t := .boolean) Bd.returns (by simp) (hb hby d1_76) hr, hrun, hended, _, _, rfl, (by show Q1 Z a1 w1 v0 h0 n0 _ s₁.heap _; rw [e0]; exact ⟨(by simp [f1, hc1, hc8, hc9, hc12, hc13, hc14]), N0, rfl⟩), ⟨_, rfl⟩, hW, hsame.mono (by decide) (by decide)⟩
        · refine Ends.st (S' := s₁.setTop (mkF m 71 #[.val (.ref a1), .val (.int v0)] [])) (fun _ k => XS.icmpYes X0.here hx rfl (pc0 := 56) (pc' := 71) rfl (hb hby d1_56) rfl (flt hc12).2.2.2 (by decide) (by decide) k) ?_
          refine Ends.st (S' := s₁.setTop (mkF m 72 #[.val (.ref a1), .val (.int v0)] [(.int (1 : Int32))])) (fun _ k => XS.iconst X0.here hx rfl (hb hby d1_71) k) ?_
          refine Ends.st (S' := s₁.setTop (mkF m 76 #[.val (.ref a1), .val (.int v0)] [(.int (1 : Int32))])) (fun _ k => XS.goto X0.here hx rfl (pc0 := 72) (pc' := 76) rfl (hb hby d1_72) (by decide) (by decide) k) ?_
          obtain ⟨fs, hr, hrun, hended, hW, hsame⟩ := X0.leave (v := some (.int (1 : Int32))) (fun h => by rw [Bd.returns] at h; cases h)
          exact ⟨_, _, retN X0 hx (t := .boolean) Bd.returns (by simp) (hb hby d1_76) hr, hrun, hended, _, _, rfl, (by show Q1 Z a1 w1 v0 h0 n0 _ s₁.heap _; rw [e0]; exact ⟨(by simp [f1, hc1, hc8, hc9, hc12]), N0, rfl⟩), ⟨_, rfl⟩, hW, hsame.mono (by decide) (by decide)⟩
    · refine Ends.st (S' := s₁.setTop (mkF m 71 #[.val (.ref a1), .val (.int v0)] [])) (fun _ k => XS.icmpYes X0.here hx rfl (pc0 := 44) (pc' := 71) rfl (hb hby d1_44) rfl (flt hc8).2.2.2 (by decide) (by decide) k) ?_
      refine Ends.st (S' := s₁.setTop (mkF m 72 #[.val (.ref a1), .val (.int v0)] [(.int (1 : Int32))])) (fun _ k => XS.iconst X0.here hx rfl (hb hby d1_71) k) ?_
      refine Ends.st (S' := s₁.setTop (mkF m 76 #[.val (.ref a1), .val (.int v0)] [(.int (1 : Int32))])) (fun _ k => XS.goto X0.here hx rfl (pc0 := 72) (pc' := 76) rfl (hb hby d1_72) (by decide) (by decide) k) ?_
      obtain ⟨fs, hr, hrun, hended, hW, hsame⟩ := X0.leave (v := some (.int (1 : Int32))) (fun h => by rw [Bd.returns] at h; cases h)
      exact ⟨_, _, retN X0 hx (t := .boolean) Bd.returns (by simp) (hb hby d1_76) hr, hrun, hended, _, _, rfl, (by show Q1 Z a1 w1 v0 h0 n0 _ s₁.heap _; rw [e0]; exact ⟨(by simp [f1, hc1, hc8]), N0, rfl⟩), ⟨_, rfl⟩, hW, hsame.mono (by decide) (by decide)⟩
theorem ef_rm2 (m : MethodId) (x0 : Int32) (x1 : Int32)  : entryFrame m #[(.int x0), (.int x1)] 2 = mkF m 0 #[.val (.int x0), .val (.int x1)] [] := by first | (simp [entryFrame, mkF, argsToLocals, Value.category]; done) | rfl
set_option maxRecDepth 65536 in
set_option maxHeartbeats 40000000 in
theorem rm2 (l : Launch) (Z : State) (a0 : Array Value) (hw : ∀ d ∈ tables_1, d.before a0 Z = true) (ws : List Jvm.Cond) (v0 : Int32) (v1 : Int32) (h0 : Heap) (n0 : Nat) (Z0 : n0 ≤ h0.size) :
    MetFree l (⟨"com/example/ruleweave/ruleweave/XmlVersionHoldsInTextPinLaw", "expected", "(ZI)Z"⟩ : MethodName) (head1 (Jvm.Cond.code (⟨"com/example/ruleweave/ruleweave/XmlVersionHoldsInTextPinLaw", "expected", "(ZI)Z"⟩ : MethodName) method_2_code 2 (some .boolean) :: ws) ({ frames := 0, cells := 0, slots := 0, locals := 0 } : Room)) (fun a U => a = #[(.int v0), (.int v1)] ∧ Z.Warmed39 U.vm ∧ U.heap = h0) (fun _ _ _ _ _ => True) (fun _ U o U' => ∃ v L, o = .returned v ∧ Q2 Z v0 v1 h0 n0 v U'.heap L ∧ FrameEnd U o U' L ({ frames := 0, cells := 0, slots := 0, locals := 0 } : Room).cells ({ frames := 0, cells := 0, slots := 0, locals := 0 } : Room).slots) := by
  refine MetFree.of_bodySF (plainFor_of_name pn_2) hisR ?_
  intro p e s m args below meth c s₁ Bd hml0 hP hK
  obtain ⟨rfl, hZ, hh⟩ := hP
  have hx := Bd.exec
  have hby := Bd.bytes
  have hml : c.maxLocals = 2 := hml0
  have hown : s.vm.findClass "com/example/ruleweave/ruleweave/XmlVersionHoldsInTextPinLaw" = some m.cls := findClass_of_methodNamed Bd.named
  have hnm := (name_of_methodNamed Bd.named Bd.method).1
  have X0 : Stand p l e ({ frames := 0, cells := 0, slots := 0, locals := 0 } : Room) s m #[(.int v0), (.int v1)] below meth c s₁ [] 0 0 := Stand.of_body Bd
  have e0 : s₁.heap = h0 := by rw [← hh, Bd.state]; rfl
  have N0 := Fr.nil n0
  refine Ends.st (tb := p.tables) (e := e) (below := below) (S' := s₁.setTop (mkF m 0 #[.val (.int v0), .val (.int v1)] [])) (fun t k => castTop (ef_rm2 m v0 v1) k) ?_
  refine Ends.st (S' := s₁.setTop (mkF m 1 #[.val (.int v0), .val (.int v1)] [(.int v1)])) (fun _ k => XS.iloadN X0.here hx rfl (hb hby d2_0) rfl k) ?_
  by_cases hc1 : v1 = (0 : Int32)
  · refine Ends.st (S' := s₁.setTop (mkF m 4 #[.val (.int v0), .val (.int v1)] [])) (fun _ k => XS.ifNo X0.here hx rfl (hb hby d2_1) rfl ((if0 _ _).trans (teq hc1).2) k) ?_
    refine Ends.st (S' := s₁.setTop (mkF m 5 #[.val (.int v0), .val (.int v1)] [(.int (0 : Int32))])) (fun _ k => XS.iconst X0.here hx rfl (hb hby d2_4) k) ?_
    obtain ⟨fs, hr, hrun, hended, hW, hsame⟩ := X0.leave (v := some (.int (0 : Int32))) (fun h => by rw [Bd.returns] at h; cases h)
    exact ⟨_, _, retN X0 hx (t := .boolean) Bd.returns (by simp) (hb hby d2_5) hr, hrun, hended, _, _, rfl, (by show Q2 Z v0 v1 h0 n0 _ s₁.heap _; rw [e0]; exact ⟨(by simp [f2, hc1]), N0, rfl⟩), ⟨_, rfl⟩, hW, hsame.mono (by decide) (by decide)⟩
  · refine Ends.st (S' := s₁.setTop (mkF m 6 #[.val (.int v0), .val (.int v1)] [])) (fun _ k => XS.ifYes X0.here hx rfl (pc0 := 1) (pc' := 6) rfl (hb hby d2_1) rfl ((if0 _ _).trans (feq hc1).2) (by decide) (by decide) k) ?_
    refine Ends.st (S' := s₁.setTop (mkF m 7 #[.val (.int v0), .val (.int v1)] [(.int v1)])) (fun _ k => XS.iloadN X0.here hx rfl (hb hby d2_6) rfl k) ?_
    refine Ends.st (S' := s₁.setTop (mkF m 9 #[.val (.int v0), .val (.int v1)] [(.int (31 : Int32)), (.int v1)])) (fun _ k => XS.bipush X0.here hx rfl (hb hby d2_7) k) ?_
    by_cases hc2 : (31 : Int32) < v1
    · refine Ends.st (S' := s₁.setTop (mkF m 40 #[.val (.int v0), .val (.int v1)] [])) (fun _ k => XS.icmpYes X0.here hx rfl (pc0 := 9) (pc' := 40) rfl (hb hby d2_9) rfl (tlt hc2).2.2.1 (by decide) (by decide) k) ?_
      refine Ends.st (S' := s₁.setTop (mkF m 41 #[.val (.int v0), .val (.int v1)] [(.int v1)])) (fun _ k => XS.iloadN X0.here hx rfl (hb hby d2_40) rfl k) ?_
      refine Ends.st (S' := s₁.setTop (mkF m 43 #[.val (.int v0), .val (.int v1)] [(.int (55296 : Int32)), (.int v1)])) (fun _ k => X0.ldcInt hx hown (mvT hZ (hw _ (List.mem_of_getElem? (i := 17) rfl))) (g := (mkF m 41 #[.val (.int v0), .val (.int v1)] [(.int v1)])) rfl (hb hby d2_41) _ k) ?_
      by_cases hc3 : v1 < (55296 : Int32)
      · refine Ends.st (S' := s₁.setTop (mkF m 46 #[.val (.int v0), .val (.int v1)] [])) (fun _ k => XS.icmpNo X0.here hx rfl (hb hby d2_43) rfl (tlt hc3).2.1 k) ?_
        refine Ends.st (S' := s₁.setTop (mkF m 47 #[.val (.int v0), .val (.int v1)] [(.int (1 : Int32))])) (fun _ k => XS.iconst X0.here hx rfl (hb hby d2_46) k) ?_
        obtain ⟨fs, hr, hrun, hended, hW, hsame⟩ := X0.leave (v := some (.int (1 : Int32))) (fun h => by rw [Bd.returns] at h; cases h)
        exact ⟨_, _, retN X0 hx (t := .boolean) Bd.returns (by simp) (hb hby d2_47) hr, hrun, hended, _, _, rfl, (by show Q2 Z v0 v1 h0 n0 _ s₁.heap _; rw [e0]; exact ⟨(by simp [f2, hc1, hc2, hc3]), N0, rfl⟩), ⟨_, rfl⟩, hW, hsame.mono (by decide) (by decide)⟩
      · refine Ends.st (S' := s₁.setTop (mkF m 48 #[.val (.int v0), .val (.int v1)] [])) (fun _ k => XS.icmpYes X0.here hx rfl (pc0 := 43) (pc' := 48) rfl (hb hby d2_43) rfl (flt hc3).2.1 (by decide) (by decide) k) ?_
        refine Ends.st (S' := s₁.setTop (mkF m 49 #[.val (.int v0), .val (.int v1)] [(.int v1)])) (fun _ k => XS.iloadN X0.here hx rfl (hb hby d2_48) rfl k) ?_
        refine Ends.st (S' := s₁.setTop (mkF m 51 #[.val (.int v0), .val (.int v1)] [(.int (57344 : Int32)), (.int v1)])) (fun _ k => X0.ldcInt hx hown (mvT hZ (hw _ (List.mem_of_getElem? (i := 18) rfl))) (g := (mkF m 49 #[.val (.int v0), .val (.int v1)] [(.int v1)])) rfl (hb hby d2_49) _ k) ?_
        by_cases hc4 : v1 < (57344 : Int32)
        · refine Ends.st (S' := s₁.setTop (mkF m 54 #[.val (.int v0), .val (.int v1)] [])) (fun _ k => XS.icmpNo X0.here hx rfl (hb hby d2_51) rfl (tlt hc4).2.1 k) ?_
          refine Ends.st (S' := s₁.setTop (mkF m 55 #[.val (.int v0), .val (.int v1)] [(.int (0 : Int32))])) (fun _ k => XS.iconst X0.here hx rfl (hb hby d2_54) k) ?_
          obtain ⟨fs, hr, hrun, hended, hW, hsame⟩ := X0.leave (v := some (.int (0 : Int32))) (fun h => by rw [Bd.returns] at h; cases h)
          exact ⟨_, _, retN X0 hx (t := .boolean) Bd.returns (by simp) (hb hby d2_55) hr, hrun, hended, _, _, rfl, (by show Q2 Z v0 v1 h0 n0 _ s₁.heap _; rw [e0]; exact ⟨(by simp [f2, hc1, hc2, hc3, hc4]), N0, rfl⟩), ⟨_, rfl⟩, hW, hsame.mono (by decide) (by decide)⟩
        · refine Ends.st (S' := s₁.setTop (mkF m 56 #[.val (.int v0), .val (.int v1)] [])) (fun _ k => XS.icmpYes X0.here hx rfl (pc0 := 51) (pc' := 56) rfl (hb hby d2_51) rfl (flt hc4).2.1 (by decide) (by decide) k) ?_
          refine Ends.st (S' := s₁.setTop (mkF m 57 #[.val (.int v0), .val (.int v1)] [(.int v1)])) (fun _ k => XS.iloadN X0.here hx rfl (hb hby d2_56) rfl k) ?_
          refine Ends.st (S' := s₁.setTop (mkF m 59 #[.val (.int v0), .val (.int v1)] [(.int (65534 : Int32)), (.int v1)])) (fun _ k => X0.ldcInt hx hown (mvT hZ (hw _ (List.mem_of_getElem? (i := 19) rfl))) (g := (mkF m 57 #[.val (.int v0), .val (.int v1)] [(.int v1)])) rfl (hb hby d2_57) _ k) ?_
          by_cases hc5 : v1 < (65534 : Int32)
          · refine Ends.st (S' := s₁.setTop (mkF m 62 #[.val (.int v0), .val (.int v1)] [])) (fun _ k => XS.icmpNo X0.here hx rfl (hb hby d2_59) rfl (tlt hc5).2.1 k) ?_
            refine Ends.st (S' := s₁.setTop (mkF m 63 #[.val (.int v0), .val (.int v1)] [(.int (1 : Int32))])) (fun _ k => XS.iconst X0.here hx rfl (hb hby d2_62) k) ?_
            obtain ⟨fs, hr, hrun, hended, hW, hsame⟩ := X0.leave (v := some (.int (1 : Int32))) (fun h => by rw [Bd.returns] at h; cases h)
            exact ⟨_, _, retN X0 hx (t := .boolean) Bd.returns (by simp) (hb hby d2_63) hr, hrun, hended, _, _, rfl, (by show Q2 Z v0 v1 h0 n0 _ s₁.heap _; rw [e0]; exact ⟨(by simp [f2, hc1, hc2, hc3, hc4, hc5]), N0, rfl⟩), ⟨_, rfl⟩, hW, hsame.mono (by decide) (by decide)⟩
          · refine Ends.st (S' := s₁.setTop (mkF m 64 #[.val (.int v0), .val (.int v1)] [])) (fun _ k => XS.icmpYes X0.here hx rfl (pc0 := 59) (pc' := 64) rfl (hb hby d2_59) rfl (flt hc5).2.1 (by decide) (by decide) k) ?_
            refine Ends.st (S' := s₁.setTop (mkF m 65 #[.val (.int v0), .val (.int v1)] [(.int v1)])) (fun _ k => XS.iloadN X0.here hx rfl (hb hby d2_64) rfl k) ?_
            refine Ends.st (S' := s₁.setTop (mkF m 67 #[.val (.int v0), .val (.int v1)] [(.int (65536 : Int32)), (.int v1)])) (fun _ k => X0.ldcInt hx hown (mvT hZ (hw _ (List.mem_of_getElem? (i := 27) rfl))) (g := (mkF m 65 #[.val (.int v0), .val (.int v1)] [(.int v1)])) rfl (hb hby d2_65) _ k) ?_
            by_cases hc6 : v1 < (65536 : Int32)
            · refine Ends.st (S' := s₁.setTop (mkF m 70 #[.val (.int v0), .val (.int v1)] [])) (fun _ k => XS.icmpNo X0.here hx rfl (hb hby d2_67) rfl (tlt hc6).2.1 k) ?_
              refine Ends.st (S' := s₁.setTop (mkF m 71 #[.val (.int v0), .val (.int v1)] [(.int (0 : Int32))])) (fun _ k => XS.iconst X0.here hx rfl (hb hby d2_70) k) ?_
              obtain ⟨fs, hr, hrun, hended, hW, hsame⟩ := X0.leave (v := some (.int (0 : Int32))) (fun h => by rw [Bd.returns] at h; cases h)
              exact ⟨_, _, retN X0 hx (t := .boolean) Bd.returns (by simp) (hb hby d2_71) hr, hrun, hended, _, _, rfl, (by show Q2 Z v0 v1 h0 n0 _ s₁.heap _; rw [e0]; exact ⟨(by simp [f2, hc1, hc2, hc3, hc4, hc5, hc6]), N0, rfl⟩), ⟨_, rfl⟩, hW, hsame.mono (by decide) (by decide)⟩
            · refine Ends.st (S' := s₁.setTop (mkF m 72 #[.val (.int v0), .val (.int v1)] [])) (fun _ k => XS.icmpYes X0.here hx rfl (pc0 := 67) (pc' := 72) rfl (hb hby d2_67) rfl (flt hc6).2.1 (by decide) (by decide) k) ?_
              refine Ends.st (S' := s₁.setTop (mkF m 73 #[.val (.int v0), .val (.int v1)] [(.int v1)])) (fun _ k => XS.iloadN X0.here hx rfl (hb hby d2_72) rfl k) ?_
              refine Ends.st (S' := s₁.setTop (mkF m 75 #[.val (.int v0), .val (.int v1)] [(.int (1114112 : Int32)), (.int v1)])) (fun _ k => X0.ldcInt hx hown (mvT hZ (hw _ (List.mem_of_getElem? (i := 28) rfl))) (g := (mkF m 73 #[.val (.int v0), .val (.int v1)] [(.int v1)])) rfl (hb hby d2_73) _ k) ?_
              by_cases hc7 : v1 < (1114112 : Int32)
              · refine Ends.st (S' := s₁.setTop (mkF m 78 #[.val (.int v0), .val (.int v1)] [])) (fun _ k => XS.icmpNo X0.here hx rfl (hb hby d2_75) rfl (tlt hc7).2.1 k) ?_
                refine Ends.st (S' := s₁.setTop (mkF m 79 #[.val (.int v0), .val (.int v1)] [(.int (1 : Int32))])) (fun _ k => XS.iconst X0.here hx rfl (hb hby d2_78) k) ?_
                refine Ends.st (S' := s₁.setTop (mkF m 83 #[.val (.int v0), .val (.int v1)] [(.int (1 : Int32))])) (fun _ k => XS.goto X0.here hx rfl (pc0 := 79) (pc' := 83) rfl (hb hby d2_79) (by decide) (by decide) k) ?_
                obtain ⟨fs, hr, hrun, hended, hW, hsame⟩ := X0.leave (v := some (.int (1 : Int32))) (fun h => by rw [Bd.returns] at h; cases h)
                exact ⟨_, _, retN X0 hx (t := .boolean) Bd.returns (by simp) (hb hby d2_83) hr, hrun, hended, _, _, rfl, (by show Q2 Z v0 v1 h0 n0 _ s₁.heap _; rw [e0]; exact ⟨(by simp [f2, hc1, hc2, hc3, hc4, hc5, hc6, hc7]), N0, rfl⟩), ⟨_, rfl⟩, hW, hsame.mono (by decide) (by decide)⟩
              · refine Ends.st (S' := s₁.setTop (mkF m 82 #[.val (.int v0), .val (.int v1)] [])) (fun _ k => XS.icmpYes X0.here hx rfl (pc0 := 75) (pc' := 82) rfl (hb hby d2_75) rfl (flt hc7).2.1 (by decide) (by decide) k) ?_
                refine Ends.st (S' := s₁.setTop (mkF m 83 #[.val (.int v0), .val (.int v1)] [(.int (0 : Int32))])) (fun _ k => XS.iconst X0.here hx rfl (hb hby d2_82) k) ?_
                obtain ⟨fs, hr, hrun, hended, hW, hsame⟩ := X0.leave (v := some (.int (0 : Int32))) (fun h => by rw [Bd.returns] at h; cases h)
                exact ⟨_, _, retN X0 hx (t := .boolean) Bd.returns (by simp) (hb hby d2_83) hr, hrun, hended, _, _, rfl, (by show Q2 Z v0 v1 h0 n0 _ s₁.heap _; rw [e0]; exact ⟨(by simp [f2, hc1, hc2, hc3, hc4, hc5, hc6, hc7]), N0, rfl⟩), ⟨_, rfl⟩, hW, hsame.mono (by decide) (by decide)⟩
    · refine Ends.st (S' := s₁.setTop (mkF m 12 #[.val (.int v0), .val (.int v1)] [])) (fun _ k => XS.icmpNo X0.here hx rfl (hb hby d2_9) rfl (flt hc2).2.2.1 k) ?_
      refine Ends.st (S' := s₁.setTop (mkF m 13 #[.val (.int v0), .val (.int v1)] [(.int v0)])) (fun _ k => XS.iloadN X0.here hx rfl (hb hby d2_12) rfl k) ?_
      by_cases hc8 : v0 = (0 : Int32)
      · refine Ends.st (S' := s₁.setTop (mkF m 16 #[.val (.int v0), .val (.int v1)] [])) (fun _ k => XS.ifNo X0.here hx rfl (hb hby d2_13) rfl ((if0 _ _).trans (teq hc8).2) k) ?_
        refine Ends.st (S' := s₁.setTop (mkF m 17 #[.val (.int v0), .val (.int v1)] [(.int v1)])) (fun _ k => XS.iloadN X0.here hx rfl (hb hby d2_16) rfl k) ?_
        refine Ends.st (S' := s₁.setTop (mkF m 19 #[.val (.int v0), .val (.int v1)] [(.int (9 : Int32)), (.int v1)])) (fun _ k => XS.bipush X0.here hx rfl (hb hby d2_17) k) ?_
        by_cases hc9 : v1 = (9 : Int32)
        · refine Ends.st (S' := s₁.setTop (mkF m 34 #[.val (.int v0), .val (.int v1)] [])) (fun _ k => XS.icmpYes X0.here hx rfl (pc0 := 19) (pc' := 34) rfl (hb hby d2_19) rfl (teq hc9).1 (by decide) (by decide) k) ?_
          refine Ends.st (S' := s₁.setTop (mkF m 35 #[.val (.int v0), .val (.int v1)] [(.int (1 : Int32))])) (fun _ k => XS.iconst X0.here hx rfl (hb hby d2_34) k) ?_
          refine Ends.st (S' := s₁.setTop (mkF m 39 #[.val (.int v0), .val (.int v1)] [(.int (1 : Int32))])) (fun _ k => XS.goto X0.here hx rfl (pc0 := 35) (pc' := 39) rfl (hb hby d2_35) (by decide) (by decide) k) ?_
          obtain ⟨fs, hr, hrun, hended, hW, hsame⟩ := X0.leave (v := some (.int (1 : Int32))) (fun h => by rw [Bd.returns] at h; cases h)
          exact ⟨_, _, retN X0 hx (t := .boolean) Bd.returns (by simp) (hb hby d2_39) hr, hrun, hended, _, _, rfl, (by show Q2 Z v0 v1 h0 n0 _ s₁.heap _; rw [e0]; exact ⟨(by simp [f2, hc1, hc2, hc8, hc9]), N0, rfl⟩), ⟨_, rfl⟩, hW, hsame.mono (by decide) (by decide)⟩
        · refine Ends.st (S' := s₁.setTop (mkF m 22 #[.val (.int v0), .val (.int v1)] [])) (fun _ k => XS.icmpNo X0.here hx rfl (hb hby d2_19) rfl (feq hc9).1 k) ?_
          refine Ends.st (S' := s₁.setTop (mkF m 23 #[.val (.int v0), .val (.int v1)] [(.int v1)])) (fun _ k => XS.iloadN X0.here hx rfl (hb hby d2_22) rfl k) ?_
          refine Ends.st (S' := s₁.setTop (mkF m 25 #[.val (.int v0), .val (.int v1)] [(.int (10 : Int32)), (.int v1)])) (fun _ k => XS.bipush X0.here hx rfl (hb hby d2_23) k) ?_
          by_cases hc10 : v1 = (10 : Int32)
          · refine Ends.st (S' := s₁.setTop (mkF m 34 #[.val (.int v0), .val (.int v1)] [])) (fun _ k => XS.icmpYes X0.here hx rfl (pc0 := 25) (pc' := 34) rfl (hb hby d2_25) rfl (teq hc10).1 (by decide) (by decide) k) ?_
            refine Ends.st (S' := s₁.setTop (mkF m 35 #[.val (.int v0), .val (.int v1)] [(.int (1 : Int32))])) (fun _ k => XS.iconst X0.here hx rfl (hb hby d2_34) k) ?_
            refine Ends.st (S' := s₁.setTop (mkF m 39 #[.val (.int v0), .val (.int v1)] [(.int (1 : Int32))])) (fun _ k => XS.goto X0.here hx rfl (pc0 := 35) (pc' := 39) rfl (hb hby d2_35) (by decide) (by decide) k) ?_
            obtain ⟨fs, hr, hrun, hended, hW, hsame⟩ := X0.leave (v := some (.int (1 : Int32))) (fun h => by rw [Bd.returns] at h; cases h)
            exact ⟨_, _, retN X0 hx (t := .boolean) Bd.returns (by simp) (hb hby d2_39) hr, hrun, hended, _, _, rfl, (by show Q2 Z v0 v1 h0 n0 _ s₁.heap _; rw [e0]; exact ⟨(by simp [f2, hc1, hc2, hc8, hc9, hc10]), N0, rfl⟩), ⟨_, rfl⟩, hW, hsame.mono (by decide) (by decide)⟩
          · refine Ends.st (S' := s₁.setTop (mkF m 28 #[.val (.int v0), .val (.int v1)] [])) (fun _ k => XS.icmpNo X0.here hx rfl (hb hby d2_25) rfl (feq hc10).1 k) ?_
            refine Ends.st (S' := s₁.setTop (mkF m 29 #[.val (.int v0), .val (.int v1)] [(.int v1)])) (fun _ k => XS.iloadN X0.here hx rfl (hb hby d2_28) rfl k) ?_
            refine Ends.st (S' := s₁.setTop (mkF m 31 #[.val (.int v0), .val (.int v1)] [(.int (13 : Int32)), (.int v1)])) (fun _ k => XS.bipush X0.here hx rfl (hb hby d2_29) k) ?_
            by_cases hc11 : v1 = (13 : Int32)
            · refine Ends.st (S' := s₁.setTop (mkF m 34 #[.val (.int v0), .val (.int v1)] [])) (fun _ k => XS.icmpNo X0.here hx rfl (hb hby d2_31) rfl (teq hc11).2 k) ?_
              refine Ends.st (S' := s₁.setTop (mkF m 35 #[.val (.int v0), .val (.int v1)] [(.int (1 : Int32))])) (fun _ k => XS.iconst X0.here hx rfl (hb hby d2_34) k) ?_
              refine Ends.st (S' := s₁.setTop (mkF m 39 #[.val (.int v0), .val (.int v1)] [(.int (1 : Int32))])) (fun _ k => XS.goto X0.here hx rfl (pc0 := 35) (pc' := 39) rfl (hb hby d2_35) (by decide) (by decide) k) ?_
              obtain ⟨fs, hr, hrun, hended, hW, hsame⟩ := X0.leave (v := some (.int (1 : Int32))) (fun h => by rw [Bd.returns] at h; cases h)
              exact ⟨_, _, retN X0 hx (t := .boolean) Bd.returns (by simp) (hb hby d2_39) hr, hrun, hended, _, _, rfl, (by show Q2 Z v0 v1 h0 n0 _ s₁.heap _; rw [e0]; exact ⟨(by simp [f2, hc1, hc2, hc8, hc9, hc10, hc11]), N0, rfl⟩), ⟨_, rfl⟩, hW, hsame.mono (by decide) (by decide)⟩
            · refine Ends.st (S' := s₁.setTop (mkF m 38 #[.val (.int v0), .val (.int v1)] [])) (fun _ k => XS.icmpYes X0.here hx rfl (pc0 := 31) (pc' := 38) rfl (hb hby d2_31) rfl (feq hc11).2 (by decide) (by decide) k) ?_
              refine Ends.st (S' := s₁.setTop (mkF m 39 #[.val (.int v0), .val (.int v1)] [(.int (0 : Int32))])) (fun _ k => XS.iconst X0.here hx rfl (hb hby d2_38) k) ?_
              obtain ⟨fs, hr, hrun, hended, hW, hsame⟩ := X0.leave (v := some (.int (0 : Int32))) (fun h => by rw [Bd.returns] at h; cases h)
              exact ⟨_, _, retN X0 hx (t := .boolean) Bd.returns (by simp) (hb hby d2_39) hr, hrun, hended, _, _, rfl, (by show Q2 Z v0 v1 h0 n0 _ s₁.heap _; rw [e0]; exact ⟨(by simp [f2, hc1, hc2, hc8, hc9, hc10, hc11]), N0, rfl⟩), ⟨_, rfl⟩, hW, hsame.mono (by decide) (by decide)⟩
      · refine Ends.st (S' := s₁.setTop (mkF m 34 #[.val (.int v0), .val (.int v1)] [])) (fun _ k => XS.ifYes X0.here hx rfl (pc0 := 13) (pc' := 34) rfl (hb hby d2_13) rfl ((if0 _ _).trans (feq hc8).2) (by decide) (by decide) k) ?_
        refine Ends.st (S' := s₁.setTop (mkF m 35 #[.val (.int v0), .val (.int v1)] [(.int (1 : Int32))])) (fun _ k => XS.iconst X0.here hx rfl (hb hby d2_34) k) ?_
        refine Ends.st (S' := s₁.setTop (mkF m 39 #[.val (.int v0), .val (.int v1)] [(.int (1 : Int32))])) (fun _ k => XS.goto X0.here hx rfl (pc0 := 35) (pc' := 39) rfl (hb hby d2_35) (by decide) (by decide) k) ?_
        obtain ⟨fs, hr, hrun, hended, hW, hsame⟩ := X0.leave (v := some (.int (1 : Int32))) (fun h => by rw [Bd.returns] at h; cases h)
        exact ⟨_, _, retN X0 hx (t := .boolean) Bd.returns (by simp) (hb hby d2_39) hr, hrun, hended, _, _, rfl, (by show Q2 Z v0 v1 h0 n0 _ s₁.heap _; rw [e0]; exact ⟨(by simp [f2, hc1, hc2, hc8]), N0, rfl⟩), ⟨_, rfl⟩, hW, hsame.mono (by decide) (by decide)⟩
theorem own_nn0 (x : Int32) : 0 ≤ (x &&& (2147483647 : Int32)).toInt := by have := Jvm.Kit.i32_mask x 2147483647 (k := 31) (by decide) (by decide); omega
theorem own_nn1 (x : Int32) : 0 ≤ (x &&& (255 : Int32)).toInt := by have := Jvm.Kit.i32_mask x 255 (k := 8) (by decide) (by decide); omega
theorem own_nn2 (x : Int32) : 0 ≤ ((55040 : Int32) + (x &&& (4095 : Int32))).toInt := by
  have := Jvm.Kit.i32_mask x 4095 (k := 12) (by decide) (by decide)
  have e : (55040 : Int32).toInt = 55040 := by decide
  rw [Jvm.Kit.i32_add (by omega) (by omega)]; omega
theorem own_nn3 (x : Int32) : 0 ≤ ((65280 : Int32) + (x &&& (131071 : Int32))).toInt := by
  have := Jvm.Kit.i32_mask x 131071 (k := 17) (by decide) (by decide)
  have e : (65280 : Int32).toInt = 65280 := by decide
  rw [Jvm.Kit.i32_add (by omega) (by omega)]; omega
theorem ef_rm0 (m : MethodId) (x0 : Int32) (x1 : Int32) (x2 : Int32)  : entryFrame m #[(.int x0), (.int x1), (.int x2)] maxLocals = mkF m 0 #[.val (.int x0), .val (.int x1), .val (.int x2), .unset, .unset, .unset, .unset] [] := by first | (simp [entryFrame, mkF, argsToLocals, Value.category, maxLocals]; done) | rfl
set_option maxRecDepth 65536 in
set_option maxHeartbeats 40000000 in
theorem rm0 (l : Launch) (Z : State) (a0 : Array Value) (hw : ∀ d ∈ tables_1, d.before a0 Z = true) (ws : List Jvm.Cond) (v0 : Int32) (v1 : Int32) (v2 : Int32) (w0 : Addr) (w1 : Addr) (h0 : Heap) (n0 : Nat) (Z0 : n0 ≤ h0.size) (S11 : Sta Z h0 "com/example/ruleweave/ruleweave/XmlVersion" "XML_1_1" "Lcom/example/ruleweave/ruleweave/XmlVersion;" (.ref w1)) (S10 : Sta Z h0 "com/example/ruleweave/ruleweave/XmlVersion" "XML_1_0" "Lcom/example/ruleweave/ruleweave/XmlVersion;" (.ref w0)) (E11 : Exa Z h0 w1 "com/example/ruleweave/ruleweave/XmlVersion") (E10 : Exa Z h0 w0 "com/example/ruleweave/ruleweave/XmlVersion") (hne : ¬ (w0 = w1)) :
    MetFree l x (head1 (Jvm.Cond.code x code maxLocals ret :: ws) room_1) (fun a U => a = #[(.int v0), (.int v1), (.int v2)] ∧ Z.Warmed39 U.vm ∧ U.heap = h0) (fun _ _ _ _ _ => True) (fun _ U o U' => ∃ v L, o = .returned v ∧ Q0 Z  h0 n0 v U'.heap L ∧ FrameEnd U o U' L room_1.cells room_1.slots) := by
  refine MetFree.of_bodySF (plainFor_of_name pn_0) hisR ?_
  intro p e s m args below meth c s₁ Bd hml0 hP hK
  obtain ⟨rfl, hZ, hh⟩ := hP
  have hx := Bd.exec
  have hby := Bd.bytes
  have hml : c.maxLocals = 7 := hml0
  have hown : s.vm.findClass "com/example/ruleweave/ruleweave/XmlVersionHoldsInTextPinLaw" = some m.cls := findClass_of_methodNamed Bd.named
  have hnm := (name_of_methodNamed Bd.named Bd.method).1
  have X0 : Stand p l e room_1 s m #[(.int v0), (.int v1), (.int v2)] below meth c s₁ [] 0 0 := Stand.of_body Bd
  have e0 : s₁.heap = h0 := by rw [← hh, Bd.state]; rfl
  have N0 := Fr.nil n0
  refine Ends.st (tb := p.tables) (e := e) (below := below) (S' := s₁.setTop (mkF m 0 #[.val (.int v0), .val (.int v1), .val (.int v2), .unset, .unset, .unset, .unset] [])) (fun t k => castTop (ef_rm0 m v0 v1 v2) k) ?_
  refine Ends.st (S' := s₁.setTop (mkF m 1 #[.val (.int v0), .val (.int v1), .val (.int v2), .unset, .unset, .unset, .unset] [(.int v2)])) (fun _ k => XS.iloadN X0.here hx rfl (hb hby at_0) rfl k) ?_
  refine Ends.st (S' := s₁.setTop (mkF m 2 #[.val (.int v0), .val (.int v1), .val (.int v2), .unset, .unset, .unset, .unset] [(.int (1 : Int32)), (.int v2)])) (fun _ k => XS.iconst X0.here hx rfl (hb hby at_1) k) ?_
  refine Ends.st (S' := s₁.setTop (mkF m 3 #[.val (.int v0), .val (.int v1), .val (.int v2), .unset, .unset, .unset, .unset] [(.int (v2 &&& (1 : Int32)))])) (fun _ k => XS.iand X0.here hx rfl (hb hby at_2) rfl k) ?_
  by_cases hc1 : (v2 &&& (1 : Int32)) = (0 : Int32)
  · refine Ends.st (S' := s₁.setTop (mkF m 10 #[.val (.int v0), .val (.int v1), .val (.int v2), .unset, .unset, .unset, .unset] [])) (fun _ k => XS.ifYes X0.here hx rfl (pc0 := 3) (pc' := 10) rfl (hb hby at_3) rfl ((if0 _ _).trans (teq hc1).1) (by decide) (by decide) k) ?_
    refine Ends.st (S' := s₁.setTop (mkF m 11 #[.val (.int v0), .val (.int v1), .val (.int v2), .unset, .unset, .unset, .unset] [(.int (0 : Int32))])) (fun _ k => XS.iconst X0.here hx rfl (hb hby at_10) k) ?_
    refine Ends.st (S' := s₁.setTop (mkF m 12 #[.val (.int v0), .val (.int v1), .val (.int v2), .val (.int (0 : Int32)), .unset, .unset, .unset] [])) (fun _ k => XS.istoreN X0.here hx rfl (hb hby at_11) rfl (l' := #[.val (.int v0), .val (.int v1), .val (.int v2), .val (.int (0 : Int32)), .unset, .unset, .unset]) rfl k) ?_
    refine Ends.st (S' := s₁.setTop (mkF m 13 #[.val (.int v0), .val (.int v1), .val (.int v2), .val (.int (0 : Int32)), .unset, .unset, .unset] [(.int (0 : Int32))])) (fun _ k => XS.iloadN X0.here hx rfl (hb hby at_12) rfl k) ?_
    refine Ends.st (S' := s₁.setTop (mkF m 22 #[.val (.int v0), .val (.int v1), .val (.int v2), .val (.int (0 : Int32)), .unset, .unset, .unset] [])) (fun _ k => XS.ifYes X0.here hx rfl (pc0 := 13) (pc' := 22) rfl (hb hby at_13) rfl ((if0 _ _).trans (teq (by decide : (0 : Int32) = (0 : Int32))).1) (by decide) (by decide) k) ?_
    obtain ⟨T2, X2, e2, st2⟩ := getS2 X0 hx hZ hown (host := "") (Or.inl (hw _ (List.mem_of_getElem? (i := 0) rfl))) Via.refl e0 S10 (g := (mkF m 22 #[.val (.int v0), .val (.int v1), .val (.int v2), .val (.int (0 : Int32)), .unset, .unset, .unset] [])) rfl (hb hby at_22)
    refine Ends.st (S' := T2.setTop (mkF m 25 #[.val (.int v0), .val (.int v1), .val (.int v2), .val (.int (0 : Int32)), .unset, .unset, .unset] [(.ref w0)])) (fun _ k => st2 _ k) ?_
    refine Ends.st (S' := T2.setTop (mkF m 27 #[.val (.int v0), .val (.int v1), .val (.int v2), .val (.int (0 : Int32)), .val (.ref w0), .unset, .unset] [])) (fun _ k => XS.astore X2.here hx rfl (hb hby at_25) rfl rfl (l' := #[.val (.int v0), .val (.int v1), .val (.int v2), .val (.int (0 : Int32)), .val (.ref w0), .unset, .unset]) rfl k) ?_
    refine Ends.st (S' := T2.setTop (mkF m 28 #[.val (.int v0), .val (.int v1), .val (.int v2), .val (.int (0 : Int32)), .val (.ref w0), .unset, .unset] [(.int v1)])) (fun _ k => XS.iloadN X2.here hx rfl (hb hby at_27) rfl k) ?_
    refine Ends.st (S' := T2.setTop (mkF m 29 #[.val (.int v0), .val (.int v1), .val (.int v2), .val (.int (0 : Int32)), .val (.ref w0), .unset, .unset] [(.int (3 : Int32)), (.int v1)])) (fun _ k => XS.iconst X2.here hx rfl (hb hby at_28) k) ?_
    refine Ends.st (S' := T2.setTop (mkF m 30 #[.val (.int v0), .val (.int v1), .val (.int v2), .val (.int (0 : Int32)), .val (.ref w0), .unset, .unset] [(.int (v1 &&& (3 : Int32)))])) (fun _ k => XS.iand X2.here hx rfl (hb hby at_29) rfl k) ?_
    refine Ends.st (S' := T2.setTop (mkF m 32 #[.val (.int v0), .val (.int v1), .val (.int v2), .val (.int (0 : Int32)), .val (.ref w0), .val (.int (v1 &&& (3 : Int32))), .unset] [])) (fun _ k => XS.istore X2.here hx rfl (hb hby at_30) rfl (l' := #[.val (.int v0), .val (.int v1), .val (.int v2), .val (.int (0 : Int32)), .val (.ref w0), .val (.int (v1 &&& (3 : Int32))), .unset]) rfl k) ?_
    refine Ends.st (S' := T2.setTop (mkF m 34 #[.val (.int v0), .val (.int v1), .val (.int v2), .val (.int (0 : Int32)), .val (.ref w0), .val (.int (v1 &&& (3 : Int32))), .unset] [(.int (v1 &&& (3 : Int32)))])) (fun _ k => XS.iload X2.here hx rfl (hb hby at_32) rfl k) ?_
    by_cases hc3 : (v1 &&& (3 : Int32)) = (0 : Int32)
    · refine Ends.st (S' := T2.setTop (mkF m 37 #[.val (.int v0), .val (.int v1), .val (.int v2), .val (.int (0 : Int32)), .val (.ref w0), .val (.int (v1 &&& (3 : Int32))), .unset] [])) (fun _ k => XS.ifNo X2.here hx rfl (hb hby at_34) rfl ((if0 _ _).trans (teq hc3).2) k) ?_
      refine Ends.st (S' := T2.setTop (mkF m 38 #[.val (.int v0), .val (.int v1), .val (.int v2), .val (.int (0 : Int32)), .val (.ref w0), .val (.int (v1 &&& (3 : Int32))), .unset] [(.int v0)])) (fun _ k => XS.iloadN X2.here hx rfl (hb hby at_37) rfl k) ?_
      refine Ends.st (S' := T2.setTop (mkF m 40 #[.val (.int v0), .val (.int v1), .val (.int v2), .val (.int (0 : Int32)), .val (.ref w0), .val (.int (v1 &&& (3 : Int32))), .unset] [(.int (2147483647 : Int32)), (.int v0)])) (fun _ k => X2.ldcInt hx hown (mvT hZ (hw _ (List.mem_of_getElem? (i := 22) rfl))) (g := (mkF m 38 #[.val (.int v0), .val (.int v1), .val (.int v2), .val (.int (0 : Int32)), .val (.ref w0), .val (.int (v1 &&& (3 : Int32))), .unset] [(.int v0)])) rfl (hb hby at_38) _ k) ?_
      refine Ends.st (S' := T2.setTop (mkF m 41 #[.val (.int v0), .val (.int v1), .val (.int v2), .val (.int (0 : Int32)), .val (.ref w0), .val (.int (v1 &&& (3 : Int32))), .unset] [(.int (v0 &&& (2147483647 : Int32)))])) (fun _ k => XS.iand X2.here hx rfl (hb hby at_40) rfl k) ?_
      refine Ends.st (S' := T2.setTop (mkF m 43 #[.val (.int v0), .val (.int v1), .val (.int v2), .val (.int (0 : Int32)), .val (.ref w0), .val (.int (v1 &&& (3 : Int32))), .val (.int (v0 &&& (2147483647 : Int32)))] [])) (fun _ k => XS.istore X2.here hx rfl (hb hby at_41) rfl (l' := #[.val (.int v0), .val (.int v1), .val (.int v2), .val (.int (0 : Int32)), .val (.ref w0), .val (.int (v1 &&& (3 : Int32))), .val (.int (v0 &&& (2147483647 : Int32)))]) rfl k) ?_
      refine Ends.st (S' := T2.setTop (mkF m 90 #[.val (.int v0), .val (.int v1), .val (.int v2), .val (.int (0 : Int32)), .val (.ref w0), .val (.int (v1 &&& (3 : Int32))), .val (.int (v0 &&& (2147483647 : Int32)))] [])) (fun _ k => XS.goto X2.here hx rfl (pc0 := 43) (pc' := 90) rfl (hb hby at_43) (by decide) (by decide) k) ?_
      refine Ends.st (S' := T2.setTop (mkF m 92 #[.val (.int v0), .val (.int v1), .val (.int v2), .val (.int (0 : Int32)), .val (.ref w0), .val (.int (v1 &&& (3 : Int32))), .val (.int (v0 &&& (2147483647 : Int32)))] [(.ref w0)])) (fun _ k => XS.aload X2.here hx rfl (hb hby at_90) rfl rfl k) ?_
      refine Ends.st (S' := T2.setTop (mkF m 94 #[.val (.int v0), .val (.int v1), .val (.int v2), .val (.int (0 : Int32)), .val (.ref w0), .val (.int (v1 &&& (3 : Int32))), .val (.int (v0 &&& (2147483647 : Int32)))] [(.int (v0 &&& (2147483647 : Int32))), (.ref w0)])) (fun _ k => XS.iload X2.here hx rfl (hb hby at_92) rfl k) ?_
      obtain ⟨cq4, kq4, q4a, q4b, q4c⟩ := isOf hZ e2 (E10)
      obtain ⟨_, _, ⟨T4, L4, k4, n4⟩, -, X4, ⟨Lc4, hQ4, l4, y4, z4⟩, st4⟩ := X2.virtualBack hx (y := (⟨"com/example/ruleweave/ruleweave/XmlVersion", "holdsInText", "(I)Z"⟩ : MethodName)) (z := (⟨"com/example/ruleweave/ruleweave/XmlVersion", "holdsInText", "(I)Z"⟩ : MethodName)) hown (mvT hZ (hw _ (List.mem_of_getElem? (i := 5) rfl))) (mvT hZ (hw _ (List.mem_of_getElem? (i := 6) rfl))) (notFace_of_selects (args := #[]) (mvT hZ (hw _ (List.mem_of_getElem? (i := 8) rfl)))) (mvT hZ (hw _ (List.mem_of_getElem? (i := 8) rfl))) (mvT hZ (hw _ (List.mem_of_getElem? (i := 7) rfl))) (by decide) (backOf (W := 0) (rm1 l Z a0 hw [] w0 w1 (v0 &&& (2147483647 : Int32)) h0 n0 Z0 S11) hZ (hw _ (List.mem_of_getElem? (i := 9) rfl)) (hw _ (List.mem_of_getElem? (i := 1) rfl)) (by decide) (by decide)) q4a q4c (g := (mkF m 94 #[.val (.int v0), .val (.int v1), .val (.int v2), .val (.int (0 : Int32)), .val (.ref w0), .val (.int (v1 &&& (3 : Int32))), .val (.int (v0 &&& (2147483647 : Int32)))] [(.int (v0 &&& (2147483647 : Int32))), (.ref w0)])) rfl (by rw [hml]; rfl) (Steps.refl _) (argsL := [(.int (v0 &&& (2147483647 : Int32)))]) (rest := []) (lenOf pd_0 rfl) rfl (by show 2 * 0 + _ ≤ _; exact Nat.le_of_eq rfl) (hb hby at_94) (fun _ _ => ⟨rfl, e2, (by decide : 0 + 0 ≤ _), (by decide : 0 + 0 ≤ _)⟩)
      dsimp only [Pt.U, Pt.locs, Pt.cells, Pt.slots] at X4 l4 y4 z4 st4 hQ4
      subst l4 y4 z4
      obtain ⟨rfl, N4q, e4⟩ := hQ4
      have N4 := Fr.app N0 N4q
      refine Ends.st (S' := T4.setTop (mkF m 97 #[.val (.int v0), .val (.int v1), .val (.int v2), .val (.int (0 : Int32)), .val (.ref w0), .val (.int (v1 &&& (3 : Int32))), .val (.int (v0 &&& (2147483647 : Int32)))] [(.int (f1 w0 w1 (v0 &&& (2147483647 : Int32))))])) (fun _ k => st4.trans k) ?_
      refine Ends.st (S' := T4.setTop (mkF m 98 #[.val (.int v0), .val (.int v1), .val (.int v2), .val (.int (0 : Int32)), .val (.ref w0), .val (.int (v1 &&& (3 : Int32))), .val (.int (v0 &&& (2147483647 : Int32)))] [(.int (0 : Int32)), (.int (f1 w0 w1 (v0 &&& (2147483647 : Int32))))])) (fun _ k => XS.iloadN X4.here hx rfl (hb hby at_97) rfl k) ?_
      refine Ends.st (S' := T4.setTop (mkF m 100 #[.val (.int v0), .val (.int v1), .val (.int v2), .val (.int (0 : Int32)), .val (.ref w0), .val (.int (v1 &&& (3 : Int32))), .val (.int (v0 &&& (2147483647 : Int32)))] [(.int (v0 &&& (2147483647 : Int32))), (.int (0 : Int32)), (.int (f1 w0 w1 (v0 &&& (2147483647 : Int32))))])) (fun _ k => XS.iload X4.here hx rfl (hb hby at_98) rfl k) ?_
      obtain ⟨_, _, ⟨T5, L5, k5, n5⟩, -, X5, ⟨Lc5, hQ5, l5, y5, z5⟩, st5⟩ := Jvm.LawKit.callS X4 hx (y := (⟨"com/example/ruleweave/ruleweave/XmlVersionHoldsInTextPinLaw", "expected", "(ZI)Z"⟩ : MethodName)) hown (mvT hZ (hw _ (List.mem_of_getElem? (i := 13) rfl))) (mvT hZ (hw _ (List.mem_of_getElem? (i := 14) rfl))) (mvT hZ (hw _ (List.mem_of_getElem? (i := 15) rfl))) (mvT hZ (hw _ (List.mem_of_getElem? (i := 16) rfl))) (by decide) (backOf (W := 1) (rm2 l Z a0 hw [] (0 : Int32) (v0 &&& (2147483647 : Int32)) h0 n0 Z0) hZ (hw _ (List.mem_of_getElem? (i := 16) rfl)) (hw _ (List.mem_of_getElem? (i := 15) rfl)) (by decide) (by decide)) (g := (mkF m 100 #[.val (.int v0), .val (.int v1), .val (.int v2), .val (.int (0 : Int32)), .val (.ref w0), .val (.int (v1 &&& (3 : Int32))), .val (.int (v0 &&& (2147483647 : Int32)))] [(.int (v0 &&& (2147483647 : Int32))), (.int (0 : Int32)), (.int (f1 w0 w1 (v0 &&& (2147483647 : Int32))))])) rfl (by rw [hml]; rfl) (argsL := [(.int (0 : Int32)), (.int (v0 &&& (2147483647 : Int32)))]) (rest := [(.int (f1 w0 w1 (v0 &&& (2147483647 : Int32))))]) (lenOf pd_1 rfl) rfl (by show 2 * 0 + _ ≤ _; exact Nat.le_of_eq rfl) (hb hby at_100) (fun _ _ => ⟨rfl, e4, (by decide : 0 + 0 + 0 ≤ _), (by decide : 0 + 0 + 0 ≤ _)⟩)
      dsimp only [Pt.U, Pt.locs, Pt.cells, Pt.slots] at X5 l5 y5 z5 st5 hQ5
      subst l5 y5 z5
      obtain ⟨rfl, N5q, e5⟩ := hQ5
      have N5 := Fr.app N4 N5q
      refine Ends.st (S' := T5.setTop (mkF m 103 #[.val (.int v0), .val (.int v1), .val (.int v2), .val (.int (0 : Int32)), .val (.ref w0), .val (.int (v1 &&& (3 : Int32))), .val (.int (v0 &&& (2147483647 : Int32)))] [(.int (f2 (0 : Int32) (v0 &&& (2147483647 : Int32)))), (.int (f1 w0 w1 (v0 &&& (2147483647 : Int32))))])) (fun _ k => st5 _ k) ?_
      have hb6 : (f1 w0 w1 (v0 &&& (2147483647 : Int32))) = (f2 (0 : Int32) (v0 &&& (2147483647 : Int32))) := own_both _ _ _ _ (Or.inl ⟨rfl, hne⟩) (own_nn0 v0)
      refine Ends.st (S' := T5.setTop (mkF m 106 #[.val (.int v0), .val (.int v1), .val (.int v2), .val (.int (0 : Int32)), .val (.ref w0), .val (.int (v1 &&& (3 : Int32))), .val (.int (v0 &&& (2147483647 : Int32)))] [])) (fun _ k => XS.icmpNo X5.here hx rfl (hb hby at_103) rfl (teq hb6).2 k) ?_
      refine Ends.st (S' := T5.setTop (mkF m 107 #[.val (.int v0), .val (.int v1), .val (.int v2), .val (.int (0 : Int32)), .val (.ref w0), .val (.int (v1 &&& (3 : Int32))), .val (.int (v0 &&& (2147483647 : Int32)))] [(.int (1 : Int32))])) (fun _ k => XS.iconst X5.here hx rfl (hb hby at_106) k) ?_
      refine Ends.st (S' := T5.setTop (mkF m 111 #[.val (.int v0), .val (.int v1), .val (.int v2), .val (.int (0 : Int32)), .val (.ref w0), .val (.int (v1 &&& (3 : Int32))), .val (.int (v0 &&& (2147483647 : Int32)))] [(.int (1 : Int32))])) (fun _ k => XS.goto X5.here hx rfl (pc0 := 107) (pc' := 111) rfl (hb hby at_107) (by decide) (by decide) k) ?_
      obtain ⟨fs, hr, hrun, hended, hW, hsame⟩ := X5.leave (v := some (.int (1 : Int32))) (fun h => by rw [Bd.returns] at h; cases h)
      exact ⟨_, _, retN X5 hx (t := .boolean) Bd.returns (by simp) (hb hby at_111) hr, hrun, hended, _, _, rfl, (by show Q0 Z  h0 n0 _ T5.heap _; rw [e5]; exact ⟨rfl, N5⟩), ⟨_, rfl⟩, hW, hsame.mono (by decide) (by decide)⟩
    · refine Ends.st (S' := T2.setTop (mkF m 46 #[.val (.int v0), .val (.int v1), .val (.int v2), .val (.int (0 : Int32)), .val (.ref w0), .val (.int (v1 &&& (3 : Int32))), .unset] [])) (fun _ k => XS.ifYes X2.here hx rfl (pc0 := 34) (pc' := 46) rfl (hb hby at_34) rfl ((if0 _ _).trans (feq hc3).2) (by decide) (by decide) k) ?_
      refine Ends.st (S' := T2.setTop (mkF m 48 #[.val (.int v0), .val (.int v1), .val (.int v2), .val (.int (0 : Int32)), .val (.ref w0), .val (.int (v1 &&& (3 : Int32))), .unset] [(.int (v1 &&& (3 : Int32)))])) (fun _ k => XS.iload X2.here hx rfl (hb hby at_46) rfl k) ?_
      refine Ends.st (S' := T2.setTop (mkF m 49 #[.val (.int v0), .val (.int v1), .val (.int v2), .val (.int (0 : Int32)), .val (.ref w0), .val (.int (v1 &&& (3 : Int32))), .unset] [(.int (1 : Int32)), (.int (v1 &&& (3 : Int32)))])) (fun _ k => XS.iconst X2.here hx rfl (hb hby at_48) k) ?_
      by_cases hc7 : (v1 &&& (3 : Int32)) = (1 : Int32)
      · refine Ends.st (S' := T2.setTop (mkF m 52 #[.val (.int v0), .val (.int v1), .val (.int v2), .val (.int (0 : Int32)), .val (.ref w0), .val (.int (v1 &&& (3 : Int32))), .unset] [])) (fun _ k => XS.icmpNo X2.here hx rfl (hb hby at_49) rfl (teq hc7).2 k) ?_
        refine Ends.st (S' := T2.setTop (mkF m 53 #[.val (.int v0), .val (.int v1), .val (.int v2), .val (.int (0 : Int32)), .val (.ref w0), .val (.int (v1 &&& (3 : Int32))), .unset] [(.int v0)])) (fun _ k => XS.iloadN X2.here hx rfl (hb hby at_52) rfl k) ?_
        refine Ends.st (S' := T2.setTop (mkF m 56 #[.val (.int v0), .val (.int v1), .val (.int v2), .val (.int (0 : Int32)), .val (.ref w0), .val (.int (v1 &&& (3 : Int32))), .unset] [(.int (255 : Int32)), (.int v0)])) (fun _ k => XS.sipush X2.here hx rfl (hb hby at_53) k) ?_
        refine Ends.st (S' := T2.setTop (mkF m 57 #[.val (.int v0), .val (.int v1), .val (.int v2), .val (.int (0 : Int32)), .val (.ref w0), .val (.int (v1 &&& (3 : Int32))), .unset] [(.int (v0 &&& (255 : Int32)))])) (fun _ k => XS.iand X2.here hx rfl (hb hby at_56) rfl k) ?_
        refine Ends.st (S' := T2.setTop (mkF m 59 #[.val (.int v0), .val (.int v1), .val (.int v2), .val (.int (0 : Int32)), .val (.ref w0), .val (.int (v1 &&& (3 : Int32))), .val (.int (v0 &&& (255 : Int32)))] [])) (fun _ k => XS.istore X2.here hx rfl (hb hby at_57) rfl (l' := #[.val (.int v0), .val (.int v1), .val (.int v2), .val (.int (0 : Int32)), .val (.ref w0), .val (.int (v1 &&& (3 : Int32))), .val (.int (v0 &&& (255 : Int32)))]) rfl k) ?_
        refine Ends.st (S' := T2.setTop (mkF m 90 #[.val (.int v0), .val (.int v1), .val (.int v2), .val (.int (0 : Int32)), .val (.ref w0), .val (.int (v1 &&& (3 : Int32))), .val (.int (v0 &&& (255 : Int32)))] [])) (fun _ k => XS.goto X2.here hx rfl (pc0 := 59) (pc' := 90) rfl (hb hby at_59) (by decide) (by decide) k) ?_
        refine Ends.st (S' := T2.setTop (mkF m 92 #[.val (.int v0), .val (.int v1), .val (.int v2), .val (.int (0 : Int32)), .val (.ref w0), .val (.int (v1 &&& (3 : Int32))), .val (.int (v0 &&& (255 : Int32)))] [(.ref w0)])) (fun _ k => XS.aload X2.here hx rfl (hb hby at_90) rfl rfl k) ?_
        refine Ends.st (S' := T2.setTop (mkF m 94 #[.val (.int v0), .val (.int v1), .val (.int v2), .val (.int (0 : Int32)), .val (.ref w0), .val (.int (v1 &&& (3 : Int32))), .val (.int (v0 &&& (255 : Int32)))] [(.int (v0 &&& (255 : Int32))), (.ref w0)])) (fun _ k => XS.iload X2.here hx rfl (hb hby at_92) rfl k) ?_
        obtain ⟨cq8, kq8, q8a, q8b, q8c⟩ := isOf hZ e2 (E10)
        obtain ⟨_, _, ⟨T8, L8, k8, n8⟩, -, X8, ⟨Lc8, hQ8, l8, y8, z8⟩, st8⟩ := X2.virtualBack hx (y := (⟨"com/example/ruleweave/ruleweave/XmlVersion", "holdsInText", "(I)Z"⟩ : MethodName)) (z := (⟨"com/example/ruleweave/ruleweave/XmlVersion", "holdsInText", "(I)Z"⟩ : MethodName)) hown (mvT hZ (hw _ (List.mem_of_getElem? (i := 5) rfl))) (mvT hZ (hw _ (List.mem_of_getElem? (i := 6) rfl))) (notFace_of_selects (args := #[]) (mvT hZ (hw _ (List.mem_of_getElem? (i := 8) rfl)))) (mvT hZ (hw _ (List.mem_of_getElem? (i := 8) rfl))) (mvT hZ (hw _ (List.mem_of_getElem? (i := 7) rfl))) (by decide) (backOf (W := 0) (rm1 l Z a0 hw [] w0 w1 (v0 &&& (255 : Int32)) h0 n0 Z0 S11) hZ (hw _ (List.mem_of_getElem? (i := 9) rfl)) (hw _ (List.mem_of_getElem? (i := 1) rfl)) (by decide) (by decide)) q8a q8c (g := (mkF m 94 #[.val (.int v0), .val (.int v1), .val (.int v2), .val (.int (0 : Int32)), .val (.ref w0), .val (.int (v1 &&& (3 : Int32))), .val (.int (v0 &&& (255 : Int32)))] [(.int (v0 &&& (255 : Int32))), (.ref w0)])) rfl (by rw [hml]; rfl) (Steps.refl _) (argsL := [(.int (v0 &&& (255 : Int32)))]) (rest := []) (lenOf pd_0 rfl) rfl (by show 2 * 0 + _ ≤ _; exact Nat.le_of_eq rfl) (hb hby at_94) (fun _ _ => ⟨rfl, e2, (by decide : 0 + 0 ≤ _), (by decide : 0 + 0 ≤ _)⟩)
        dsimp only [Pt.U, Pt.locs, Pt.cells, Pt.slots] at X8 l8 y8 z8 st8 hQ8
        subst l8 y8 z8
        obtain ⟨rfl, N8q, e8⟩ := hQ8
        have N8 := Fr.app N0 N8q
        refine Ends.st (S' := T8.setTop (mkF m 97 #[.val (.int v0), .val (.int v1), .val (.int v2), .val (.int (0 : Int32)), .val (.ref w0), .val (.int (v1 &&& (3 : Int32))), .val (.int (v0 &&& (255 : Int32)))] [(.int (f1 w0 w1 (v0 &&& (255 : Int32))))])) (fun _ k => st8.trans k) ?_
        refine Ends.st (S' := T8.setTop (mkF m 98 #[.val (.int v0), .val (.int v1), .val (.int v2), .val (.int (0 : Int32)), .val (.ref w0), .val (.int (v1 &&& (3 : Int32))), .val (.int (v0 &&& (255 : Int32)))] [(.int (0 : Int32)), (.int (f1 w0 w1 (v0 &&& (255 : Int32))))])) (fun _ k => XS.iloadN X8.here hx rfl (hb hby at_97) rfl k) ?_
        refine Ends.st (S' := T8.setTop (mkF m 100 #[.val (.int v0), .val (.int v1), .val (.int v2), .val (.int (0 : Int32)), .val (.ref w0), .val (.int (v1 &&& (3 : Int32))), .val (.int (v0 &&& (255 : Int32)))] [(.int (v0 &&& (255 : Int32))), (.int (0 : Int32)), (.int (f1 w0 w1 (v0 &&& (255 : Int32))))])) (fun _ k => XS.iload X8.here hx rfl (hb hby at_98) rfl k) ?_
        obtain ⟨_, _, ⟨T9, L9, k9, n9⟩, -, X9, ⟨Lc9, hQ9, l9, y9, z9⟩, st9⟩ := Jvm.LawKit.callS X8 hx (y := (⟨"com/example/ruleweave/ruleweave/XmlVersionHoldsInTextPinLaw", "expected", "(ZI)Z"⟩ : MethodName)) hown (mvT hZ (hw _ (List.mem_of_getElem? (i := 13) rfl))) (mvT hZ (hw _ (List.mem_of_getElem? (i := 14) rfl))) (mvT hZ (hw _ (List.mem_of_getElem? (i := 15) rfl))) (mvT hZ (hw _ (List.mem_of_getElem? (i := 16) rfl))) (by decide) (backOf (W := 1) (rm2 l Z a0 hw [] (0 : Int32) (v0 &&& (255 : Int32)) h0 n0 Z0) hZ (hw _ (List.mem_of_getElem? (i := 16) rfl)) (hw _ (List.mem_of_getElem? (i := 15) rfl)) (by decide) (by decide)) (g := (mkF m 100 #[.val (.int v0), .val (.int v1), .val (.int v2), .val (.int (0 : Int32)), .val (.ref w0), .val (.int (v1 &&& (3 : Int32))), .val (.int (v0 &&& (255 : Int32)))] [(.int (v0 &&& (255 : Int32))), (.int (0 : Int32)), (.int (f1 w0 w1 (v0 &&& (255 : Int32))))])) rfl (by rw [hml]; rfl) (argsL := [(.int (0 : Int32)), (.int (v0 &&& (255 : Int32)))]) (rest := [(.int (f1 w0 w1 (v0 &&& (255 : Int32))))]) (lenOf pd_1 rfl) rfl (by show 2 * 0 + _ ≤ _; exact Nat.le_of_eq rfl) (hb hby at_100) (fun _ _ => ⟨rfl, e8, (by decide : 0 + 0 + 0 ≤ _), (by decide : 0 + 0 + 0 ≤ _)⟩)
        dsimp only [Pt.U, Pt.locs, Pt.cells, Pt.slots] at X9 l9 y9 z9 st9 hQ9
        subst l9 y9 z9
        obtain ⟨rfl, N9q, e9⟩ := hQ9
        have N9 := Fr.app N8 N9q
        refine Ends.st (S' := T9.setTop (mkF m 103 #[.val (.int v0), .val (.int v1), .val (.int v2), .val (.int (0 : Int32)), .val (.ref w0), .val (.int (v1 &&& (3 : Int32))), .val (.int (v0 &&& (255 : Int32)))] [(.int (f2 (0 : Int32) (v0 &&& (255 : Int32)))), (.int (f1 w0 w1 (v0 &&& (255 : Int32))))])) (fun _ k => st9 _ k) ?_
        have hb10 : (f1 w0 w1 (v0 &&& (255 : Int32))) = (f2 (0 : Int32) (v0 &&& (255 : Int32))) := own_both _ _ _ _ (Or.inl ⟨rfl, hne⟩) (own_nn1 v0)
        refine Ends.st (S' := T9.setTop (mkF m 106 #[.val (.int v0), .val (.int v1), .val (.int v2), .val (.int (0 : Int32)), .val (.ref w0), .val (.int (v1 &&& (3 : Int32))), .val (.int (v0 &&& (255 : Int32)))] [])) (fun _ k => XS.icmpNo X9.here hx rfl (hb hby at_103) rfl (teq hb10).2 k) ?_
        refine Ends.st (S' := T9.setTop (mkF m 107 #[.val (.int v0), .val (.int v1), .val (.int v2), .val (.int (0 : Int32)), .val (.ref w0), .val (.int (v1 &&& (3 : Int32))), .val (.int (v0 &&& (255 : Int32)))] [(.int (1 : Int32))])) (fun _ k => XS.iconst X9.here hx rfl (hb hby at_106) k) ?_
        refine Ends.st (S' := T9.setTop (mkF m 111 #[.val (.int v0), .val (.int v1), .val (.int v2), .val (.int (0 : Int32)), .val (.ref w0), .val (.int (v1 &&& (3 : Int32))), .val (.int (v0 &&& (255 : Int32)))] [(.int (1 : Int32))])) (fun _ k => XS.goto X9.here hx rfl (pc0 := 107) (pc' := 111) rfl (hb hby at_107) (by decide) (by decide) k) ?_
        obtain ⟨fs, hr, hrun, hended, hW, hsame⟩ := X9.leave (v := some (.int (1 : Int32))) (fun h => by rw [Bd.returns] at h; cases h)
        exact ⟨_, _, retN X9 hx (t := .boolean) Bd.returns (by simp) (hb hby at_111) hr, hrun, hended, _, _, rfl, (by show Q0 Z  h0 n0 _ T9.heap _; rw [e9]; exact ⟨rfl, N9⟩), ⟨_, rfl⟩, hW, hsame.mono (by decide) (by decide)⟩
      · refine Ends.st (S' := T2.setTop (mkF m 62 #[.val (.int v0), .val (.int v1), .val (.int v2), .val (.int (0 : Int32)), .val (.ref w0), .val (.int (v1 &&& (3 : Int32))), .unset] [])) (fun _ k => XS.icmpYes X2.here hx rfl (pc0 := 49) (pc' := 62) rfl (hb hby at_49) rfl (feq hc7).2 (by decide) (by decide) k) ?_
        refine Ends.st (S' := T2.setTop (mkF m 64 #[.val (.int v0), .val (.int v1), .val (.int v2), .val (.int (0 : Int32)), .val (.ref w0), .val (.int (v1 &&& (3 : Int32))), .unset] [(.int (v1 &&& (3 : Int32)))])) (fun _ k => XS.iload X2.here hx rfl (hb hby at_62) rfl k) ?_
        refine Ends.st (S' := T2.setTop (mkF m 65 #[.val (.int v0), .val (.int v1), .val (.int v2), .val (.int (0 : Int32)), .val (.ref w0), .val (.int (v1 &&& (3 : Int32))), .unset] [(.int (2 : Int32)), (.int (v1 &&& (3 : Int32)))])) (fun _ k => XS.iconst X2.here hx rfl (hb hby at_64) k) ?_
        by_cases hc11 : (v1 &&& (3 : Int32)) = (2 : Int32)
        · refine Ends.st (S' := T2.setTop (mkF m 68 #[.val (.int v0), .val (.int v1), .val (.int v2), .val (.int (0 : Int32)), .val (.ref w0), .val (.int (v1 &&& (3 : Int32))), .unset] [])) (fun _ k => XS.icmpNo X2.here hx rfl (hb hby at_65) rfl (teq hc11).2 k) ?_
          refine Ends.st (S' := T2.setTop (mkF m 70 #[.val (.int v0), .val (.int v1), .val (.int v2), .val (.int (0 : Int32)), .val (.ref w0), .val (.int (v1 &&& (3 : Int32))), .unset] [(.int (55040 : Int32))])) (fun _ k => X2.ldcInt hx hown (mvT hZ (hw _ (List.mem_of_getElem? (i := 24) rfl))) (g := (mkF m 68 #[.val (.int v0), .val (.int v1), .val (.int v2), .val (.int (0 : Int32)), .val (.ref w0), .val (.int (v1 &&& (3 : Int32))), .unset] [])) rfl (hb hby at_68) _ k) ?_
          refine Ends.st (S' := T2.setTop (mkF m 71 #[.val (.int v0), .val (.int v1), .val (.int v2), .val (.int (0 : Int32)), .val (.ref w0), .val (.int (v1 &&& (3 : Int32))), .unset] [(.int v0), (.int (55040 : Int32))])) (fun _ k => XS.iloadN X2.here hx rfl (hb hby at_70) rfl k) ?_
          refine Ends.st (S' := T2.setTop (mkF m 74 #[.val (.int v0), .val (.int v1), .val (.int v2), .val (.int (0 : Int32)), .val (.ref w0), .val (.int (v1 &&& (3 : Int32))), .unset] [(.int (4095 : Int32)), (.int v0), (.int (55040 : Int32))])) (fun _ k => XS.sipush X2.here hx rfl (hb hby at_71) k) ?_
          refine Ends.st (S' := T2.setTop (mkF m 75 #[.val (.int v0), .val (.int v1), .val (.int v2), .val (.int (0 : Int32)), .val (.ref w0), .val (.int (v1 &&& (3 : Int32))), .unset] [(.int (v0 &&& (4095 : Int32))), (.int (55040 : Int32))])) (fun _ k => XS.iand X2.here hx rfl (hb hby at_74) rfl k) ?_
          refine Ends.st (S' := T2.setTop (mkF m 76 #[.val (.int v0), .val (.int v1), .val (.int v2), .val (.int (0 : Int32)), .val (.ref w0), .val (.int (v1 &&& (3 : Int32))), .unset] [(.int ((55040 : Int32) + (v0 &&& (4095 : Int32))))])) (fun _ k => XS.iadd X2.here hx rfl (hb hby at_75) rfl k) ?_
          refine Ends.st (S' := T2.setTop (mkF m 78 #[.val (.int v0), .val (.int v1), .val (.int v2), .val (.int (0 : Int32)), .val (.ref w0), .val (.int (v1 &&& (3 : Int32))), .val (.int ((55040 : Int32) + (v0 &&& (4095 : Int32))))] [])) (fun _ k => XS.istore X2.here hx rfl (hb hby at_76) rfl (l' := #[.val (.int v0), .val (.int v1), .val (.int v2), .val (.int (0 : Int32)), .val (.ref w0), .val (.int (v1 &&& (3 : Int32))), .val (.int ((55040 : Int32) + (v0 &&& (4095 : Int32))))]) rfl k) ?_
          refine Ends.st (S' := T2.setTop (mkF m 90 #[.val (.int v0), .val (.int v1), .val (.int v2), .val (.int (0 : Int32)), .val (.ref w0), .val (.int (v1 &&& (3 : Int32))), .val (.int ((55040 : Int32) + (v0 &&& (4095 : Int32))))] [])) (fun _ k => XS.goto X2.here hx rfl (pc0 := 78) (pc' := 90) rfl (hb hby at_78) (by decide) (by decide) k) ?_
          refine Ends.st (S' := T2.setTop (mkF m 92 #[.val (.int v0), .val (.int v1), .val (.int v2), .val (.int (0 : Int32)), .val (.ref w0), .val (.int (v1 &&& (3 : Int32))), .val (.int ((55040 : Int32) + (v0 &&& (4095 : Int32))))] [(.ref w0)])) (fun _ k => XS.aload X2.here hx rfl (hb hby at_90) rfl rfl k) ?_
          refine Ends.st (S' := T2.setTop (mkF m 94 #[.val (.int v0), .val (.int v1), .val (.int v2), .val (.int (0 : Int32)), .val (.ref w0), .val (.int (v1 &&& (3 : Int32))), .val (.int ((55040 : Int32) + (v0 &&& (4095 : Int32))))] [(.int ((55040 : Int32) + (v0 &&& (4095 : Int32)))), (.ref w0)])) (fun _ k => XS.iload X2.here hx rfl (hb hby at_92) rfl k) ?_
          obtain ⟨cq12, kq12, q12a, q12b, q12c⟩ := isOf hZ e2 (E10)
          obtain ⟨_, _, ⟨T12, L12, k12, n12⟩, -, X12, ⟨Lc12, hQ12, l12, y12, z12⟩, st12⟩ := X2.virtualBack hx (y := (⟨"com/example/ruleweave/ruleweave/XmlVersion", "holdsInText", "(I)Z"⟩ : MethodName)) (z := (⟨"com/example/ruleweave/ruleweave/XmlVersion", "holdsInText", "(I)Z"⟩ : MethodName)) hown (mvT hZ (hw _ (List.mem_of_getElem? (i := 5) rfl))) (mvT hZ (hw _ (List.mem_of_getElem? (i := 6) rfl))) (notFace_of_selects (args := #[]) (mvT hZ (hw _ (List.mem_of_getElem? (i := 8) rfl)))) (mvT hZ (hw _ (List.mem_of_getElem? (i := 8) rfl))) (mvT hZ (hw _ (List.mem_of_getElem? (i := 7) rfl))) (by decide) (backOf (W := 0) (rm1 l Z a0 hw [] w0 w1 ((55040 : Int32) + (v0 &&& (4095 : Int32))) h0 n0 Z0 S11) hZ (hw _ (List.mem_of_getElem? (i := 9) rfl)) (hw _ (List.mem_of_getElem? (i := 1) rfl)) (by decide) (by decide)) q12a q12c (g := (mkF m 94 #[.val (.int v0), .val (.int v1), .val (.int v2), .val (.int (0 : Int32)), .val (.ref w0), .val (.int (v1 &&& (3 : Int32))), .val (.int ((55040 : Int32) + (v0 &&& (4095 : Int32))))] [(.int ((55040 : Int32) + (v0 &&& (4095 : Int32)))), (.ref w0)])) rfl (by rw [hml]; rfl) (Steps.refl _) (argsL := [(.int ((55040 : Int32) + (v0 &&& (4095 : Int32))))]) (rest := []) (lenOf pd_0 rfl) rfl (by show 2 * 0 + _ ≤ _; exact Nat.le_of_eq rfl) (hb hby at_94) (fun _ _ => ⟨rfl, e2, (by decide : 0 + 0 ≤ _), (by decide : 0 + 0 ≤ _)⟩)
          dsimp only [Pt.U, Pt.locs, Pt.cells, Pt.slots] at X12 l12 y12 z12 st12 hQ12
          subst l12 y12 z12
          obtain ⟨rfl, N12q, e12⟩ := hQ12
          have N12 := Fr.app N0 N12q
          refine Ends.st (S' := T12.setTop (mkF m 97 #[.val (.int v0), .val (.int v1), .val (.int v2), .val (.int (0 : Int32)), .val (.ref w0), .val (.int (v1 &&& (3 : Int32))), .val (.int ((55040 : Int32) + (v0 &&& (4095 : Int32))))] [(.int (f1 w0 w1 ((55040 : Int32) + (v0 &&& (4095 : Int32)))))])) (fun _ k => st12.trans k) ?_
          refine Ends.st (S' := T12.setTop (mkF m 98 #[.val (.int v0), .val (.int v1), .val (.int v2), .val (.int (0 : Int32)), .val (.ref w0), .val (.int (v1 &&& (3 : Int32))), .val (.int ((55040 : Int32) + (v0 &&& (4095 : Int32))))] [(.int (0 : Int32)), (.int (f1 w0 w1 ((55040 : Int32) + (v0 &&& (4095 : Int32)))))])) (fun _ k => XS.iloadN X12.here hx rfl (hb hby at_97) rfl k) ?_
          refine Ends.st (S' := T12.setTop (mkF m 100 #[.val (.int v0), .val (.int v1), .val (.int v2), .val (.int (0 : Int32)), .val (.ref w0), .val (.int (v1 &&& (3 : Int32))), .val (.int ((55040 : Int32) + (v0 &&& (4095 : Int32))))] [(.int ((55040 : Int32) + (v0 &&& (4095 : Int32)))), (.int (0 : Int32)), (.int (f1 w0 w1 ((55040 : Int32) + (v0 &&& (4095 : Int32)))))])) (fun _ k => XS.iload X12.here hx rfl (hb hby at_98) rfl k) ?_
          obtain ⟨_, _, ⟨T13, L13, k13, n13⟩, -, X13, ⟨Lc13, hQ13, l13, y13, z13⟩, st13⟩ := Jvm.LawKit.callS X12 hx (y := (⟨"com/example/ruleweave/ruleweave/XmlVersionHoldsInTextPinLaw", "expected", "(ZI)Z"⟩ : MethodName)) hown (mvT hZ (hw _ (List.mem_of_getElem? (i := 13) rfl))) (mvT hZ (hw _ (List.mem_of_getElem? (i := 14) rfl))) (mvT hZ (hw _ (List.mem_of_getElem? (i := 15) rfl))) (mvT hZ (hw _ (List.mem_of_getElem? (i := 16) rfl))) (by decide) (backOf (W := 1) (rm2 l Z a0 hw [] (0 : Int32) ((55040 : Int32) + (v0 &&& (4095 : Int32))) h0 n0 Z0) hZ (hw _ (List.mem_of_getElem? (i := 16) rfl)) (hw _ (List.mem_of_getElem? (i := 15) rfl)) (by decide) (by decide)) (g := (mkF m 100 #[.val (.int v0), .val (.int v1), .val (.int v2), .val (.int (0 : Int32)), .val (.ref w0), .val (.int (v1 &&& (3 : Int32))), .val (.int ((55040 : Int32) + (v0 &&& (4095 : Int32))))] [(.int ((55040 : Int32) + (v0 &&& (4095 : Int32)))), (.int (0 : Int32)), (.int (f1 w0 w1 ((55040 : Int32) + (v0 &&& (4095 : Int32)))))])) rfl (by rw [hml]; rfl) (argsL := [(.int (0 : Int32)), (.int ((55040 : Int32) + (v0 &&& (4095 : Int32))))]) (rest := [(.int (f1 w0 w1 ((55040 : Int32) + (v0 &&& (4095 : Int32)))))]) (lenOf pd_1 rfl) rfl (by show 2 * 0 + _ ≤ _; exact Nat.le_of_eq rfl) (hb hby at_100) (fun _ _ => ⟨rfl, e12, (by decide : 0 + 0 + 0 ≤ _), (by decide : 0 + 0 + 0 ≤ _)⟩)
          dsimp only [Pt.U, Pt.locs, Pt.cells, Pt.slots] at X13 l13 y13 z13 st13 hQ13
          subst l13 y13 z13
          obtain ⟨rfl, N13q, e13⟩ := hQ13
          have N13 := Fr.app N12 N13q
          refine Ends.st (S' := T13.setTop (mkF m 103 #[.val (.int v0), .val (.int v1), .val (.int v2), .val (.int (0 : Int32)), .val (.ref w0), .val (.int (v1 &&& (3 : Int32))), .val (.int ((55040 : Int32) + (v0 &&& (4095 : Int32))))] [(.int (f2 (0 : Int32) ((55040 : Int32) + (v0 &&& (4095 : Int32))))), (.int (f1 w0 w1 ((55040 : Int32) + (v0 &&& (4095 : Int32)))))])) (fun _ k => st13 _ k) ?_
          have hb14 : (f1 w0 w1 ((55040 : Int32) + (v0 &&& (4095 : Int32)))) = (f2 (0 : Int32) ((55040 : Int32) + (v0 &&& (4095 : Int32)))) := own_both _ _ _ _ (Or.inl ⟨rfl, hne⟩) (own_nn2 v0)
          refine Ends.st (S' := T13.setTop (mkF m 106 #[.val (.int v0), .val (.int v1), .val (.int v2), .val (.int (0 : Int32)), .val (.ref w0), .val (.int (v1 &&& (3 : Int32))), .val (.int ((55040 : Int32) + (v0 &&& (4095 : Int32))))] [])) (fun _ k => XS.icmpNo X13.here hx rfl (hb hby at_103) rfl (teq hb14).2 k) ?_
          refine Ends.st (S' := T13.setTop (mkF m 107 #[.val (.int v0), .val (.int v1), .val (.int v2), .val (.int (0 : Int32)), .val (.ref w0), .val (.int (v1 &&& (3 : Int32))), .val (.int ((55040 : Int32) + (v0 &&& (4095 : Int32))))] [(.int (1 : Int32))])) (fun _ k => XS.iconst X13.here hx rfl (hb hby at_106) k) ?_
          refine Ends.st (S' := T13.setTop (mkF m 111 #[.val (.int v0), .val (.int v1), .val (.int v2), .val (.int (0 : Int32)), .val (.ref w0), .val (.int (v1 &&& (3 : Int32))), .val (.int ((55040 : Int32) + (v0 &&& (4095 : Int32))))] [(.int (1 : Int32))])) (fun _ k => XS.goto X13.here hx rfl (pc0 := 107) (pc' := 111) rfl (hb hby at_107) (by decide) (by decide) k) ?_
          obtain ⟨fs, hr, hrun, hended, hW, hsame⟩ := X13.leave (v := some (.int (1 : Int32))) (fun h => by rw [Bd.returns] at h; cases h)
          exact ⟨_, _, retN X13 hx (t := .boolean) Bd.returns (by simp) (hb hby at_111) hr, hrun, hended, _, _, rfl, (by show Q0 Z  h0 n0 _ T13.heap _; rw [e13]; exact ⟨rfl, N13⟩), ⟨_, rfl⟩, hW, hsame.mono (by decide) (by decide)⟩
        · refine Ends.st (S' := T2.setTop (mkF m 81 #[.val (.int v0), .val (.int v1), .val (.int v2), .val (.int (0 : Int32)), .val (.ref w0), .val (.int (v1 &&& (3 : Int32))), .unset] [])) (fun _ k => XS.icmpYes X2.here hx rfl (pc0 := 65) (pc' := 81) rfl (hb hby at_65) rfl (feq hc11).2 (by decide) (by decide) k) ?_
          refine Ends.st (S' := T2.setTop (mkF m 83 #[.val (.int v0), .val (.int v1), .val (.int v2), .val (.int (0 : Int32)), .val (.ref w0), .val (.int (v1 &&& (3 : Int32))), .unset] [(.int (65280 : Int32))])) (fun _ k => X2.ldcInt hx hown (mvT hZ (hw _ (List.mem_of_getElem? (i := 3) rfl))) (g := (mkF m 81 #[.val (.int v0), .val (.int v1), .val (.int v2), .val (.int (0 : Int32)), .val (.ref w0), .val (.int (v1 &&& (3 : Int32))), .unset] [])) rfl (hb hby at_81) _ k) ?_
          refine Ends.st (S' := T2.setTop (mkF m 84 #[.val (.int v0), .val (.int v1), .val (.int v2), .val (.int (0 : Int32)), .val (.ref w0), .val (.int (v1 &&& (3 : Int32))), .unset] [(.int v0), (.int (65280 : Int32))])) (fun _ k => XS.iloadN X2.here hx rfl (hb hby at_83) rfl k) ?_
          refine Ends.st (S' := T2.setTop (mkF m 86 #[.val (.int v0), .val (.int v1), .val (.int v2), .val (.int (0 : Int32)), .val (.ref w0), .val (.int (v1 &&& (3 : Int32))), .unset] [(.int (131071 : Int32)), (.int v0), (.int (65280 : Int32))])) (fun _ k => X2.ldcInt hx hown (mvT hZ (hw _ (List.mem_of_getElem? (i := 4) rfl))) (g := (mkF m 84 #[.val (.int v0), .val (.int v1), .val (.int v2), .val (.int (0 : Int32)), .val (.ref w0), .val (.int (v1 &&& (3 : Int32))), .unset] [(.int v0), (.int (65280 : Int32))])) rfl (hb hby at_84) _ k) ?_
          refine Ends.st (S' := T2.setTop (mkF m 87 #[.val (.int v0), .val (.int v1), .val (.int v2), .val (.int (0 : Int32)), .val (.ref w0), .val (.int (v1 &&& (3 : Int32))), .unset] [(.int (v0 &&& (131071 : Int32))), (.int (65280 : Int32))])) (fun _ k => XS.iand X2.here hx rfl (hb hby at_86) rfl k) ?_
          refine Ends.st (S' := T2.setTop (mkF m 88 #[.val (.int v0), .val (.int v1), .val (.int v2), .val (.int (0 : Int32)), .val (.ref w0), .val (.int (v1 &&& (3 : Int32))), .unset] [(.int ((65280 : Int32) + (v0 &&& (131071 : Int32))))])) (fun _ k => XS.iadd X2.here hx rfl (hb hby at_87) rfl k) ?_
          refine Ends.st (S' := T2.setTop (mkF m 90 #[.val (.int v0), .val (.int v1), .val (.int v2), .val (.int (0 : Int32)), .val (.ref w0), .val (.int (v1 &&& (3 : Int32))), .val (.int ((65280 : Int32) + (v0 &&& (131071 : Int32))))] [])) (fun _ k => XS.istore X2.here hx rfl (hb hby at_88) rfl (l' := #[.val (.int v0), .val (.int v1), .val (.int v2), .val (.int (0 : Int32)), .val (.ref w0), .val (.int (v1 &&& (3 : Int32))), .val (.int ((65280 : Int32) + (v0 &&& (131071 : Int32))))]) rfl k) ?_
          refine Ends.st (S' := T2.setTop (mkF m 92 #[.val (.int v0), .val (.int v1), .val (.int v2), .val (.int (0 : Int32)), .val (.ref w0), .val (.int (v1 &&& (3 : Int32))), .val (.int ((65280 : Int32) + (v0 &&& (131071 : Int32))))] [(.ref w0)])) (fun _ k => XS.aload X2.here hx rfl (hb hby at_90) rfl rfl k) ?_
          refine Ends.st (S' := T2.setTop (mkF m 94 #[.val (.int v0), .val (.int v1), .val (.int v2), .val (.int (0 : Int32)), .val (.ref w0), .val (.int (v1 &&& (3 : Int32))), .val (.int ((65280 : Int32) + (v0 &&& (131071 : Int32))))] [(.int ((65280 : Int32) + (v0 &&& (131071 : Int32)))), (.ref w0)])) (fun _ k => XS.iload X2.here hx rfl (hb hby at_92) rfl k) ?_
          obtain ⟨cq15, kq15, q15a, q15b, q15c⟩ := isOf hZ e2 (E10)
          obtain ⟨_, _, ⟨T15, L15, k15, n15⟩, -, X15, ⟨Lc15, hQ15, l15, y15, z15⟩, st15⟩ := X2.virtualBack hx (y := (⟨"com/example/ruleweave/ruleweave/XmlVersion", "holdsInText", "(I)Z"⟩ : MethodName)) (z := (⟨"com/example/ruleweave/ruleweave/XmlVersion", "holdsInText", "(I)Z"⟩ : MethodName)) hown (mvT hZ (hw _ (List.mem_of_getElem? (i := 5) rfl))) (mvT hZ (hw _ (List.mem_of_getElem? (i := 6) rfl))) (notFace_of_selects (args := #[]) (mvT hZ (hw _ (List.mem_of_getElem? (i := 8) rfl)))) (mvT hZ (hw _ (List.mem_of_getElem? (i := 8) rfl))) (mvT hZ (hw _ (List.mem_of_getElem? (i := 7) rfl))) (by decide) (backOf (W := 0) (rm1 l Z a0 hw [] w0 w1 ((65280 : Int32) + (v0 &&& (131071 : Int32))) h0 n0 Z0 S11) hZ (hw _ (List.mem_of_getElem? (i := 9) rfl)) (hw _ (List.mem_of_getElem? (i := 1) rfl)) (by decide) (by decide)) q15a q15c (g := (mkF m 94 #[.val (.int v0), .val (.int v1), .val (.int v2), .val (.int (0 : Int32)), .val (.ref w0), .val (.int (v1 &&& (3 : Int32))), .val (.int ((65280 : Int32) + (v0 &&& (131071 : Int32))))] [(.int ((65280 : Int32) + (v0 &&& (131071 : Int32)))), (.ref w0)])) rfl (by rw [hml]; rfl) (Steps.refl _) (argsL := [(.int ((65280 : Int32) + (v0 &&& (131071 : Int32))))]) (rest := []) (lenOf pd_0 rfl) rfl (by show 2 * 0 + _ ≤ _; exact Nat.le_of_eq rfl) (hb hby at_94) (fun _ _ => ⟨rfl, e2, (by decide : 0 + 0 ≤ _), (by decide : 0 + 0 ≤ _)⟩)
          dsimp only [Pt.U, Pt.locs, Pt.cells, Pt.slots] at X15 l15 y15 z15 st15 hQ15
          subst l15 y15 z15
          obtain ⟨rfl, N15q, e15⟩ := hQ15
          have N15 := Fr.app N0 N15q
          refine Ends.st (S' := T15.setTop (mkF m 97 #[.val (.int v0), .val (.int v1), .val (.int v2), .val (.int (0 : Int32)), .val (.ref w0), .val (.int (v1 &&& (3 : Int32))), .val (.int ((65280 : Int32) + (v0 &&& (131071 : Int32))))] [(.int (f1 w0 w1 ((65280 : Int32) + (v0 &&& (131071 : Int32)))))])) (fun _ k => st15.trans k) ?_
          refine Ends.st (S' := T15.setTop (mkF m 98 #[.val (.int v0), .val (.int v1), .val (.int v2), .val (.int (0 : Int32)), .val (.ref w0), .val (.int (v1 &&& (3 : Int32))), .val (.int ((65280 : Int32) + (v0 &&& (131071 : Int32))))] [(.int (0 : Int32)), (.int (f1 w0 w1 ((65280 : Int32) + (v0 &&& (131071 : Int32)))))])) (fun _ k => XS.iloadN X15.here hx rfl (hb hby at_97) rfl k) ?_
          refine Ends.st (S' := T15.setTop (mkF m 100 #[.val (.int v0), .val (.int v1), .val (.int v2), .val (.int (0 : Int32)), .val (.ref w0), .val (.int (v1 &&& (3 : Int32))), .val (.int ((65280 : Int32) + (v0 &&& (131071 : Int32))))] [(.int ((65280 : Int32) + (v0 &&& (131071 : Int32)))), (.int (0 : Int32)), (.int (f1 w0 w1 ((65280 : Int32) + (v0 &&& (131071 : Int32)))))])) (fun _ k => XS.iload X15.here hx rfl (hb hby at_98) rfl k) ?_
          obtain ⟨_, _, ⟨T16, L16, k16, n16⟩, -, X16, ⟨Lc16, hQ16, l16, y16, z16⟩, st16⟩ := Jvm.LawKit.callS X15 hx (y := (⟨"com/example/ruleweave/ruleweave/XmlVersionHoldsInTextPinLaw", "expected", "(ZI)Z"⟩ : MethodName)) hown (mvT hZ (hw _ (List.mem_of_getElem? (i := 13) rfl))) (mvT hZ (hw _ (List.mem_of_getElem? (i := 14) rfl))) (mvT hZ (hw _ (List.mem_of_getElem? (i := 15) rfl))) (mvT hZ (hw _ (List.mem_of_getElem? (i := 16) rfl))) (by decide) (backOf (W := 1) (rm2 l Z a0 hw [] (0 : Int32) ((65280 : Int32) + (v0 &&& (131071 : Int32))) h0 n0 Z0) hZ (hw _ (List.mem_of_getElem? (i := 16) rfl)) (hw _ (List.mem_of_getElem? (i := 15) rfl)) (by decide) (by decide)) (g := (mkF m 100 #[.val (.int v0), .val (.int v1), .val (.int v2), .val (.int (0 : Int32)), .val (.ref w0), .val (.int (v1 &&& (3 : Int32))), .val (.int ((65280 : Int32) + (v0 &&& (131071 : Int32))))] [(.int ((65280 : Int32) + (v0 &&& (131071 : Int32)))), (.int (0 : Int32)), (.int (f1 w0 w1 ((65280 : Int32) + (v0 &&& (131071 : Int32)))))])) rfl (by rw [hml]; rfl) (argsL := [(.int (0 : Int32)), (.int ((65280 : Int32) + (v0 &&& (131071 : Int32))))]) (rest := [(.int (f1 w0 w1 ((65280 : Int32) + (v0 &&& (131071 : Int32)))))]) (lenOf pd_1 rfl) rfl (by show 2 * 0 + _ ≤ _; exact Nat.le_of_eq rfl) (hb hby at_100) (fun _ _ => ⟨rfl, e15, (by decide : 0 + 0 + 0 ≤ _), (by decide : 0 + 0 + 0 ≤ _)⟩)
          dsimp only [Pt.U, Pt.locs, Pt.cells, Pt.slots] at X16 l16 y16 z16 st16 hQ16
          subst l16 y16 z16
          obtain ⟨rfl, N16q, e16⟩ := hQ16
          have N16 := Fr.app N15 N16q
          refine Ends.st (S' := T16.setTop (mkF m 103 #[.val (.int v0), .val (.int v1), .val (.int v2), .val (.int (0 : Int32)), .val (.ref w0), .val (.int (v1 &&& (3 : Int32))), .val (.int ((65280 : Int32) + (v0 &&& (131071 : Int32))))] [(.int (f2 (0 : Int32) ((65280 : Int32) + (v0 &&& (131071 : Int32))))), (.int (f1 w0 w1 ((65280 : Int32) + (v0 &&& (131071 : Int32)))))])) (fun _ k => st16 _ k) ?_
          have hb17 : (f1 w0 w1 ((65280 : Int32) + (v0 &&& (131071 : Int32)))) = (f2 (0 : Int32) ((65280 : Int32) + (v0 &&& (131071 : Int32)))) := own_both _ _ _ _ (Or.inl ⟨rfl, hne⟩) (own_nn3 v0)
          refine Ends.st (S' := T16.setTop (mkF m 106 #[.val (.int v0), .val (.int v1), .val (.int v2), .val (.int (0 : Int32)), .val (.ref w0), .val (.int (v1 &&& (3 : Int32))), .val (.int ((65280 : Int32) + (v0 &&& (131071 : Int32))))] [])) (fun _ k => XS.icmpNo X16.here hx rfl (hb hby at_103) rfl (teq hb17).2 k) ?_
          refine Ends.st (S' := T16.setTop (mkF m 107 #[.val (.int v0), .val (.int v1), .val (.int v2), .val (.int (0 : Int32)), .val (.ref w0), .val (.int (v1 &&& (3 : Int32))), .val (.int ((65280 : Int32) + (v0 &&& (131071 : Int32))))] [(.int (1 : Int32))])) (fun _ k => XS.iconst X16.here hx rfl (hb hby at_106) k) ?_
          refine Ends.st (S' := T16.setTop (mkF m 111 #[.val (.int v0), .val (.int v1), .val (.int v2), .val (.int (0 : Int32)), .val (.ref w0), .val (.int (v1 &&& (3 : Int32))), .val (.int ((65280 : Int32) + (v0 &&& (131071 : Int32))))] [(.int (1 : Int32))])) (fun _ k => XS.goto X16.here hx rfl (pc0 := 107) (pc' := 111) rfl (hb hby at_107) (by decide) (by decide) k) ?_
          obtain ⟨fs, hr, hrun, hended, hW, hsame⟩ := X16.leave (v := some (.int (1 : Int32))) (fun h => by rw [Bd.returns] at h; cases h)
          exact ⟨_, _, retN X16 hx (t := .boolean) Bd.returns (by simp) (hb hby at_111) hr, hrun, hended, _, _, rfl, (by show Q0 Z  h0 n0 _ T16.heap _; rw [e16]; exact ⟨rfl, N16⟩), ⟨_, rfl⟩, hW, hsame.mono (by decide) (by decide)⟩
  · refine Ends.st (S' := s₁.setTop (mkF m 6 #[.val (.int v0), .val (.int v1), .val (.int v2), .unset, .unset, .unset, .unset] [])) (fun _ k => XS.ifNo X0.here hx rfl (hb hby at_3) rfl ((if0 _ _).trans (feq hc1).1) k) ?_
    refine Ends.st (S' := s₁.setTop (mkF m 7 #[.val (.int v0), .val (.int v1), .val (.int v2), .unset, .unset, .unset, .unset] [(.int (1 : Int32))])) (fun _ k => XS.iconst X0.here hx rfl (hb hby at_6) k) ?_
    refine Ends.st (S' := s₁.setTop (mkF m 11 #[.val (.int v0), .val (.int v1), .val (.int v2), .unset, .unset, .unset, .unset] [(.int (1 : Int32))])) (fun _ k => XS.goto X0.here hx rfl (pc0 := 7) (pc' := 11) rfl (hb hby at_7) (by decide) (by decide) k) ?_
    refine Ends.st (S' := s₁.setTop (mkF m 12 #[.val (.int v0), .val (.int v1), .val (.int v2), .val (.int (1 : Int32)), .unset, .unset, .unset] [])) (fun _ k => XS.istoreN X0.here hx rfl (hb hby at_11) rfl (l' := #[.val (.int v0), .val (.int v1), .val (.int v2), .val (.int (1 : Int32)), .unset, .unset, .unset]) rfl k) ?_
    refine Ends.st (S' := s₁.setTop (mkF m 13 #[.val (.int v0), .val (.int v1), .val (.int v2), .val (.int (1 : Int32)), .unset, .unset, .unset] [(.int (1 : Int32))])) (fun _ k => XS.iloadN X0.here hx rfl (hb hby at_12) rfl k) ?_
    refine Ends.st (S' := s₁.setTop (mkF m 16 #[.val (.int v0), .val (.int v1), .val (.int v2), .val (.int (1 : Int32)), .unset, .unset, .unset] [])) (fun _ k => XS.ifNo X0.here hx rfl (hb hby at_13) rfl ((if0 _ _).trans (feq (by decide : ¬ ((1 : Int32) = (0 : Int32)))).1) k) ?_
    obtain ⟨T18, X18, e18, st18⟩ := getS2 X0 hx hZ hown (host := "") (Or.inl (hw _ (List.mem_of_getElem? (i := 20) rfl))) Via.refl e0 S11 (g := (mkF m 16 #[.val (.int v0), .val (.int v1), .val (.int v2), .val (.int (1 : Int32)), .unset, .unset, .unset] [])) rfl (hb hby at_16)
    refine Ends.st (S' := T18.setTop (mkF m 19 #[.val (.int v0), .val (.int v1), .val (.int v2), .val (.int (1 : Int32)), .unset, .unset, .unset] [(.ref w1)])) (fun _ k => st18 _ k) ?_
    refine Ends.st (S' := T18.setTop (mkF m 25 #[.val (.int v0), .val (.int v1), .val (.int v2), .val (.int (1 : Int32)), .unset, .unset, .unset] [(.ref w1)])) (fun _ k => XS.goto X18.here hx rfl (pc0 := 19) (pc' := 25) rfl (hb hby at_19) (by decide) (by decide) k) ?_
    refine Ends.st (S' := T18.setTop (mkF m 27 #[.val (.int v0), .val (.int v1), .val (.int v2), .val (.int (1 : Int32)), .val (.ref w1), .unset, .unset] [])) (fun _ k => XS.astore X18.here hx rfl (hb hby at_25) rfl rfl (l' := #[.val (.int v0), .val (.int v1), .val (.int v2), .val (.int (1 : Int32)), .val (.ref w1), .unset, .unset]) rfl k) ?_
    refine Ends.st (S' := T18.setTop (mkF m 28 #[.val (.int v0), .val (.int v1), .val (.int v2), .val (.int (1 : Int32)), .val (.ref w1), .unset, .unset] [(.int v1)])) (fun _ k => XS.iloadN X18.here hx rfl (hb hby at_27) rfl k) ?_
    refine Ends.st (S' := T18.setTop (mkF m 29 #[.val (.int v0), .val (.int v1), .val (.int v2), .val (.int (1 : Int32)), .val (.ref w1), .unset, .unset] [(.int (3 : Int32)), (.int v1)])) (fun _ k => XS.iconst X18.here hx rfl (hb hby at_28) k) ?_
    refine Ends.st (S' := T18.setTop (mkF m 30 #[.val (.int v0), .val (.int v1), .val (.int v2), .val (.int (1 : Int32)), .val (.ref w1), .unset, .unset] [(.int (v1 &&& (3 : Int32)))])) (fun _ k => XS.iand X18.here hx rfl (hb hby at_29) rfl k) ?_
    refine Ends.st (S' := T18.setTop (mkF m 32 #[.val (.int v0), .val (.int v1), .val (.int v2), .val (.int (1 : Int32)), .val (.ref w1), .val (.int (v1 &&& (3 : Int32))), .unset] [])) (fun _ k => XS.istore X18.here hx rfl (hb hby at_30) rfl (l' := #[.val (.int v0), .val (.int v1), .val (.int v2), .val (.int (1 : Int32)), .val (.ref w1), .val (.int (v1 &&& (3 : Int32))), .unset]) rfl k) ?_
    refine Ends.st (S' := T18.setTop (mkF m 34 #[.val (.int v0), .val (.int v1), .val (.int v2), .val (.int (1 : Int32)), .val (.ref w1), .val (.int (v1 &&& (3 : Int32))), .unset] [(.int (v1 &&& (3 : Int32)))])) (fun _ k => XS.iload X18.here hx rfl (hb hby at_32) rfl k) ?_
    by_cases hc19 : (v1 &&& (3 : Int32)) = (0 : Int32)
    · refine Ends.st (S' := T18.setTop (mkF m 37 #[.val (.int v0), .val (.int v1), .val (.int v2), .val (.int (1 : Int32)), .val (.ref w1), .val (.int (v1 &&& (3 : Int32))), .unset] [])) (fun _ k => XS.ifNo X18.here hx rfl (hb hby at_34) rfl ((if0 _ _).trans (teq hc19).2) k) ?_
      refine Ends.st (S' := T18.setTop (mkF m 38 #[.val (.int v0), .val (.int v1), .val (.int v2), .val (.int (1 : Int32)), .val (.ref w1), .val (.int (v1 &&& (3 : Int32))), .unset] [(.int v0)])) (fun _ k => XS.iloadN X18.here hx rfl (hb hby at_37) rfl k) ?_
      refine Ends.st (S' := T18.setTop (mkF m 40 #[.val (.int v0), .val (.int v1), .val (.int v2), .val (.int (1 : Int32)), .val (.ref w1), .val (.int (v1 &&& (3 : Int32))), .unset] [(.int (2147483647 : Int32)), (.int v0)])) (fun _ k => X18.ldcInt hx hown (mvT hZ (hw _ (List.mem_of_getElem? (i := 22) rfl))) (g := (mkF m 38 #[.val (.int v0), .val (.int v1), .val (.int v2), .val (.int (1 : Int32)), .val (.ref w1), .val (.int (v1 &&& (3 : Int32))), .unset] [(.int v0)])) rfl (hb hby at_38) _ k) ?_
      refine Ends.st (S' := T18.setTop (mkF m 41 #[.val (.int v0), .val (.int v1), .val (.int v2), .val (.int (1 : Int32)), .val (.ref w1), .val (.int (v1 &&& (3 : Int32))), .unset] [(.int (v0 &&& (2147483647 : Int32)))])) (fun _ k => XS.iand X18.here hx rfl (hb hby at_40) rfl k) ?_
      refine Ends.st (S' := T18.setTop (mkF m 43 #[.val (.int v0), .val (.int v1), .val (.int v2), .val (.int (1 : Int32)), .val (.ref w1), .val (.int (v1 &&& (3 : Int32))), .val (.int (v0 &&& (2147483647 : Int32)))] [])) (fun _ k => XS.istore X18.here hx rfl (hb hby at_41) rfl (l' := #[.val (.int v0), .val (.int v1), .val (.int v2), .val (.int (1 : Int32)), .val (.ref w1), .val (.int (v1 &&& (3 : Int32))), .val (.int (v0 &&& (2147483647 : Int32)))]) rfl k) ?_
      refine Ends.st (S' := T18.setTop (mkF m 90 #[.val (.int v0), .val (.int v1), .val (.int v2), .val (.int (1 : Int32)), .val (.ref w1), .val (.int (v1 &&& (3 : Int32))), .val (.int (v0 &&& (2147483647 : Int32)))] [])) (fun _ k => XS.goto X18.here hx rfl (pc0 := 43) (pc' := 90) rfl (hb hby at_43) (by decide) (by decide) k) ?_
      refine Ends.st (S' := T18.setTop (mkF m 92 #[.val (.int v0), .val (.int v1), .val (.int v2), .val (.int (1 : Int32)), .val (.ref w1), .val (.int (v1 &&& (3 : Int32))), .val (.int (v0 &&& (2147483647 : Int32)))] [(.ref w1)])) (fun _ k => XS.aload X18.here hx rfl (hb hby at_90) rfl rfl k) ?_
      refine Ends.st (S' := T18.setTop (mkF m 94 #[.val (.int v0), .val (.int v1), .val (.int v2), .val (.int (1 : Int32)), .val (.ref w1), .val (.int (v1 &&& (3 : Int32))), .val (.int (v0 &&& (2147483647 : Int32)))] [(.int (v0 &&& (2147483647 : Int32))), (.ref w1)])) (fun _ k => XS.iload X18.here hx rfl (hb hby at_92) rfl k) ?_
      obtain ⟨cq20, kq20, q20a, q20b, q20c⟩ := isOf hZ e18 (E11)
      obtain ⟨_, _, ⟨T20, L20, k20, n20⟩, -, X20, ⟨Lc20, hQ20, l20, y20, z20⟩, st20⟩ := X18.virtualBack hx (y := (⟨"com/example/ruleweave/ruleweave/XmlVersion", "holdsInText", "(I)Z"⟩ : MethodName)) (z := (⟨"com/example/ruleweave/ruleweave/XmlVersion", "holdsInText", "(I)Z"⟩ : MethodName)) hown (mvT hZ (hw _ (List.mem_of_getElem? (i := 5) rfl))) (mvT hZ (hw _ (List.mem_of_getElem? (i := 6) rfl))) (notFace_of_selects (args := #[]) (mvT hZ (hw _ (List.mem_of_getElem? (i := 8) rfl)))) (mvT hZ (hw _ (List.mem_of_getElem? (i := 8) rfl))) (mvT hZ (hw _ (List.mem_of_getElem? (i := 7) rfl))) (by decide) (backOf (W := 0) (rm1 l Z a0 hw [] w1 w1 (v0 &&& (2147483647 : Int32)) h0 n0 Z0 S11) hZ (hw _ (List.mem_of_getElem? (i := 9) rfl)) (hw _ (List.mem_of_getElem? (i := 1) rfl)) (by decide) (by decide)) q20a q20c (g := (mkF m 94 #[.val (.int v0), .val (.int v1), .val (.int v2), .val (.int (1 : Int32)), .val (.ref w1), .val (.int (v1 &&& (3 : Int32))), .val (.int (v0 &&& (2147483647 : Int32)))] [(.int (v0 &&& (2147483647 : Int32))), (.ref w1)])) rfl (by rw [hml]; rfl) (Steps.refl _) (argsL := [(.int (v0 &&& (2147483647 : Int32)))]) (rest := []) (lenOf pd_0 rfl) rfl (by show 2 * 0 + _ ≤ _; exact Nat.le_of_eq rfl) (hb hby at_94) (fun _ _ => ⟨rfl, e18, (by decide : 0 + 0 ≤ _), (by decide : 0 + 0 ≤ _)⟩)
      dsimp only [Pt.U, Pt.locs, Pt.cells, Pt.slots] at X20 l20 y20 z20 st20 hQ20
      subst l20 y20 z20
      obtain ⟨rfl, N20q, e20⟩ := hQ20
      have N20 := Fr.app N0 N20q
      refine Ends.st (S' := T20.setTop (mkF m 97 #[.val (.int v0), .val (.int v1), .val (.int v2), .val (.int (1 : Int32)), .val (.ref w1), .val (.int (v1 &&& (3 : Int32))), .val (.int (v0 &&& (2147483647 : Int32)))] [(.int (f1 w1 w1 (v0 &&& (2147483647 : Int32))))])) (fun _ k => st20.trans k) ?_
      refine Ends.st (S' := T20.setTop (mkF m 98 #[.val (.int v0), .val (.int v1), .val (.int v2), .val (.int (1 : Int32)), .val (.ref w1), .val (.int (v1 &&& (3 : Int32))), .val (.int (v0 &&& (2147483647 : Int32)))] [(.int (1 : Int32)), (.int (f1 w1 w1 (v0 &&& (2147483647 : Int32))))])) (fun _ k => XS.iloadN X20.here hx rfl (hb hby at_97) rfl k) ?_
      refine Ends.st (S' := T20.setTop (mkF m 100 #[.val (.int v0), .val (.int v1), .val (.int v2), .val (.int (1 : Int32)), .val (.ref w1), .val (.int (v1 &&& (3 : Int32))), .val (.int (v0 &&& (2147483647 : Int32)))] [(.int (v0 &&& (2147483647 : Int32))), (.int (1 : Int32)), (.int (f1 w1 w1 (v0 &&& (2147483647 : Int32))))])) (fun _ k => XS.iload X20.here hx rfl (hb hby at_98) rfl k) ?_
      obtain ⟨_, _, ⟨T21, L21, k21, n21⟩, -, X21, ⟨Lc21, hQ21, l21, y21, z21⟩, st21⟩ := Jvm.LawKit.callS X20 hx (y := (⟨"com/example/ruleweave/ruleweave/XmlVersionHoldsInTextPinLaw", "expected", "(ZI)Z"⟩ : MethodName)) hown (mvT hZ (hw _ (List.mem_of_getElem? (i := 13) rfl))) (mvT hZ (hw _ (List.mem_of_getElem? (i := 14) rfl))) (mvT hZ (hw _ (List.mem_of_getElem? (i := 15) rfl))) (mvT hZ (hw _ (List.mem_of_getElem? (i := 16) rfl))) (by decide) (backOf (W := 1) (rm2 l Z a0 hw [] (1 : Int32) (v0 &&& (2147483647 : Int32)) h0 n0 Z0) hZ (hw _ (List.mem_of_getElem? (i := 16) rfl)) (hw _ (List.mem_of_getElem? (i := 15) rfl)) (by decide) (by decide)) (g := (mkF m 100 #[.val (.int v0), .val (.int v1), .val (.int v2), .val (.int (1 : Int32)), .val (.ref w1), .val (.int (v1 &&& (3 : Int32))), .val (.int (v0 &&& (2147483647 : Int32)))] [(.int (v0 &&& (2147483647 : Int32))), (.int (1 : Int32)), (.int (f1 w1 w1 (v0 &&& (2147483647 : Int32))))])) rfl (by rw [hml]; rfl) (argsL := [(.int (1 : Int32)), (.int (v0 &&& (2147483647 : Int32)))]) (rest := [(.int (f1 w1 w1 (v0 &&& (2147483647 : Int32))))]) (lenOf pd_1 rfl) rfl (by show 2 * 0 + _ ≤ _; exact Nat.le_of_eq rfl) (hb hby at_100) (fun _ _ => ⟨rfl, e20, (by decide : 0 + 0 + 0 ≤ _), (by decide : 0 + 0 + 0 ≤ _)⟩)
      dsimp only [Pt.U, Pt.locs, Pt.cells, Pt.slots] at X21 l21 y21 z21 st21 hQ21
      subst l21 y21 z21
      obtain ⟨rfl, N21q, e21⟩ := hQ21
      have N21 := Fr.app N20 N21q
      refine Ends.st (S' := T21.setTop (mkF m 103 #[.val (.int v0), .val (.int v1), .val (.int v2), .val (.int (1 : Int32)), .val (.ref w1), .val (.int (v1 &&& (3 : Int32))), .val (.int (v0 &&& (2147483647 : Int32)))] [(.int (f2 (1 : Int32) (v0 &&& (2147483647 : Int32)))), (.int (f1 w1 w1 (v0 &&& (2147483647 : Int32))))])) (fun _ k => st21 _ k) ?_
      have hb22 : (f1 w1 w1 (v0 &&& (2147483647 : Int32))) = (f2 (1 : Int32) (v0 &&& (2147483647 : Int32))) := own_both _ _ _ _ (Or.inr ⟨by decide, rfl⟩) (own_nn0 v0)
      refine Ends.st (S' := T21.setTop (mkF m 106 #[.val (.int v0), .val (.int v1), .val (.int v2), .val (.int (1 : Int32)), .val (.ref w1), .val (.int (v1 &&& (3 : Int32))), .val (.int (v0 &&& (2147483647 : Int32)))] [])) (fun _ k => XS.icmpNo X21.here hx rfl (hb hby at_103) rfl (teq hb22).2 k) ?_
      refine Ends.st (S' := T21.setTop (mkF m 107 #[.val (.int v0), .val (.int v1), .val (.int v2), .val (.int (1 : Int32)), .val (.ref w1), .val (.int (v1 &&& (3 : Int32))), .val (.int (v0 &&& (2147483647 : Int32)))] [(.int (1 : Int32))])) (fun _ k => XS.iconst X21.here hx rfl (hb hby at_106) k) ?_
      refine Ends.st (S' := T21.setTop (mkF m 111 #[.val (.int v0), .val (.int v1), .val (.int v2), .val (.int (1 : Int32)), .val (.ref w1), .val (.int (v1 &&& (3 : Int32))), .val (.int (v0 &&& (2147483647 : Int32)))] [(.int (1 : Int32))])) (fun _ k => XS.goto X21.here hx rfl (pc0 := 107) (pc' := 111) rfl (hb hby at_107) (by decide) (by decide) k) ?_
      obtain ⟨fs, hr, hrun, hended, hW, hsame⟩ := X21.leave (v := some (.int (1 : Int32))) (fun h => by rw [Bd.returns] at h; cases h)
      exact ⟨_, _, retN X21 hx (t := .boolean) Bd.returns (by simp) (hb hby at_111) hr, hrun, hended, _, _, rfl, (by show Q0 Z  h0 n0 _ T21.heap _; rw [e21]; exact ⟨rfl, N21⟩), ⟨_, rfl⟩, hW, hsame.mono (by decide) (by decide)⟩
    · refine Ends.st (S' := T18.setTop (mkF m 46 #[.val (.int v0), .val (.int v1), .val (.int v2), .val (.int (1 : Int32)), .val (.ref w1), .val (.int (v1 &&& (3 : Int32))), .unset] [])) (fun _ k => XS.ifYes X18.here hx rfl (pc0 := 34) (pc' := 46) rfl (hb hby at_34) rfl ((if0 _ _).trans (feq hc19).2) (by decide) (by decide) k) ?_
      refine Ends.st (S' := T18.setTop (mkF m 48 #[.val (.int v0), .val (.int v1), .val (.int v2), .val (.int (1 : Int32)), .val (.ref w1), .val (.int (v1 &&& (3 : Int32))), .unset] [(.int (v1 &&& (3 : Int32)))])) (fun _ k => XS.iload X18.here hx rfl (hb hby at_46) rfl k) ?_
      refine Ends.st (S' := T18.setTop (mkF m 49 #[.val (.int v0), .val (.int v1), .val (.int v2), .val (.int (1 : Int32)), .val (.ref w1), .val (.int (v1 &&& (3 : Int32))), .unset] [(.int (1 : Int32)), (.int (v1 &&& (3 : Int32)))])) (fun _ k => XS.iconst X18.here hx rfl (hb hby at_48) k) ?_
      by_cases hc23 : (v1 &&& (3 : Int32)) = (1 : Int32)
      · refine Ends.st (S' := T18.setTop (mkF m 52 #[.val (.int v0), .val (.int v1), .val (.int v2), .val (.int (1 : Int32)), .val (.ref w1), .val (.int (v1 &&& (3 : Int32))), .unset] [])) (fun _ k => XS.icmpNo X18.here hx rfl (hb hby at_49) rfl (teq hc23).2 k) ?_
        refine Ends.st (S' := T18.setTop (mkF m 53 #[.val (.int v0), .val (.int v1), .val (.int v2), .val (.int (1 : Int32)), .val (.ref w1), .val (.int (v1 &&& (3 : Int32))), .unset] [(.int v0)])) (fun _ k => XS.iloadN X18.here hx rfl (hb hby at_52) rfl k) ?_
        refine Ends.st (S' := T18.setTop (mkF m 56 #[.val (.int v0), .val (.int v1), .val (.int v2), .val (.int (1 : Int32)), .val (.ref w1), .val (.int (v1 &&& (3 : Int32))), .unset] [(.int (255 : Int32)), (.int v0)])) (fun _ k => XS.sipush X18.here hx rfl (hb hby at_53) k) ?_
        refine Ends.st (S' := T18.setTop (mkF m 57 #[.val (.int v0), .val (.int v1), .val (.int v2), .val (.int (1 : Int32)), .val (.ref w1), .val (.int (v1 &&& (3 : Int32))), .unset] [(.int (v0 &&& (255 : Int32)))])) (fun _ k => XS.iand X18.here hx rfl (hb hby at_56) rfl k) ?_
        refine Ends.st (S' := T18.setTop (mkF m 59 #[.val (.int v0), .val (.int v1), .val (.int v2), .val (.int (1 : Int32)), .val (.ref w1), .val (.int (v1 &&& (3 : Int32))), .val (.int (v0 &&& (255 : Int32)))] [])) (fun _ k => XS.istore X18.here hx rfl (hb hby at_57) rfl (l' := #[.val (.int v0), .val (.int v1), .val (.int v2), .val (.int (1 : Int32)), .val (.ref w1), .val (.int (v1 &&& (3 : Int32))), .val (.int (v0 &&& (255 : Int32)))]) rfl k) ?_
        refine Ends.st (S' := T18.setTop (mkF m 90 #[.val (.int v0), .val (.int v1), .val (.int v2), .val (.int (1 : Int32)), .val (.ref w1), .val (.int (v1 &&& (3 : Int32))), .val (.int (v0 &&& (255 : Int32)))] [])) (fun _ k => XS.goto X18.here hx rfl (pc0 := 59) (pc' := 90) rfl (hb hby at_59) (by decide) (by decide) k) ?_
        refine Ends.st (S' := T18.setTop (mkF m 92 #[.val (.int v0), .val (.int v1), .val (.int v2), .val (.int (1 : Int32)), .val (.ref w1), .val (.int (v1 &&& (3 : Int32))), .val (.int (v0 &&& (255 : Int32)))] [(.ref w1)])) (fun _ k => XS.aload X18.here hx rfl (hb hby at_90) rfl rfl k) ?_
        refine Ends.st (S' := T18.setTop (mkF m 94 #[.val (.int v0), .val (.int v1), .val (.int v2), .val (.int (1 : Int32)), .val (.ref w1), .val (.int (v1 &&& (3 : Int32))), .val (.int (v0 &&& (255 : Int32)))] [(.int (v0 &&& (255 : Int32))), (.ref w1)])) (fun _ k => XS.iload X18.here hx rfl (hb hby at_92) rfl k) ?_
        obtain ⟨cq24, kq24, q24a, q24b, q24c⟩ := isOf hZ e18 (E11)
        obtain ⟨_, _, ⟨T24, L24, k24, n24⟩, -, X24, ⟨Lc24, hQ24, l24, y24, z24⟩, st24⟩ := X18.virtualBack hx (y := (⟨"com/example/ruleweave/ruleweave/XmlVersion", "holdsInText", "(I)Z"⟩ : MethodName)) (z := (⟨"com/example/ruleweave/ruleweave/XmlVersion", "holdsInText", "(I)Z"⟩ : MethodName)) hown (mvT hZ (hw _ (List.mem_of_getElem? (i := 5) rfl))) (mvT hZ (hw _ (List.mem_of_getElem? (i := 6) rfl))) (notFace_of_selects (args := #[]) (mvT hZ (hw _ (List.mem_of_getElem? (i := 8) rfl)))) (mvT hZ (hw _ (List.mem_of_getElem? (i := 8) rfl))) (mvT hZ (hw _ (List.mem_of_getElem? (i := 7) rfl))) (by decide) (backOf (W := 0) (rm1 l Z a0 hw [] w1 w1 (v0 &&& (255 : Int32)) h0 n0 Z0 S11) hZ (hw _ (List.mem_of_getElem? (i := 9) rfl)) (hw _ (List.mem_of_getElem? (i := 1) rfl)) (by decide) (by decide)) q24a q24c (g := (mkF m 94 #[.val (.int v0), .val (.int v1), .val (.int v2), .val (.int (1 : Int32)), .val (.ref w1), .val (.int (v1 &&& (3 : Int32))), .val (.int (v0 &&& (255 : Int32)))] [(.int (v0 &&& (255 : Int32))), (.ref w1)])) rfl (by rw [hml]; rfl) (Steps.refl _) (argsL := [(.int (v0 &&& (255 : Int32)))]) (rest := []) (lenOf pd_0 rfl) rfl (by show 2 * 0 + _ ≤ _; exact Nat.le_of_eq rfl) (hb hby at_94) (fun _ _ => ⟨rfl, e18, (by decide : 0 + 0 ≤ _), (by decide : 0 + 0 ≤ _)⟩)
        dsimp only [Pt.U, Pt.locs, Pt.cells, Pt.slots] at X24 l24 y24 z24 st24 hQ24
        subst l24 y24 z24
        obtain ⟨rfl, N24q, e24⟩ := hQ24
        have N24 := Fr.app N0 N24q
        refine Ends.st (S' := T24.setTop (mkF m 97 #[.val (.int v0), .val (.int v1), .val (.int v2), .val (.int (1 : Int32)), .val (.ref w1), .val (.int (v1 &&& (3 : Int32))), .val (.int (v0 &&& (255 : Int32)))] [(.int (f1 w1 w1 (v0 &&& (255 : Int32))))])) (fun _ k => st24.trans k) ?_
        refine Ends.st (S' := T24.setTop (mkF m 98 #[.val (.int v0), .val (.int v1), .val (.int v2), .val (.int (1 : Int32)), .val (.ref w1), .val (.int (v1 &&& (3 : Int32))), .val (.int (v0 &&& (255 : Int32)))] [(.int (1 : Int32)), (.int (f1 w1 w1 (v0 &&& (255 : Int32))))])) (fun _ k => XS.iloadN X24.here hx rfl (hb hby at_97) rfl k) ?_
        refine Ends.st (S' := T24.setTop (mkF m 100 #[.val (.int v0), .val (.int v1), .val (.int v2), .val (.int (1 : Int32)), .val (.ref w1), .val (.int (v1 &&& (3 : Int32))), .val (.int (v0 &&& (255 : Int32)))] [(.int (v0 &&& (255 : Int32))), (.int (1 : Int32)), (.int (f1 w1 w1 (v0 &&& (255 : Int32))))])) (fun _ k => XS.iload X24.here hx rfl (hb hby at_98) rfl k) ?_
        obtain ⟨_, _, ⟨T25, L25, k25, n25⟩, -, X25, ⟨Lc25, hQ25, l25, y25, z25⟩, st25⟩ := Jvm.LawKit.callS X24 hx (y := (⟨"com/example/ruleweave/ruleweave/XmlVersionHoldsInTextPinLaw", "expected", "(ZI)Z"⟩ : MethodName)) hown (mvT hZ (hw _ (List.mem_of_getElem? (i := 13) rfl))) (mvT hZ (hw _ (List.mem_of_getElem? (i := 14) rfl))) (mvT hZ (hw _ (List.mem_of_getElem? (i := 15) rfl))) (mvT hZ (hw _ (List.mem_of_getElem? (i := 16) rfl))) (by decide) (backOf (W := 1) (rm2 l Z a0 hw [] (1 : Int32) (v0 &&& (255 : Int32)) h0 n0 Z0) hZ (hw _ (List.mem_of_getElem? (i := 16) rfl)) (hw _ (List.mem_of_getElem? (i := 15) rfl)) (by decide) (by decide)) (g := (mkF m 100 #[.val (.int v0), .val (.int v1), .val (.int v2), .val (.int (1 : Int32)), .val (.ref w1), .val (.int (v1 &&& (3 : Int32))), .val (.int (v0 &&& (255 : Int32)))] [(.int (v0 &&& (255 : Int32))), (.int (1 : Int32)), (.int (f1 w1 w1 (v0 &&& (255 : Int32))))])) rfl (by rw [hml]; rfl) (argsL := [(.int (1 : Int32)), (.int (v0 &&& (255 : Int32)))]) (rest := [(.int (f1 w1 w1 (v0 &&& (255 : Int32))))]) (lenOf pd_1 rfl) rfl (by show 2 * 0 + _ ≤ _; exact Nat.le_of_eq rfl) (hb hby at_100) (fun _ _ => ⟨rfl, e24, (by decide : 0 + 0 + 0 ≤ _), (by decide : 0 + 0 + 0 ≤ _)⟩)
        dsimp only [Pt.U, Pt.locs, Pt.cells, Pt.slots] at X25 l25 y25 z25 st25 hQ25
        subst l25 y25 z25
        obtain ⟨rfl, N25q, e25⟩ := hQ25
        have N25 := Fr.app N24 N25q
        refine Ends.st (S' := T25.setTop (mkF m 103 #[.val (.int v0), .val (.int v1), .val (.int v2), .val (.int (1 : Int32)), .val (.ref w1), .val (.int (v1 &&& (3 : Int32))), .val (.int (v0 &&& (255 : Int32)))] [(.int (f2 (1 : Int32) (v0 &&& (255 : Int32)))), (.int (f1 w1 w1 (v0 &&& (255 : Int32))))])) (fun _ k => st25 _ k) ?_
        have hb26 : (f1 w1 w1 (v0 &&& (255 : Int32))) = (f2 (1 : Int32) (v0 &&& (255 : Int32))) := own_both _ _ _ _ (Or.inr ⟨by decide, rfl⟩) (own_nn1 v0)
        refine Ends.st (S' := T25.setTop (mkF m 106 #[.val (.int v0), .val (.int v1), .val (.int v2), .val (.int (1 : Int32)), .val (.ref w1), .val (.int (v1 &&& (3 : Int32))), .val (.int (v0 &&& (255 : Int32)))] [])) (fun _ k => XS.icmpNo X25.here hx rfl (hb hby at_103) rfl (teq hb26).2 k) ?_
        refine Ends.st (S' := T25.setTop (mkF m 107 #[.val (.int v0), .val (.int v1), .val (.int v2), .val (.int (1 : Int32)), .val (.ref w1), .val (.int (v1 &&& (3 : Int32))), .val (.int (v0 &&& (255 : Int32)))] [(.int (1 : Int32))])) (fun _ k => XS.iconst X25.here hx rfl (hb hby at_106) k) ?_
        refine Ends.st (S' := T25.setTop (mkF m 111 #[.val (.int v0), .val (.int v1), .val (.int v2), .val (.int (1 : Int32)), .val (.ref w1), .val (.int (v1 &&& (3 : Int32))), .val (.int (v0 &&& (255 : Int32)))] [(.int (1 : Int32))])) (fun _ k => XS.goto X25.here hx rfl (pc0 := 107) (pc' := 111) rfl (hb hby at_107) (by decide) (by decide) k) ?_
        obtain ⟨fs, hr, hrun, hended, hW, hsame⟩ := X25.leave (v := some (.int (1 : Int32))) (fun h => by rw [Bd.returns] at h; cases h)
        exact ⟨_, _, retN X25 hx (t := .boolean) Bd.returns (by simp) (hb hby at_111) hr, hrun, hended, _, _, rfl, (by show Q0 Z  h0 n0 _ T25.heap _; rw [e25]; exact ⟨rfl, N25⟩), ⟨_, rfl⟩, hW, hsame.mono (by decide) (by decide)⟩
      · refine Ends.st (S' := T18.setTop (mkF m 62 #[.val (.int v0), .val (.int v1), .val (.int v2), .val (.int (1 : Int32)), .val (.ref w1), .val (.int (v1 &&& (3 : Int32))), .unset] [])) (fun _ k => XS.icmpYes X18.here hx rfl (pc0 := 49) (pc' := 62) rfl (hb hby at_49) rfl (feq hc23).2 (by decide) (by decide) k) ?_
        refine Ends.st (S' := T18.setTop (mkF m 64 #[.val (.int v0), .val (.int v1), .val (.int v2), .val (.int (1 : Int32)), .val (.ref w1), .val (.int (v1 &&& (3 : Int32))), .unset] [(.int (v1 &&& (3 : Int32)))])) (fun _ k => XS.iload X18.here hx rfl (hb hby at_62) rfl k) ?_
        refine Ends.st (S' := T18.setTop (mkF m 65 #[.val (.int v0), .val (.int v1), .val (.int v2), .val (.int (1 : Int32)), .val (.ref w1), .val (.int (v1 &&& (3 : Int32))), .unset] [(.int (2 : Int32)), (.int (v1 &&& (3 : Int32)))])) (fun _ k => XS.iconst X18.here hx rfl (hb hby at_64) k) ?_
        by_cases hc27 : (v1 &&& (3 : Int32)) = (2 : Int32)
        · refine Ends.st (S' := T18.setTop (mkF m 68 #[.val (.int v0), .val (.int v1), .val (.int v2), .val (.int (1 : Int32)), .val (.ref w1), .val (.int (v1 &&& (3 : Int32))), .unset] [])) (fun _ k => XS.icmpNo X18.here hx rfl (hb hby at_65) rfl (teq hc27).2 k) ?_
          refine Ends.st (S' := T18.setTop (mkF m 70 #[.val (.int v0), .val (.int v1), .val (.int v2), .val (.int (1 : Int32)), .val (.ref w1), .val (.int (v1 &&& (3 : Int32))), .unset] [(.int (55040 : Int32))])) (fun _ k => X18.ldcInt hx hown (mvT hZ (hw _ (List.mem_of_getElem? (i := 24) rfl))) (g := (mkF m 68 #[.val (.int v0), .val (.int v1), .val (.int v2), .val (.int (1 : Int32)), .val (.ref w1), .val (.int (v1 &&& (3 : Int32))), .unset] [])) rfl (hb hby at_68) _ k) ?_
          refine Ends.st (S' := T18.setTop (mkF m 71 #[.val (.int v0), .val (.int v1), .val (.int v2), .val (.int (1 : Int32)), .val (.ref w1), .val (.int (v1 &&& (3 : Int32))), .unset] [(.int v0), (.int (55040 : Int32))])) (fun _ k => XS.iloadN X18.here hx rfl (hb hby at_70) rfl k) ?_
          refine Ends.st (S' := T18.setTop (mkF m 74 #[.val (.int v0), .val (.int v1), .val (.int v2), .val (.int (1 : Int32)), .val (.ref w1), .val (.int (v1 &&& (3 : Int32))), .unset] [(.int (4095 : Int32)), (.int v0), (.int (55040 : Int32))])) (fun _ k => XS.sipush X18.here hx rfl (hb hby at_71) k) ?_
          refine Ends.st (S' := T18.setTop (mkF m 75 #[.val (.int v0), .val (.int v1), .val (.int v2), .val (.int (1 : Int32)), .val (.ref w1), .val (.int (v1 &&& (3 : Int32))), .unset] [(.int (v0 &&& (4095 : Int32))), (.int (55040 : Int32))])) (fun _ k => XS.iand X18.here hx rfl (hb hby at_74) rfl k) ?_
          refine Ends.st (S' := T18.setTop (mkF m 76 #[.val (.int v0), .val (.int v1), .val (.int v2), .val (.int (1 : Int32)), .val (.ref w1), .val (.int (v1 &&& (3 : Int32))), .unset] [(.int ((55040 : Int32) + (v0 &&& (4095 : Int32))))])) (fun _ k => XS.iadd X18.here hx rfl (hb hby at_75) rfl k) ?_
          refine Ends.st (S' := T18.setTop (mkF m 78 #[.val (.int v0), .val (.int v1), .val (.int v2), .val (.int (1 : Int32)), .val (.ref w1), .val (.int (v1 &&& (3 : Int32))), .val (.int ((55040 : Int32) + (v0 &&& (4095 : Int32))))] [])) (fun _ k => XS.istore X18.here hx rfl (hb hby at_76) rfl (l' := #[.val (.int v0), .val (.int v1), .val (.int v2), .val (.int (1 : Int32)), .val (.ref w1), .val (.int (v1 &&& (3 : Int32))), .val (.int ((55040 : Int32) + (v0 &&& (4095 : Int32))))]) rfl k) ?_
          refine Ends.st (S' := T18.setTop (mkF m 90 #[.val (.int v0), .val (.int v1), .val (.int v2), .val (.int (1 : Int32)), .val (.ref w1), .val (.int (v1 &&& (3 : Int32))), .val (.int ((55040 : Int32) + (v0 &&& (4095 : Int32))))] [])) (fun _ k => XS.goto X18.here hx rfl (pc0 := 78) (pc' := 90) rfl (hb hby at_78) (by decide) (by decide) k) ?_
          refine Ends.st (S' := T18.setTop (mkF m 92 #[.val (.int v0), .val (.int v1), .val (.int v2), .val (.int (1 : Int32)), .val (.ref w1), .val (.int (v1 &&& (3 : Int32))), .val (.int ((55040 : Int32) + (v0 &&& (4095 : Int32))))] [(.ref w1)])) (fun _ k => XS.aload X18.here hx rfl (hb hby at_90) rfl rfl k) ?_
          refine Ends.st (S' := T18.setTop (mkF m 94 #[.val (.int v0), .val (.int v1), .val (.int v2), .val (.int (1 : Int32)), .val (.ref w1), .val (.int (v1 &&& (3 : Int32))), .val (.int ((55040 : Int32) + (v0 &&& (4095 : Int32))))] [(.int ((55040 : Int32) + (v0 &&& (4095 : Int32)))), (.ref w1)])) (fun _ k => XS.iload X18.here hx rfl (hb hby at_92) rfl k) ?_
          obtain ⟨cq28, kq28, q28a, q28b, q28c⟩ := isOf hZ e18 (E11)
          obtain ⟨_, _, ⟨T28, L28, k28, n28⟩, -, X28, ⟨Lc28, hQ28, l28, y28, z28⟩, st28⟩ := X18.virtualBack hx (y := (⟨"com/example/ruleweave/ruleweave/XmlVersion", "holdsInText", "(I)Z"⟩ : MethodName)) (z := (⟨"com/example/ruleweave/ruleweave/XmlVersion", "holdsInText", "(I)Z"⟩ : MethodName)) hown (mvT hZ (hw _ (List.mem_of_getElem? (i := 5) rfl))) (mvT hZ (hw _ (List.mem_of_getElem? (i := 6) rfl))) (notFace_of_selects (args := #[]) (mvT hZ (hw _ (List.mem_of_getElem? (i := 8) rfl)))) (mvT hZ (hw _ (List.mem_of_getElem? (i := 8) rfl))) (mvT hZ (hw _ (List.mem_of_getElem? (i := 7) rfl))) (by decide) (backOf (W := 0) (rm1 l Z a0 hw [] w1 w1 ((55040 : Int32) + (v0 &&& (4095 : Int32))) h0 n0 Z0 S11) hZ (hw _ (List.mem_of_getElem? (i := 9) rfl)) (hw _ (List.mem_of_getElem? (i := 1) rfl)) (by decide) (by decide)) q28a q28c (g := (mkF m 94 #[.val (.int v0), .val (.int v1), .val (.int v2), .val (.int (1 : Int32)), .val (.ref w1), .val (.int (v1 &&& (3 : Int32))), .val (.int ((55040 : Int32) + (v0 &&& (4095 : Int32))))] [(.int ((55040 : Int32) + (v0 &&& (4095 : Int32)))), (.ref w1)])) rfl (by rw [hml]; rfl) (Steps.refl _) (argsL := [(.int ((55040 : Int32) + (v0 &&& (4095 : Int32))))]) (rest := []) (lenOf pd_0 rfl) rfl (by show 2 * 0 + _ ≤ _; exact Nat.le_of_eq rfl) (hb hby at_94) (fun _ _ => ⟨rfl, e18, (by decide : 0 + 0 ≤ _), (by decide : 0 + 0 ≤ _)⟩)
          dsimp only [Pt.U, Pt.locs, Pt.cells, Pt.slots] at X28 l28 y28 z28 st28 hQ28
          subst l28 y28 z28
          obtain ⟨rfl, N28q, e28⟩ := hQ28
          have N28 := Fr.app N0 N28q
          refine Ends.st (S' := T28.setTop (mkF m 97 #[.val (.int v0), .val (.int v1), .val (.int v2), .val (.int (1 : Int32)), .val (.ref w1), .val (.int (v1 &&& (3 : Int32))), .val (.int ((55040 : Int32) + (v0 &&& (4095 : Int32))))] [(.int (f1 w1 w1 ((55040 : Int32) + (v0 &&& (4095 : Int32)))))])) (fun _ k => st28.trans k) ?_
          refine Ends.st (S' := T28.setTop (mkF m 98 #[.val (.int v0), .val (.int v1), .val (.int v2), .val (.int (1 : Int32)), .val (.ref w1), .val (.int (v1 &&& (3 : Int32))), .val (.int ((55040 : Int32) + (v0 &&& (4095 : Int32))))] [(.int (1 : Int32)), (.int (f1 w1 w1 ((55040 : Int32) + (v0 &&& (4095 : Int32)))))])) (fun _ k => XS.iloadN X28.here hx rfl (hb hby at_97) rfl k) ?_
          refine Ends.st (S' := T28.setTop (mkF m 100 #[.val (.int v0), .val (.int v1), .val (.int v2), .val (.int (1 : Int32)), .val (.ref w1), .val (.int (v1 &&& (3 : Int32))), .val (.int ((55040 : Int32) + (v0 &&& (4095 : Int32))))] [(.int ((55040 : Int32) + (v0 &&& (4095 : Int32)))), (.int (1 : Int32)), (.int (f1 w1 w1 ((55040 : Int32) + (v0 &&& (4095 : Int32)))))])) (fun _ k => XS.iload X28.here hx rfl (hb hby at_98) rfl k) ?_
          obtain ⟨_, _, ⟨T29, L29, k29, n29⟩, -, X29, ⟨Lc29, hQ29, l29, y29, z29⟩, st29⟩ := Jvm.LawKit.callS X28 hx (y := (⟨"com/example/ruleweave/ruleweave/XmlVersionHoldsInTextPinLaw", "expected", "(ZI)Z"⟩ : MethodName)) hown (mvT hZ (hw _ (List.mem_of_getElem? (i := 13) rfl))) (mvT hZ (hw _ (List.mem_of_getElem? (i := 14) rfl))) (mvT hZ (hw _ (List.mem_of_getElem? (i := 15) rfl))) (mvT hZ (hw _ (List.mem_of_getElem? (i := 16) rfl))) (by decide) (backOf (W := 1) (rm2 l Z a0 hw [] (1 : Int32) ((55040 : Int32) + (v0 &&& (4095 : Int32))) h0 n0 Z0) hZ (hw _ (List.mem_of_getElem? (i := 16) rfl)) (hw _ (List.mem_of_getElem? (i := 15) rfl)) (by decide) (by decide)) (g := (mkF m 100 #[.val (.int v0), .val (.int v1), .val (.int v2), .val (.int (1 : Int32)), .val (.ref w1), .val (.int (v1 &&& (3 : Int32))), .val (.int ((55040 : Int32) + (v0 &&& (4095 : Int32))))] [(.int ((55040 : Int32) + (v0 &&& (4095 : Int32)))), (.int (1 : Int32)), (.int (f1 w1 w1 ((55040 : Int32) + (v0 &&& (4095 : Int32)))))])) rfl (by rw [hml]; rfl) (argsL := [(.int (1 : Int32)), (.int ((55040 : Int32) + (v0 &&& (4095 : Int32))))]) (rest := [(.int (f1 w1 w1 ((55040 : Int32) + (v0 &&& (4095 : Int32)))))]) (lenOf pd_1 rfl) rfl (by show 2 * 0 + _ ≤ _; exact Nat.le_of_eq rfl) (hb hby at_100) (fun _ _ => ⟨rfl, e28, (by decide : 0 + 0 + 0 ≤ _), (by decide : 0 + 0 + 0 ≤ _)⟩)
          dsimp only [Pt.U, Pt.locs, Pt.cells, Pt.slots] at X29 l29 y29 z29 st29 hQ29
          subst l29 y29 z29
          obtain ⟨rfl, N29q, e29⟩ := hQ29
          have N29 := Fr.app N28 N29q
          refine Ends.st (S' := T29.setTop (mkF m 103 #[.val (.int v0), .val (.int v1), .val (.int v2), .val (.int (1 : Int32)), .val (.ref w1), .val (.int (v1 &&& (3 : Int32))), .val (.int ((55040 : Int32) + (v0 &&& (4095 : Int32))))] [(.int (f2 (1 : Int32) ((55040 : Int32) + (v0 &&& (4095 : Int32))))), (.int (f1 w1 w1 ((55040 : Int32) + (v0 &&& (4095 : Int32)))))])) (fun _ k => st29 _ k) ?_
          have hb30 : (f1 w1 w1 ((55040 : Int32) + (v0 &&& (4095 : Int32)))) = (f2 (1 : Int32) ((55040 : Int32) + (v0 &&& (4095 : Int32)))) := own_both _ _ _ _ (Or.inr ⟨by decide, rfl⟩) (own_nn2 v0)
          refine Ends.st (S' := T29.setTop (mkF m 106 #[.val (.int v0), .val (.int v1), .val (.int v2), .val (.int (1 : Int32)), .val (.ref w1), .val (.int (v1 &&& (3 : Int32))), .val (.int ((55040 : Int32) + (v0 &&& (4095 : Int32))))] [])) (fun _ k => XS.icmpNo X29.here hx rfl (hb hby at_103) rfl (teq hb30).2 k) ?_
          refine Ends.st (S' := T29.setTop (mkF m 107 #[.val (.int v0), .val (.int v1), .val (.int v2), .val (.int (1 : Int32)), .val (.ref w1), .val (.int (v1 &&& (3 : Int32))), .val (.int ((55040 : Int32) + (v0 &&& (4095 : Int32))))] [(.int (1 : Int32))])) (fun _ k => XS.iconst X29.here hx rfl (hb hby at_106) k) ?_
          refine Ends.st (S' := T29.setTop (mkF m 111 #[.val (.int v0), .val (.int v1), .val (.int v2), .val (.int (1 : Int32)), .val (.ref w1), .val (.int (v1 &&& (3 : Int32))), .val (.int ((55040 : Int32) + (v0 &&& (4095 : Int32))))] [(.int (1 : Int32))])) (fun _ k => XS.goto X29.here hx rfl (pc0 := 107) (pc' := 111) rfl (hb hby at_107) (by decide) (by decide) k) ?_
          obtain ⟨fs, hr, hrun, hended, hW, hsame⟩ := X29.leave (v := some (.int (1 : Int32))) (fun h => by rw [Bd.returns] at h; cases h)
          exact ⟨_, _, retN X29 hx (t := .boolean) Bd.returns (by simp) (hb hby at_111) hr, hrun, hended, _, _, rfl, (by show Q0 Z  h0 n0 _ T29.heap _; rw [e29]; exact ⟨rfl, N29⟩), ⟨_, rfl⟩, hW, hsame.mono (by decide) (by decide)⟩
        · refine Ends.st (S' := T18.setTop (mkF m 81 #[.val (.int v0), .val (.int v1), .val (.int v2), .val (.int (1 : Int32)), .val (.ref w1), .val (.int (v1 &&& (3 : Int32))), .unset] [])) (fun _ k => XS.icmpYes X18.here hx rfl (pc0 := 65) (pc' := 81) rfl (hb hby at_65) rfl (feq hc27).2 (by decide) (by decide) k) ?_
          refine Ends.st (S' := T18.setTop (mkF m 83 #[.val (.int v0), .val (.int v1), .val (.int v2), .val (.int (1 : Int32)), .val (.ref w1), .val (.int (v1 &&& (3 : Int32))), .unset] [(.int (65280 : Int32))])) (fun _ k => X18.ldcInt hx hown (mvT hZ (hw _ (List.mem_of_getElem? (i := 3) rfl))) (g := (mkF m 81 #[.val (.int v0), .val (.int v1), .val (.int v2), .val (.int (1 : Int32)), .val (.ref w1), .val (.int (v1 &&& (3 : Int32))), .unset] [])) rfl (hb hby at_81) _ k) ?_
          refine Ends.st (S' := T18.setTop (mkF m 84 #[.val (.int v0), .val (.int v1), .val (.int v2), .val (.int (1 : Int32)), .val (.ref w1), .val (.int (v1 &&& (3 : Int32))), .unset] [(.int v0), (.int (65280 : Int32))])) (fun _ k => XS.iloadN X18.here hx rfl (hb hby at_83) rfl k) ?_
          refine Ends.st (S' := T18.setTop (mkF m 86 #[.val (.int v0), .val (.int v1), .val (.int v2), .val (.int (1 : Int32)), .val (.ref w1), .val (.int (v1 &&& (3 : Int32))), .unset] [(.int (131071 : Int32)), (.int v0), (.int (65280 : Int32))])) (fun _ k => X18.ldcInt hx hown (mvT hZ (hw _ (List.mem_of_getElem? (i := 4) rfl))) (g := (mkF m 84 #[.val (.int v0), .val (.int v1), .val (.int v2), .val (.int (1 : Int32)), .val (.ref w1), .val (.int (v1 &&& (3 : Int32))), .unset] [(.int v0), (.int (65280 : Int32))])) rfl (hb hby at_84) _ k) ?_
          refine Ends.st (S' := T18.setTop (mkF m 87 #[.val (.int v0), .val (.int v1), .val (.int v2), .val (.int (1 : Int32)), .val (.ref w1), .val (.int (v1 &&& (3 : Int32))), .unset] [(.int (v0 &&& (131071 : Int32))), (.int (65280 : Int32))])) (fun _ k => XS.iand X18.here hx rfl (hb hby at_86) rfl k) ?_
          refine Ends.st (S' := T18.setTop (mkF m 88 #[.val (.int v0), .val (.int v1), .val (.int v2), .val (.int (1 : Int32)), .val (.ref w1), .val (.int (v1 &&& (3 : Int32))), .unset] [(.int ((65280 : Int32) + (v0 &&& (131071 : Int32))))])) (fun _ k => XS.iadd X18.here hx rfl (hb hby at_87) rfl k) ?_
          refine Ends.st (S' := T18.setTop (mkF m 90 #[.val (.int v0), .val (.int v1), .val (.int v2), .val (.int (1 : Int32)), .val (.ref w1), .val (.int (v1 &&& (3 : Int32))), .val (.int ((65280 : Int32) + (v0 &&& (131071 : Int32))))] [])) (fun _ k => XS.istore X18.here hx rfl (hb hby at_88) rfl (l' := #[.val (.int v0), .val (.int v1), .val (.int v2), .val (.int (1 : Int32)), .val (.ref w1), .val (.int (v1 &&& (3 : Int32))), .val (.int ((65280 : Int32) + (v0 &&& (131071 : Int32))))]) rfl k) ?_
          refine Ends.st (S' := T18.setTop (mkF m 92 #[.val (.int v0), .val (.int v1), .val (.int v2), .val (.int (1 : Int32)), .val (.ref w1), .val (.int (v1 &&& (3 : Int32))), .val (.int ((65280 : Int32) + (v0 &&& (131071 : Int32))))] [(.ref w1)])) (fun _ k => XS.aload X18.here hx rfl (hb hby at_90) rfl rfl k) ?_
          refine Ends.st (S' := T18.setTop (mkF m 94 #[.val (.int v0), .val (.int v1), .val (.int v2), .val (.int (1 : Int32)), .val (.ref w1), .val (.int (v1 &&& (3 : Int32))), .val (.int ((65280 : Int32) + (v0 &&& (131071 : Int32))))] [(.int ((65280 : Int32) + (v0 &&& (131071 : Int32)))), (.ref w1)])) (fun _ k => XS.iload X18.here hx rfl (hb hby at_92) rfl k) ?_
          obtain ⟨cq31, kq31, q31a, q31b, q31c⟩ := isOf hZ e18 (E11)
          obtain ⟨_, _, ⟨T31, L31, k31, n31⟩, -, X31, ⟨Lc31, hQ31, l31, y31, z31⟩, st31⟩ := X18.virtualBack hx (y := (⟨"com/example/ruleweave/ruleweave/XmlVersion", "holdsInText", "(I)Z"⟩ : MethodName)) (z := (⟨"com/example/ruleweave/ruleweave/XmlVersion", "holdsInText", "(I)Z"⟩ : MethodName)) hown (mvT hZ (hw _ (List.mem_of_getElem? (i := 5) rfl))) (mvT hZ (hw _ (List.mem_of_getElem? (i := 6) rfl))) (notFace_of_selects (args := #[]) (mvT hZ (hw _ (List.mem_of_getElem? (i := 8) rfl)))) (mvT hZ (hw _ (List.mem_of_getElem? (i := 8) rfl))) (mvT hZ (hw _ (List.mem_of_getElem? (i := 7) rfl))) (by decide) (backOf (W := 0) (rm1 l Z a0 hw [] w1 w1 ((65280 : Int32) + (v0 &&& (131071 : Int32))) h0 n0 Z0 S11) hZ (hw _ (List.mem_of_getElem? (i := 9) rfl)) (hw _ (List.mem_of_getElem? (i := 1) rfl)) (by decide) (by decide)) q31a q31c (g := (mkF m 94 #[.val (.int v0), .val (.int v1), .val (.int v2), .val (.int (1 : Int32)), .val (.ref w1), .val (.int (v1 &&& (3 : Int32))), .val (.int ((65280 : Int32) + (v0 &&& (131071 : Int32))))] [(.int ((65280 : Int32) + (v0 &&& (131071 : Int32)))), (.ref w1)])) rfl (by rw [hml]; rfl) (Steps.refl _) (argsL := [(.int ((65280 : Int32) + (v0 &&& (131071 : Int32))))]) (rest := []) (lenOf pd_0 rfl) rfl (by show 2 * 0 + _ ≤ _; exact Nat.le_of_eq rfl) (hb hby at_94) (fun _ _ => ⟨rfl, e18, (by decide : 0 + 0 ≤ _), (by decide : 0 + 0 ≤ _)⟩)
          dsimp only [Pt.U, Pt.locs, Pt.cells, Pt.slots] at X31 l31 y31 z31 st31 hQ31
          subst l31 y31 z31
          obtain ⟨rfl, N31q, e31⟩ := hQ31
          have N31 := Fr.app N0 N31q
          refine Ends.st (S' := T31.setTop (mkF m 97 #[.val (.int v0), .val (.int v1), .val (.int v2), .val (.int (1 : Int32)), .val (.ref w1), .val (.int (v1 &&& (3 : Int32))), .val (.int ((65280 : Int32) + (v0 &&& (131071 : Int32))))] [(.int (f1 w1 w1 ((65280 : Int32) + (v0 &&& (131071 : Int32)))))])) (fun _ k => st31.trans k) ?_
          refine Ends.st (S' := T31.setTop (mkF m 98 #[.val (.int v0), .val (.int v1), .val (.int v2), .val (.int (1 : Int32)), .val (.ref w1), .val (.int (v1 &&& (3 : Int32))), .val (.int ((65280 : Int32) + (v0 &&& (131071 : Int32))))] [(.int (1 : Int32)), (.int (f1 w1 w1 ((65280 : Int32) + (v0 &&& (131071 : Int32)))))])) (fun _ k => XS.iloadN X31.here hx rfl (hb hby at_97) rfl k) ?_
          refine Ends.st (S' := T31.setTop (mkF m 100 #[.val (.int v0), .val (.int v1), .val (.int v2), .val (.int (1 : Int32)), .val (.ref w1), .val (.int (v1 &&& (3 : Int32))), .val (.int ((65280 : Int32) + (v0 &&& (131071 : Int32))))] [(.int ((65280 : Int32) + (v0 &&& (131071 : Int32)))), (.int (1 : Int32)), (.int (f1 w1 w1 ((65280 : Int32) + (v0 &&& (131071 : Int32)))))])) (fun _ k => XS.iload X31.here hx rfl (hb hby at_98) rfl k) ?_
          obtain ⟨_, _, ⟨T32, L32, k32, n32⟩, -, X32, ⟨Lc32, hQ32, l32, y32, z32⟩, st32⟩ := Jvm.LawKit.callS X31 hx (y := (⟨"com/example/ruleweave/ruleweave/XmlVersionHoldsInTextPinLaw", "expected", "(ZI)Z"⟩ : MethodName)) hown (mvT hZ (hw _ (List.mem_of_getElem? (i := 13) rfl))) (mvT hZ (hw _ (List.mem_of_getElem? (i := 14) rfl))) (mvT hZ (hw _ (List.mem_of_getElem? (i := 15) rfl))) (mvT hZ (hw _ (List.mem_of_getElem? (i := 16) rfl))) (by decide) (backOf (W := 1) (rm2 l Z a0 hw [] (1 : Int32) ((65280 : Int32) + (v0 &&& (131071 : Int32))) h0 n0 Z0) hZ (hw _ (List.mem_of_getElem? (i := 16) rfl)) (hw _ (List.mem_of_getElem? (i := 15) rfl)) (by decide) (by decide)) (g := (mkF m 100 #[.val (.int v0), .val (.int v1), .val (.int v2), .val (.int (1 : Int32)), .val (.ref w1), .val (.int (v1 &&& (3 : Int32))), .val (.int ((65280 : Int32) + (v0 &&& (131071 : Int32))))] [(.int ((65280 : Int32) + (v0 &&& (131071 : Int32)))), (.int (1 : Int32)), (.int (f1 w1 w1 ((65280 : Int32) + (v0 &&& (131071 : Int32)))))])) rfl (by rw [hml]; rfl) (argsL := [(.int (1 : Int32)), (.int ((65280 : Int32) + (v0 &&& (131071 : Int32))))]) (rest := [(.int (f1 w1 w1 ((65280 : Int32) + (v0 &&& (131071 : Int32)))))]) (lenOf pd_1 rfl) rfl (by show 2 * 0 + _ ≤ _; exact Nat.le_of_eq rfl) (hb hby at_100) (fun _ _ => ⟨rfl, e31, (by decide : 0 + 0 + 0 ≤ _), (by decide : 0 + 0 + 0 ≤ _)⟩)
          dsimp only [Pt.U, Pt.locs, Pt.cells, Pt.slots] at X32 l32 y32 z32 st32 hQ32
          subst l32 y32 z32
          obtain ⟨rfl, N32q, e32⟩ := hQ32
          have N32 := Fr.app N31 N32q
          refine Ends.st (S' := T32.setTop (mkF m 103 #[.val (.int v0), .val (.int v1), .val (.int v2), .val (.int (1 : Int32)), .val (.ref w1), .val (.int (v1 &&& (3 : Int32))), .val (.int ((65280 : Int32) + (v0 &&& (131071 : Int32))))] [(.int (f2 (1 : Int32) ((65280 : Int32) + (v0 &&& (131071 : Int32))))), (.int (f1 w1 w1 ((65280 : Int32) + (v0 &&& (131071 : Int32)))))])) (fun _ k => st32 _ k) ?_
          have hb33 : (f1 w1 w1 ((65280 : Int32) + (v0 &&& (131071 : Int32)))) = (f2 (1 : Int32) ((65280 : Int32) + (v0 &&& (131071 : Int32)))) := own_both _ _ _ _ (Or.inr ⟨by decide, rfl⟩) (own_nn3 v0)
          refine Ends.st (S' := T32.setTop (mkF m 106 #[.val (.int v0), .val (.int v1), .val (.int v2), .val (.int (1 : Int32)), .val (.ref w1), .val (.int (v1 &&& (3 : Int32))), .val (.int ((65280 : Int32) + (v0 &&& (131071 : Int32))))] [])) (fun _ k => XS.icmpNo X32.here hx rfl (hb hby at_103) rfl (teq hb33).2 k) ?_
          refine Ends.st (S' := T32.setTop (mkF m 107 #[.val (.int v0), .val (.int v1), .val (.int v2), .val (.int (1 : Int32)), .val (.ref w1), .val (.int (v1 &&& (3 : Int32))), .val (.int ((65280 : Int32) + (v0 &&& (131071 : Int32))))] [(.int (1 : Int32))])) (fun _ k => XS.iconst X32.here hx rfl (hb hby at_106) k) ?_
          refine Ends.st (S' := T32.setTop (mkF m 111 #[.val (.int v0), .val (.int v1), .val (.int v2), .val (.int (1 : Int32)), .val (.ref w1), .val (.int (v1 &&& (3 : Int32))), .val (.int ((65280 : Int32) + (v0 &&& (131071 : Int32))))] [(.int (1 : Int32))])) (fun _ k => XS.goto X32.here hx rfl (pc0 := 107) (pc' := 111) rfl (hb hby at_107) (by decide) (by decide) k) ?_
          obtain ⟨fs, hr, hrun, hended, hW, hsame⟩ := X32.leave (v := some (.int (1 : Int32))) (fun h => by rw [Bd.returns] at h; cases h)
          exact ⟨_, _, retN X32 hx (t := .boolean) Bd.returns (by simp) (hb hby at_111) hr, hrun, hended, _, _, rfl, (by show Q0 Z  h0 n0 _ T32.heap _; rw [e32]; exact ⟨rfl, N32⟩), ⟨_, rfl⟩, hW, hsame.mono (by decide) (by decide)⟩
set_option maxRecDepth 65536 in
set_option maxHeartbeats 40000000 in
theorem comes_1 {Post : Tables → Env → Array Value → State → Outcome → State → Prop} (hpost : ∀ tb e args s v u, (limb_1_1.after args s (.returned v) u = true ∧ limb_1_2.after args s (.returned v) u = true ∧ True) → FrameEnd s (.returned v) u (Jvm.fieldLocs frame_1_writes args s ++ Jvm.arrayLocs frame_1_arrays args s ++ Jvm.staticLocs frame_1_statics s) 0 0 → Post tb e args s (.returned v) u) :
    ArmFor flags0 classFile x code maxLocals ret World_1 tables_1 room_1 Calls_1 rest_1 Pre_1 Post := by
  intro l hfl _ _ p e ha hc hk s m args below hf hA hF happ hP
  obtain ⟨hcalls, hrest, hpre⟩ := hP
  obtain ⟨-, -, -, hnamed, -, -, -, hat⟩ := (Spec.applies_iff hf).mp happ
  obtain ⟨hg, hn⟩ := and_e (Cond.before_iff.mp (show (Jvm.Cond.and given_1 narrow_1).before args s = true from hpre))
  obtain ⟨gc, gr0⟩ := and_e hg
  obtain ⟨ga0, gr1⟩ := and_e gr0
  obtain ⟨ga1, gr2⟩ := and_e gr1
  obtain ⟨w0, w1, w2, rfl⟩ : ∃ w0 w1 w2 : Value, args = #[w0, w1, w2] := by
    have hs : args.size = 3 := by simpa [Cond.value, given_1] using gc
    obtain ⟨L⟩ := args
    match L, hs with
    | [w0, w1, w2], _ => exact ⟨w0, w1, w2, rfl⟩
  have hw := fun d (hd : d ∈ tables_1) => atoms_spec (ws := Jvm.Cond.code x code maxLocals ret :: tables_1) hat d (List.mem_cons_of_mem _ hd)
  have hfit : Fit s := fun {y c} hc i hi => by
    obtain ⟨ha, rfl⟩ := Array.getElem?_eq_some_iff.mp hc
    have q := List.all_eq_true.mp ((Array.all_eq_true_iff_forall_mem.mp hF) _ (Array.getElem_mem ha)) i (List.mem_range.mpr hi)
    simpa [Array.getElem?_eq_getElem hi] using q
  obtain ⟨i0, ei0⟩ := is_v ga0
  obtain rfl : w0 = (.int i0) := Option.some.inj ei0
  obtain ⟨i1, ei1⟩ := is_v ga1
  obtain rfl : w1 = (.int i1) := Option.some.inj ei1
  obtain ⟨i2, ei2⟩ := is_v gr2
  obtain rfl : w2 = (.int i2) := Option.some.inj ei2
  have hn' : narrow_1.value #[.int i0, .int i1, .int i2] s none s [] = some true := hn
  obtain ⟨n1, hn1⟩ := and_e hn'
  obtain ⟨n2, hn2⟩ := and_e hn1
  obtain ⟨n3, n4⟩ := and_e hn2
  obtain ⟨x0, ev0⟩ := exa_v n1
  obtain ⟨x1, ev1⟩ := exa_v n2
  have F0 := own_ord ev0 n3
  have F1 := own_ord ev1 n4
  have hne : ¬ (x0 = x1) := fun q => by subst q; cases F0.symm.trans F1
  obtain ⟨n, o, h1, h2, h3, _, L, rfl, ⟨rfl, N⟩, hq⟩ := rm0 l s _ hw tables_1 i0 i1 i2 x0 x1 s.heap s.heap.size (Nat.le_refl _) (Sta.start ev1 (Or.inr ⟨(hw _ (List.mem_of_getElem? (i := 1) rfl)), (hw _ (List.mem_of_getElem? (i := 21) rfl))⟩)) (Sta.start ev0 (Or.inr ⟨(hw _ (List.mem_of_getElem? (i := 1) rfl)), (hw _ (List.mem_of_getElem? (i := 2) rfl))⟩)) (Exa.start ev1 n2) (Exa.start ev0 n1) hne p e ha hc hk s m _ below hf ((Spec.applies_iff_loose hf).mp happ).1 ⟨rfl, State.Warmed39.refl s, rfl⟩ trivial
  refine ⟨n, _, h1, h2, h3, hpost _ _ _ _ _ _ ⟨Cond.after_iff.mpr rfl, Cond.after_iff.mpr (eq_i res_at (Term.int_eval (1)) rfl), trivial⟩ ⟨hq.1, hq.2.1, (hq.2.2.sift fun y hy => Or.inr (N y hy)).mono (by decide) (by decide)⟩⟩
theorem main_1_1 : Claimed_1_1 := comes_1 fun _ _ _ _ _ _ h hF => ⟨h.1, hF⟩
theorem main_1_2 : Claimed_1_2 := comes_1 fun _ _ _ _ _ _ h hF => ⟨h.2.1, hF⟩
end Jvm.Pilot.@@N@@
namespace Jvm.Pilot.@@N@@
open Jvm Jvm.ClassFile Sem Op Lib Jvm.Free Jvm.Stand Jvm.Pilot.@@N@@.Jvm.D
/-! MADE BY PROGRAM (witnessworld.py) out of the Statement's table words and the real class files: 12 classes; the members and pool entries that the words name. The judged class is class 1, her method 2. -/
namespace start1
open Jvm.ClassFile
def u (s : String) : CpInfo := .utf8 (stringToUtf16 s)
/-- a pool by its gaps: so many unusable entries, then the entry; so many at the end -/
def gap : Nat → List CpInfo → List CpInfo
  | 0, r => r
  | n + 1, r => .unusable :: gap n r
def poolList (es : List (Nat × CpInfo)) (last : Nat) : List CpInfo := es.foldr (fun e r => gap e.1 (e.2 :: r)) (gap last [])
def pool (es : List (Nat × CpInfo)) (last : Nat) : Array CpInfo := ⟨poolList es last⟩
def fileOf (pool : Array CpInfo) (this : Nat) (attrs : Array Attribute := #[]) (ms : Array MethodInfo := #[]) (fl : Nat := 33) (sup : Nat := 0) (ifs : Array Nat := #[]) (fds : Array FieldInfo := #[]) : ClassFile where
  minorVersion := 0
  majorVersion := 65
  constantPool := pool
  accessFlags := fl
  thisClass := this
  superClass := sup
  interfaces := ifs
  fields := fds
  methods := ms
  attributes := attrs
def plain (name : String) (sup : Option ClassId) : Class where
  name := name
  kind := .ordinary
  loader := none
  accessFlags := 33
  super := sup
  interfaces := #[]
  cf := none
  fields := #[]
  methods := #[]
  instanceTypes := #[]
  staticTypes := #[]
  resolved := #[]
  callSites := []
  init := .initialized
  statics := none
  mirror := none

def pool0 : Array CpInfo := pool [(5, u "<init>"), (0, u "()V"), (1, .class_ 10), (1, u "java/lang/Object")] 113

def k0m0 : Method := { name := "<init>", desc := "()V", sig := { parameters := [], returnType := none }, accessFlags := 1, code := none }
/-- java/lang/Object -/
def k0 : Class := { plain "java/lang/Object" none with
  accessFlags := 33
  interfaces := #[]
  cf := some (fileOf pool0 8 #[] #[{ accessFlags := 1, nameIndex := 5, descriptorIndex := 6, attributes := #[] }] 33 0 #[] #[])
  fields := #[]
  methods := #[k0m0]
  instanceTypes := #[]
  staticTypes := #[]
  resolved := Array.replicate 124 none
  statics := none }

def pool1 : Array CpInfo := pool [(2, .class_ 4), (1, u "java/lang/Object"), (0, u "<init>"), (0, u "()V"), (0, .integer 55296), (0, .integer 57344), (0, .integer 65534), (0, .integer 65536), (0, .integer 1114112), (0, .fieldref 13 14), (0, .class_ 15), (0, .nameAndType 16 17), (0, u "com/example/ruleweave/ruleweave/XmlVersion"), (0, u "XML_1_1"), (0, u "Lcom/example/ruleweave/ruleweave/XmlVersion;"), (0, .fieldref 13 19), (0, .nameAndType 20 17), (0, u "XML_1_0"), (0, .integer 2147483647), (0, .integer 55040), (0, .integer 65280), (0, .integer 131071), (0, .methodref 13 26), (0, .nameAndType 27 28), (0, u "holdsInText"), (0, u "(I)Z"), (0, .methodref 30 31), (0, .class_ 32), (0, .nameAndType 33 34), (0, u "com/example/ruleweave/ruleweave/XmlVersionHoldsInTextPinLaw"), (0, u "expected"), (0, u "(ZI)Z"), (3, u "law"), (0, u "(III)Z")] 2

def k1m0 : Method := { name := "<init>", desc := "()V", sig := { parameters := [], returnType := none }, accessFlags := 2, code := none }
def k1c1 : Code := { maxStack := 2, maxLocals := 2, code := method_2_code, exceptionTable := #[], attributes := #[] }
def k1m1 : Method := { name := "expected", desc := "(ZI)Z", sig := { parameters := [.boolean, .int], returnType := some .boolean }, accessFlags := 10, code := some k1c1 }
def k1c2 : Code := { maxStack := 3, maxLocals := 7, code := code, exceptionTable := #[], attributes := #[] }
def k1m2 : Method := { name := "law", desc := "(III)Z", sig := { parameters := [.int, .int, .int], returnType := some .boolean }, accessFlags := 9, code := some k1c2 }
/-- com/example/ruleweave/ruleweave/XmlVersionHoldsInTextPinLaw -/
def k1 : Class := { plain "com/example/ruleweave/ruleweave/XmlVersionHoldsInTextPinLaw" (some 0) with
  accessFlags := 49
  interfaces := #[]
  cf := some (fileOf pool1 30 #[] #[{ accessFlags := 2, nameIndex := 5, descriptorIndex := 6, attributes := #[] }, { accessFlags := 10, nameIndex := 33, descriptorIndex := 34, attributes := #[] }, { accessFlags := 9, nameIndex := 38, descriptorIndex := 39, attributes := #[] }] 49 2 #[] #[])
  fields := #[]
  methods := #[k1m0, k1m1, k1m2]
  instanceTypes := #[]
  staticTypes := #[]
  resolved := Array.replicate 42 none
  statics := none }

def pool2 : Array CpInfo := pool [(1, .class_ 2), (0, u "java/lang/constant/Constable"), (0, .class_ 4), (0, u "java/lang/Object")] 6

/-- java/lang/constant/Constable -/
def k2 : Class := { plain "java/lang/constant/Constable" (some 0) with
  accessFlags := 1537
  interfaces := #[]
  cf := some (fileOf pool2 1 #[] #[] 1537 3 #[] #[])
  fields := #[]
  methods := #[]
  instanceTypes := #[]
  staticTypes := #[]
  resolved := Array.replicate 11 none
  statics := none }

def pool3 : Array CpInfo := pool [(1, .class_ 2), (0, u "java/lang/Comparable"), (0, .class_ 4), (0, u "java/lang/Object")] 7

/-- java/lang/Comparable -/
def k3 : Class := { plain "java/lang/Comparable" (some 0) with
  accessFlags := 1537
  interfaces := #[]
  cf := some (fileOf pool3 1 #[] #[] 1537 3 #[] #[])
  fields := #[]
  methods := #[]
  instanceTypes := #[]
  staticTypes := #[]
  resolved := Array.replicate 12 none
  statics := none }

def pool4 : Array CpInfo := pool [(1, .class_ 2), (0, u "java/io/Serializable"), (0, .class_ 4), (0, u "java/lang/Object")] 2

/-- java/io/Serializable -/
def k4 : Class := { plain "java/io/Serializable" (some 0) with
  accessFlags := 1537
  interfaces := #[]
  cf := some (fileOf pool4 1 #[] #[] 1537 3 #[] #[])
  fields := #[]
  methods := #[]
  instanceTypes := #[]
  staticTypes := #[]
  resolved := Array.replicate 7 none
  statics := none }

def pool5 : Array CpInfo := pool [(2, .class_ 4), (1, u "java/lang/Enum"), (0, u "name"), (0, u "Ljava/lang/String;"), (2, u "ordinal"), (0, u "I"), (1, .class_ 14), (1, u "java/lang/Object"), (4, u "hash"), (86, .class_ 108), (1, u "java/lang/Enum$EnumDesc"), (2, .class_ 112), (0, u "java/lang/constant/Constable"), (0, .class_ 114), (0, u "java/lang/Comparable"), (0, .class_ 116), (0, u "java/io/Serializable")] 87

/-- java/lang/Enum -/
def k5 : Class := { plain "java/lang/Enum" (some 0) with
  accessFlags := 1057
  interfaces := #[2, 3, 4]
  cf := some (fileOf pool5 2 #[.nestMembers #[106]] #[] 1057 12 #[111, 113, 115] #[{ accessFlags := 18, nameIndex := 5, descriptorIndex := 6, attributes := #[] }, { accessFlags := 18, nameIndex := 9, descriptorIndex := 10, attributes := #[] }, { accessFlags := 2, nameIndex := 19, descriptorIndex := 10, attributes := #[] }])
  fields := #[{ name := "name", type := (.object "java/lang/String"), accessFlags := 18, slot := 0, constantValue := 0 }, { name := "ordinal", type := .int, accessFlags := 18, slot := 1, constantValue := 0 }, { name := "hash", type := .int, accessFlags := 2, slot := 2, constantValue := 0 }]
  methods := #[]
  instanceTypes := #[(.object "java/lang/String"), .int, .int]
  staticTypes := #[]
  resolved := Array.replicate 204 none
  statics := none }

def pool6 : Array CpInfo := pool [(1, .class_ 2), (0, u "com/example/ruleweave/ruleweave/XmlVersion"), (2, u "XML_1_0"), (0, u "Lcom/example/ruleweave/ruleweave/XmlVersion;"), (0, .fieldref 1 8), (0, .nameAndType 9 6), (0, u "XML_1_1"), (2, u "$VALUES"), (0, u "[Lcom/example/ruleweave/ruleweave/XmlVersion;"), (6, .class_ 22), (1, u "java/lang/Enum"), (8, u "number"), (0, u "Ljava/lang/String;"), (19, u "(I)Z"), (0, .class_ 54), (0, u "com/example/ruleweave/ruleweave/XmlVersion$LineEnds"), (7, .integer 55295), (0, .integer 57344), (0, .integer 65533), (0, .integer 65536), (0, .integer 1114111), (2, u "holdsInText")] 91

def k6c0 : Code := { maxStack := 2, maxLocals := 2, code := prog_173_method_8_code, exceptionTable := #[], attributes := #[] }
def k6m0 : Method := { name := "holdsInText", desc := "(I)Z", sig := { parameters := [.int], returnType := some .boolean }, accessFlags := 0, code := some k6c0 }
/-- com/example/ruleweave/ruleweave/XmlVersion -/
def k6 : Class := { plain "com/example/ruleweave/ruleweave/XmlVersion" (some 5) with
  accessFlags := 16432
  interfaces := #[]
  cf := some (fileOf pool6 1 #[.nestMembers #[53]] #[{ accessFlags := 0, nameIndex := 69, descriptorIndex := 52, attributes := #[] }] 16432 20 #[] #[{ accessFlags := 16409, nameIndex := 5, descriptorIndex := 6, attributes := #[] }, { accessFlags := 16409, nameIndex := 9, descriptorIndex := 6, attributes := #[] }, { accessFlags := 18, nameIndex := 31, descriptorIndex := 32, attributes := #[] }, { accessFlags := 4122, nameIndex := 12, descriptorIndex := 13, attributes := #[] }])
  fields := #[{ name := "XML_1_0", type := (.object "com/example/ruleweave/ruleweave/XmlVersion"), accessFlags := 16409, slot := 0, constantValue := 0 }, { name := "XML_1_1", type := (.object "com/example/ruleweave/ruleweave/XmlVersion"), accessFlags := 16409, slot := 1, constantValue := 0 }, { name := "number", type := (.object "java/lang/String"), accessFlags := 18, slot := 3, constantValue := 0 }, { name := "$VALUES", type := (.array (.object "com/example/ruleweave/ruleweave/XmlVersion")), accessFlags := 4122, slot := 2, constantValue := 0 }]
  methods := #[k6m0]
  instanceTypes := #[(.object "java/lang/String"), .int, .int, (.object "java/lang/String")]
  staticTypes := #[(.object "com/example/ruleweave/ruleweave/XmlVersion"), (.object "com/example/ruleweave/ruleweave/XmlVersion"), (.array (.object "com/example/ruleweave/ruleweave/XmlVersion"))]
  resolved := Array.replicate 161 none
  statics := some 0 }

def pool7 : Array CpInfo := pool [(1, u "java/lang/Cloneable"), (0, .class_ 1), (0, u "java/lang/Object"), (0, .class_ 3)] 3

/-- java/lang/Cloneable -/
def k7 : Class := { plain "java/lang/Cloneable" (some 0) with
  accessFlags := 1537
  interfaces := #[]
  cf := some (fileOf pool7 2 #[] #[] 1537 4 #[] #[])
  fields := #[]
  methods := #[]
  instanceTypes := #[]
  staticTypes := #[]
  resolved := Array.replicate 8 none
  statics := none }

/-- the primitive byte -/
def k8 : Class := { plain "byte" none with kind := .primitive 'B', accessFlags := 0x411 }
/-- [B -/
def k9 : Class := { plain "[B" (some 0) with kind := .array 8 .byte, interfaces := #[7, 4], accessFlags := 1041 }

/-- the primitive int -/
def k10 : Class := { plain "int" none with kind := .primitive 'I', accessFlags := 0x411 }
/-- [I -/
def k11 : Class := { plain "[I" (some 0) with kind := .array 10 .int, interfaces := #[7, 4], accessFlags := 1041 }

def heap : Heap := #[{ cls := 6, slots := #[.ref 1, .ref 2, .null], vm := .statics 6 },
  { cls := 6, slots := #[.null, .int 0, .int 0, .null], vm := .none },
  { cls := 6, slots := #[.null, .int 1, .int 0, .null], vm := .none }]
def classes : Array Class := #[k0, k1, k2, k3, k4, k5, k6, k7, k8, k9, k10, k11]
def interned : List (Array UInt16 × Addr) := []
def slotsUsed : Nat := 11
def theMethod : MethodId := ⟨1, 2⟩
def args0 : Array Value := #[.int 1, .int 2, .int 3]
def aboutOver (below : List Frame) : State where
  vm := { classes := classes, interned := interned.toArray }
  heap := heap
  slotsUsed := slotsUsed
  threads := #[{ frames := .invoking theMethod args0 :: below }]
def below0 : List Frame := [.native { method := ⟨0, 0⟩, args := #[] }]
def about1 : State := aboutOver below0
def p0 : Program := .bare "" "" ""
def e0 : Env := launch0.env 0 0 0
theorem w_frames : about1.frames = Frame.invoking theMethod args0 :: below0 := rfl
set_option maxRecDepth 65536 in
theorem w_args : argsFit about1.vm theMethod args0 = true := by decide +kernel
set_option maxRecDepth 65536 in
theorem w_heap : heapFits about1 = true := by decide +kernel
set_option maxRecDepth 65536 in
theorem w_runnable : about1.curStatus? = some .runnable := by decide +kernel
set_option maxRecDepth 65536 in
theorem w_alone : about1.alone = true := by decide +kernel
set_option maxRecDepth 65536 in
theorem w_named : about1.methodNamed? x = some theMethod := by decide +kernel
set_option maxRecDepth 65536 in
theorem w_hears : about1.hears theMethod below0 = true := by decide +kernel
set_option maxRecDepth 65536 in
theorem w_ripe : about1.ripe theMethod args0 below0 = true := by decide +kernel
theorem w_running : about1.status = .running := rfl
set_option maxRecDepth 65536 in
theorem w_room : about1.hasRoom e0.platform room_1 = true :=
  launch0.hasRoom_least _ room_1 (by decide +kernel) (by decide +kernel) (by decide +kernel) (by decide +kernel) (by decide +kernel) (by decide +kernel)
theorem allAtoms_all (ts : List Jvm.Cond) (a : Array Jvm.Value) (st : Jvm.State) : (allAtoms ts).before a st = ts.all (fun c => c.before a st) := by
  induction ts with
  | nil => rfl
  | cons c t ih =>
    show (Jvm.Cond.and c (allAtoms t)).before a st = _
    rw [Jvm.Cond.before_and, ih, List.all_cons]
def words1 : List Jvm.Cond := Jvm.Cond.code x code maxLocals ret :: tables_1
/-- a 'code' word, met by the world's own term for the bytes: nothing is compared byte by byte -/
theorem code_word {y : MethodName} {bytes : ByteArray} {mx : Nat} {rt : Option FieldType} {a : Array Value} {s : State} {m : MethodId} {meth : Method} {c : Code} (h1 : s.methodNamed? y = some m) (h2 : s.vm.method? m = some meth) (h3 : meth.code = some c) (h4 : c.code = bytes)
    (h5 : (c.maxLocals == mx && c.exceptionTable.isEmpty && decide (c.maxStack ≤ mostOperands) && decide (meth.sig.returnType = rt) && !meth.locks && decide (parseMethodDescriptor y.desc = some meth.sig)) = true) : (Jvm.Cond.code y bytes mx rt).before a s = true := by
  simp only [Bool.and_eq_true, beq_iff_eq, Bool.not_eq_true', decide_eq_true_eq] at h5
  obtain ⟨⟨⟨⟨⟨g1, g2⟩, g3⟩, g4⟩, g5⟩, g6⟩ := h5
  simp [Cond.before, Cond.holds, Cond.value, h1, h2, h3, h4, g1, g2, g3, g4, g5, g6]
def isCode : Jvm.Cond → Bool
  | .code _ _ _ _ => true
  | _ => false
theorem all_split {L : List Jvm.Cond} {P : Jvm.Cond → Bool} (h1 : L.all (fun c => isCode c || P c) = true) (h2 : ∀ c ∈ L.filter isCode, P c = true) : L.all P = true := by
  refine List.all_eq_true.mpr fun c hc => ?_
  have h := List.all_eq_true.mp h1 c hc
  rcases Bool.eq_false_or_eq_true (isCode c) with hi | hi
  · exact h2 c (List.mem_filter.mpr ⟨hc, hi⟩)
  · simpa [hi] using h
set_option maxRecDepth 65536 in
theorem w_c0 : (Jvm.Cond.code x code maxLocals ret).before args0 about1 = true := code_word (m := ⟨1, 2⟩) (meth := k1m2) (c := k1c2) (by decide +kernel) rfl rfl rfl (by decide +kernel)
set_option maxRecDepth 65536 in
theorem w_c1 : (Jvm.Cond.code ({ cls := "com/example/ruleweave/ruleweave/XmlVersion", name := "holdsInText", desc := "(I)Z" } : Jvm.MethodName) prog_173_method_8_code (2 : Nat) (Option.some Jvm.ClassFile.FieldType.boolean)).before args0 about1 = true := code_word (m := ⟨6, 0⟩) (meth := k6m0) (c := k6c0) (by decide +kernel) rfl rfl rfl (by decide +kernel)
set_option maxRecDepth 65536 in
theorem w_c2 : (Jvm.Cond.code ({ cls := "com/example/ruleweave/ruleweave/XmlVersionHoldsInTextPinLaw", name := "expected", desc := "(ZI)Z" } : Jvm.MethodName) method_2_code (2 : Nat) (Option.some Jvm.ClassFile.FieldType.boolean)).before args0 about1 = true := code_word (m := ⟨1, 1⟩) (meth := k1m1) (c := k1c1) (by decide +kernel) rfl rfl rfl (by decide +kernel)
def codes1 : List Jvm.Cond := [Jvm.Cond.code x code maxLocals ret, Jvm.Cond.code ({ cls := "com/example/ruleweave/ruleweave/XmlVersion", name := "holdsInText", desc := "(I)Z" } : Jvm.MethodName) prog_173_method_8_code (2 : Nat) (Option.some Jvm.ClassFile.FieldType.boolean), Jvm.Cond.code ({ cls := "com/example/ruleweave/ruleweave/XmlVersionHoldsInTextPinLaw", name := "expected", desc := "(ZI)Z" } : Jvm.MethodName) method_2_code (2 : Nat) (Option.some Jvm.ClassFile.FieldType.boolean)]
set_option maxRecDepth 65536 in
theorem codes_eq : words1.filter isCode = codes1 := rfl
theorem w_codes : ∀ c ∈ words1.filter isCode, c.before args0 about1 = true := by
  rw [codes_eq]
  intro c hc
  simp only [codes1, List.mem_cons, List.not_mem_nil, or_false] at hc
  rcases hc with rfl | rfl | rfl
  · exact w_c0
  · exact w_c1
  · exact w_c2
set_option maxRecDepth 65536 in
theorem w_t1 : (words1.take 24).all (fun c => isCode c || c.before args0 about1) = true := by decide +kernel
set_option maxRecDepth 65536 in
theorem w_t2 : (words1.drop 24).all (fun c => isCode c || c.before args0 about1) = true := by decide +kernel
theorem w_tables : (allAtoms (Jvm.Cond.code x code maxLocals ret :: tables_1)).before args0 about1 = true := by
  rw [allAtoms_all]
  show words1.all (fun c => c.before args0 about1) = true
  refine all_split ?_ w_codes
  rw [← List.take_append_drop 24 words1, List.all_append, w_t1, w_t2]
  rfl
set_option maxRecDepth 65536 in
theorem w_case : (Jvm.Cond.and given_1 narrow_1).before args0 about1 = true := by decide +kernel
theorem w_applies : (headSpec (Jvm.Cond.code x code maxLocals ret :: tables_1) room_1).applies x e0.platform about1 = true :=
  (Spec.applies_iff w_frames).mpr ⟨w_running, w_runnable, w_alone, w_named, w_hears, w_ripe, w_room, w_tables⟩
theorem atStart : AtStart classFile x code maxLocals ret World_1 tables_1 room_1 Calls_1 rest_1 Pre_1 launch0 p0 e0 about1 theMethod args0 below0 :=
  ⟨lists_1, trivial, launch0.admits_env _ _ _, launch0.least_env, fairChoices_fair.cas, fairChoices_fair.clock, w_frames, w_args, w_heap, w_applies, trivial, trivial, w_case⟩
end start1
theorem witness_1 : WitnessClaimed_1 := ⟨start1.p0, start1.e0, start1.about1, start1.theMethod, start1.args0, start1.below0, start1.atStart⟩
end Jvm.Pilot.@@N@@
