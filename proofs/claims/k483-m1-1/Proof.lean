import JvmDerived
import JvmDerived.Pilot.@@N@@Statement
import JvmDerived.Pilot.@@N@@Code
set_option linter.unusedVariables false
set_option linter.unusedSimpArgs false
@@BLOCK:NumsL.lean.txt@@
namespace Jvm.RoadKit
open Sem ClassFile Op Lib Jvm.Stand Jvm.Free Jvm.LawKit
section New
variable {p : Program} {l : Launch} {e : Env} {R : Room} {s : State} {m : MethodId} {args : Array Value} {below : List Frame} {meth : Method} {c : Code} {T : State} {locs : List Loc} {cells slots : Nat}
theorem retI (X : Stand p l e R s m args below meth c T locs cells slots) (hx : p.tables.exec = Jvm.exec) {pc : Nat} {Ls : Array Slot} {z : Int32} {rest : List Value} (hret : meth.sig.returnType = some .int) (hd : decode c.code pc = .ok (.ireturn, 1)) {fs : List Frame}
    (hl : ∀ (f : JFrame) (acts : List Action), f.method = m → f.locked = none → f.entered = [] → (doReturn e (T.setTop f) acts (some (.int z))).1 = T.setFrames fs) : Steps p.tables e below (T.setTop (mkF m pc Ls (.int z :: rest))) (T.setFrames fs) := by
  have hm' : T.vm.method? m = some meth := X.method'
  have hn : narrow .int (.int z) = .int z := rfl
  show Steps p.tables e below (T.setTop { method := m, pc := pc, locals := Ls, stack := _ :: rest, locked := none }) _
  jvm_step X.here [X.here.top, hx, hd, hm', hret, hn]
  first | (intro acts; rw [hl _ acts rfl rfl rfl]) | rw [hl _ _ rfl rfl rfl]
  exact Steps.refl _
theorem retRef (X : Stand p l e R s m args below meth c T locs cells slots) (hx : p.tables.exec = Jvm.exec) {pc : Nat} {Ls : Array Slot} {v : Value} {rest : List Value} {ty : FieldType} (hret : meth.sig.returnType = some ty) (hty : ty.isReference = true) (hv : v.isRef = true) (hd : decode c.code pc = .ok (.areturn, 1)) {fs : List Frame}
    (hl : ∀ (f : JFrame) (acts : List Action), f.method = m → f.locked = none → f.entered = [] → (doReturn e (T.setTop f) acts (some v)).1 = T.setFrames fs) : Steps p.tables e below (T.setTop (mkF m pc Ls (v :: rest))) (T.setFrames fs) := by
  have hm' : T.vm.method? m = some meth := X.method'
  show Steps p.tables e below (T.setTop { method := m, pc := pc, locals := Ls, stack := _ :: rest, locked := none }) _
  jvm_step X.here [X.here.top, hx, hd, hm', hret, hty, hv]
  first | (intro acts; rw [hl _ acts rfl rfl rfl]) | rw [hl _ _ rfl rfl rfl]
  exact Steps.refl _
theorem retD (X : Stand p l e R s m args below meth c T locs cells slots) (hx : p.tables.exec = Jvm.exec) {pc : Nat} {Ls : Array Slot} {z : UInt64} {rest : List Value} (hret : meth.sig.returnType = some .double) (hd : decode c.code pc = .ok (.dreturn, 1)) {fs : List Frame}
    (hl : ∀ (f : JFrame) (acts : List Action), f.method = m → f.locked = none → f.entered = [] → (doReturn e (T.setTop f) acts (some (.double z))).1 = T.setFrames fs) : Steps p.tables e below (T.setTop (mkF m pc Ls (.double z :: rest))) (T.setFrames fs) := by
  have hm' : T.vm.method? m = some meth := X.method'
  have hn : narrow .double (.double z) = .double z := rfl
  show Steps p.tables e below (T.setTop { method := m, pc := pc, locals := Ls, stack := _ :: rest, locked := none }) _
  jvm_step X.here [X.here.top, hx, hd, hm', hret, hn]
  first | (intro acts; rw [hl _ acts rfl rfl rfl]) | rw [hl _ _ rfl rfl rfl]
  exact Steps.refl _
end New
end Jvm.RoadKit
namespace Jvm.Pilot.@@N@@
open Jvm Jvm.ClassFile Sem Op Lib Jvm.Free Jvm.Stand Jvm.LawKit Jvm.RoadKit Bundle Jvm.Pilot.@@N@@.Jvm.D
/-- from the state S the run comes to an end of which R speaks -/
abbrev Ends (tb : Tables) (e : Env) (below : List Frame) (S : State) (R : State → Outcome → Prop) : Prop := ∃ t o, Steps tb e below S t ∧ R t o
theorem Ends.st {tb : Tables} {e : Env} {below : List Frame} {S S' : State} {R : State → Outcome → Prop} (h : ∀ t, Steps tb e below S' t → Steps tb e below S t) (k : Ends tb e below S' R) : Ends tb e below S R := by
  obtain ⟨t, o, h1, h2⟩ := k
  exact ⟨t, o, h t h1, h2⟩
theorem pd_0 : parseMethodDescriptor "(I)Lcom/example/clearance/clearance/rules/Lexer$Kind;" = some ⟨[.int], some (.object "com/example/clearance/clearance/rules/Lexer$Kind")⟩ := by decide +kernel
theorem pd_1 : parseMethodDescriptor "(I)Lcom/example/clearance/clearance/rules/Formula$Operator;" = some ⟨[.int], some (.object "com/example/clearance/clearance/rules/Formula$Operator")⟩ := by decide +kernel
theorem pd_2 : parseMethodDescriptor "(Lcom/example/clearance/clearance/rules/Lexer$Kind;)Lcom/example/clearance/clearance/rules/Formula$Operator;" = some ⟨[(.object "com/example/clearance/clearance/rules/Lexer$Kind")], some (.object "com/example/clearance/clearance/rules/Formula$Operator")⟩ := by decide +kernel
theorem own_ord {t : Term} {args : Array Value} {s : State} {x : Addr} {C n d : String} {k : Int32} (ev : t.eval args s none [] s = some (.ref x)) (h : (Cond.eq (Term.field t C n d) (Term.int k)).value args s none s [] = some true) : s.fieldOf? x C n d = some (.int k) := by
  have e := fld_at (C := C) (n := n) (dd := d) ev
  obtain ⟨u, v, h1, h2, k1, k2⟩ := cmp_v (Or.inl h)
  have hv : v = .int k := (Option.some.inj ((Term.int_eval k).symm.trans h2)).symm
  subst hv
  obtain ⟨z, rfl⟩ := k2
  rw [← e, h1]
  have q := h
  simp only [Cond.value, h1, h2] at q
  have q' : decide (z = k) = true := Option.some.inj q
  rw [of_decide_eq_true q']
theorem own_eqR {a b : Term} {args : Array Value} {s : State} {x : Value} {y : Addr} (ha : a.eval args s none [] s = some x) (hb : b.eval args s none [] s = some (.ref y)) (h : (Cond.eq a b).value args s none s [] = some true) : x = .ref y := by
  cases x <;> simp [Cond.value, ha, hb] at h
  rw [h]
theorem own_some {a b : Term} {args : Array Value} {s : State} (h : (Cond.eq a b).value args s none s [] = some true) : ∃ x, a.eval args s none [] s = some x := by
  obtain ⟨u, v, h1, -⟩ := cmp_v (Or.inl h)
  exact ⟨u, h1⟩
theorem own_len {t : Term} {args : Array Value} {s : State} {x : Addr} {cl : Cell} {ty : FieldType} {k : Int32} (ev : t.eval args s none [] s = some (.ref x)) (A : Arr s s.heap x cl ty) (h : (Cond.eq (Term.length t) (Term.int k)).value args s none s [] = some true) : cl.slots.size < 2 ^ 31 ∧ cl.slots.size.toInt32 = k := by
  have ha := A.fin (Vm.Alike.refl _)
  obtain ⟨u, v, h1, h2, k1, k2⟩ := cmp_v (Or.inl h)
  by_cases hl : cl.slots.size < 2 ^ 31
  · refine ⟨hl, ?_⟩
    have e := len_f (args := args) (first := s) (o := none) (idx := []) ev ha hl
    have hv : v = .int k := (Option.some.inj ((Term.int_eval k).symm.trans h2)).symm
    subst hv
    have hu : u = .int cl.slots.size.toInt32 := Option.some.inj (h1.symm.trans e)
    subst hu
    have q := h
    simp only [Cond.value, h1, h2] at q
    exact of_decide_eq_true (Option.some.inj q)
  · exfalso
    simp [Term.eval, ev, ha, hl] at h1
theorem own_elem {t : Term} {args : Array Value} {s : State} {x : Addr} {cl : Cell} {ty : FieldType} {k : Int32} {b : Term} {y : Addr} (ev : t.eval args s none [] s = some (.ref x)) (A : Arr s s.heap x cl ty) (hb : b.eval args s none [] s = some (.ref y)) (h : (Cond.eq (Term.elem t (Term.int k)) b).value args s none s [] = some true) :
    ¬ (k < 0 ∨ cl.slots.size ≤ k.toNatClampNeg) ∧ cl.slots[k.toNatClampNeg]? = some (.ref y) := by
  obtain ⟨u, hu⟩ := own_some h
  have e := own_eqR hu hb h
  subst e
  exact elem_in hu ev (Term.int_eval k) A.1
theorem own_fref {t : Term} {args : Array Value} {s : State} {x y : Addr} {C n d : String} {b : Term} (ev : t.eval args s none [] s = some (.ref x)) (hb : b.eval args s none [] s = some (.ref y)) (h : (Cond.eq (Term.field t C n d) b).value args s none s [] = some true) : s.fieldOf? x C n d = some (.ref y) := by
  have e := fld_at (C := C) (n := n) (dd := d) ev
  obtain ⟨u, hu⟩ := own_some h
  have q := own_eqR hu hb h
  subst q
  rw [← e, hu]
theorem own_char (p : Int32) : 0 ≤ (p.toUInt32.toUInt16.toUInt32.toInt32).toInt ∧ (p.toUInt32.toUInt16.toUInt32.toInt32).toInt < 65536 := by
  have h : p.toUInt32.toUInt16.toUInt32.toNat < 65536 := by
    rw [UInt16.toNat_toUInt32]; exact UInt16.toNat_lt _
  have e : (p.toUInt32.toUInt16.toUInt32.toInt32).toInt = (p.toUInt32.toUInt16.toUInt32.toNat : Int) := by
    show (p.toUInt32.toUInt16.toUInt32).toBitVec.toInt = _
    rw [BitVec.toInt_eq_toNat_of_lt]
    · rfl
    · show 2 * p.toUInt32.toUInt16.toUInt32.toNat < 2 ^ 32
      omega
  rw [e]; omega
theorem own_of_toInt {p : Int32} {n : Nat} (h : p.toInt = (n : Int)) (hn : n < 2 ^ 31) : p = Int32.ofNat n := by
  apply Int32.toInt_inj.mp
  rw [h, Int32.toInt_ofNat_of_lt hn]
def f1 (k0 k1 k2 k3 k4 k5 k6 k7 k8 k9 : Addr) (i : Int32) : Addr := if i = 0 then k0 else if i = 1 then k1 else if i = 2 then k2 else if i = 3 then k3 else if i = 4 then k4 else if i = 5 then k5 else if i = 6 then k6 else if i = 7 then k7 else if i = 8 then k8 else k9
def f2 (o0 o1 o2 : Addr) (i : Int32) : Value := if i = 3 then .ref o0 else if i = 4 then .ref o1 else if i = 5 then .ref o2 else .null
def f3 (o0 o1 o2 k3 k4 k5 a : Addr) : Value := if k3 = a then .ref o0 else if k4 = a then .ref o1 else if k5 = a then .ref o2 else .null
theorem f2_ref (o0 o1 o2 : Addr) (i : Int32) : (f2 o0 o1 o2 i).isRef = true := by
  unfold f2
  repeat' split
  all_goals rfl
theorem f3_ref (o0 o1 o2 k3 k4 k5 a : Addr) : (f3 o0 o1 o2 k3 k4 k5 a).isRef = true := by
  unfold f3
  repeat' split
  all_goals rfl
theorem own_ten (x : Int32) : ∃ n : Fin 10, (x &&& (2147483647 : Int32)) - ((x &&& (2147483647 : Int32)) / (10 : Int32)) * (10 : Int32) = Int32.ofNat n.val := by
  have h := Jvm.Kit.i32_mask x 2147483647 (k := 31) (by decide) (by decide)
  generalize (x &&& (2147483647 : Int32)) = y at *
  have e10 : (10 : Int32).toInt = 10 := by decide
  have hd : (y / (10 : Int32)).toInt = y.toInt / 10 := by
    rw [Jvm.Kit.i32_div (fun q => absurd q.2 (by decide)), e10, Int.tdiv_eq_ediv_of_nonneg (by omega)]
  have hm : (y / (10 : Int32) * (10 : Int32)).toInt = y.toInt / 10 * 10 := by
    rw [Jvm.Kit.i32_mul (by rw [hd, e10]; omega) (by rw [hd, e10]; omega), hd, e10]
  have hs : (y - y / (10 : Int32) * (10 : Int32)).toInt = y.toInt % 10 := by
    rw [Jvm.Kit.i32_sub (by rw [hm]; omega) (by rw [hm]; omega), hm]; omega
  exact ⟨⟨(y.toInt % 10).toNat, by omega⟩, own_of_toInt (by rw [hs]; simp only []; omega) (by simp only []; omega)⟩
theorem own_same {k0 k1 k2 k3 k4 k5 k6 k7 k8 k9 o0 o1 o2 : Addr} (hd : ¬ (k3 = k0) ∧ ¬ (k3 = k1) ∧ ¬ (k3 = k2) ∧ ¬ (k3 = k4) ∧ ¬ (k3 = k5) ∧ ¬ (k3 = k6) ∧ ¬ (k3 = k7) ∧ ¬ (k3 = k8) ∧ ¬ (k3 = k9) ∧ ¬ (k4 = k0) ∧ ¬ (k4 = k1) ∧ ¬ (k4 = k2) ∧ ¬ (k4 = k3) ∧ ¬ (k4 = k5) ∧ ¬ (k4 = k6) ∧ ¬ (k4 = k7) ∧ ¬ (k4 = k8) ∧ ¬ (k4 = k9) ∧ ¬ (k5 = k0) ∧ ¬ (k5 = k1) ∧ ¬ (k5 = k2) ∧ ¬ (k5 = k3) ∧ ¬ (k5 = k4) ∧ ¬ (k5 = k6) ∧ ¬ (k5 = k7) ∧ ¬ (k5 = k8) ∧ ¬ (k5 = k9)) (i : Int32) (hi : ∃ n : Fin 10, i = Int32.ofNat n.val) : f3 o0 o1 o2 k3 k4 k5 (f1 k0 k1 k2 k3 k4 k5 k6 k7 k8 k9 i) = f2 o0 o1 o2 i := by
  obtain ⟨n, rfl⟩ := hi
  obtain ⟨q3_0, q3_1, q3_2, q3_4, q3_5, q3_6, q3_7, q3_8, q3_9, q4_0, q4_1, q4_2, q4_3, q4_5, q4_6, q4_7, q4_8, q4_9, q5_0, q5_1, q5_2, q5_3, q5_4, q5_6, q5_7, q5_8, q5_9⟩ := hd
  match n with
  | 0 => show f3 o0 o1 o2 k3 k4 k5 k0 = .null; simp [f3, q3_0, q4_0, q5_0]
  | 1 => show f3 o0 o1 o2 k3 k4 k5 k1 = .null; simp [f3, q3_1, q4_1, q5_1]
  | 2 => show f3 o0 o1 o2 k3 k4 k5 k2 = .null; simp [f3, q3_2, q4_2, q5_2]
  | 3 => show f3 o0 o1 o2 k3 k4 k5 k3 = .ref o0; simp [f3, q4_3, q5_3]
  | 4 => show f3 o0 o1 o2 k3 k4 k5 k4 = .ref o1; simp [f3, q3_4, q5_4]
  | 5 => show f3 o0 o1 o2 k3 k4 k5 k5 = .ref o2; simp [f3, q3_5, q4_5]
  | 6 => show f3 o0 o1 o2 k3 k4 k5 k6 = .null; simp [f3, q3_6, q4_6, q5_6]
  | 7 => show f3 o0 o1 o2 k3 k4 k5 k7 = .null; simp [f3, q3_7, q4_7, q5_7]
  | 8 => show f3 o0 o1 o2 k3 k4 k5 k8 = .null; simp [f3, q3_8, q4_8, q5_8]
  | 9 => show f3 o0 o1 o2 k3 k4 k5 k9 = .null; simp [f3, q3_9, q4_9, q5_9]
def Q1 (Z : State) (k0 k1 k2 k3 k4 k5 k6 k7 k8 k9 : Addr) (i : Int32) (h0 : Heap) (n0 : Nat) (v : Option Value) (h : Heap) (L : List Loc) : Prop := v = some (.ref (f1 k0 k1 k2 k3 k4 k5 k6 k7 k8 k9 i)) ∧ Fr n0 L ∧ h = h0
def Q2 (Z : State) (o0 o1 o2 : Addr) (i : Int32) (h0 : Heap) (n0 : Nat) (v : Option Value) (h : Heap) (L : List Loc) : Prop := v = some (f2 o0 o1 o2 i) ∧ Fr n0 L ∧ h = h0
def Q3 (Z : State) (o0 o1 o2 k3 k4 k5 a : Addr) (h0 : Heap) (n0 : Nat) (v : Option Value) (h : Heap) (L : List Loc) : Prop := v = some (f3 o0 o1 o2 k3 k4 k5 a) ∧ Fr n0 L ∧ h = h0
def Q0 (Z : State)  (h0 : Heap) (n0 : Nat) (v : Option Value) (h : Heap) (L : List Loc) : Prop := v = some (.int 1) ∧ Fr n0 L
theorem d1_0 : decode method_2_code 0 = .ok (.iload_n 0, 1) := by decide +kernel
theorem d1_1 : decode method_2_code 1 = .ok (.ifCond .ne 7, 3) := by decide +kernel
theorem d1_4 : decode method_2_code 4 = .ok (.getstatic 7, 3) := by decide +kernel
theorem d1_7 : decode method_2_code 7 = .ok (.areturn, 1) := by decide +kernel
theorem d1_8 : decode method_2_code 8 = .ok (.iload_n 0, 1) := by decide +kernel
theorem d1_9 : decode method_2_code 9 = .ok (.iconst 1, 1) := by decide +kernel
theorem d1_10 : decode method_2_code 10 = .ok (.if_icmp .ne 7, 3) := by decide +kernel
theorem d1_13 : decode method_2_code 13 = .ok (.getstatic 13, 3) := by decide +kernel
theorem d1_16 : decode method_2_code 16 = .ok (.areturn, 1) := by decide +kernel
theorem d1_17 : decode method_2_code 17 = .ok (.iload_n 0, 1) := by decide +kernel
theorem d1_18 : decode method_2_code 18 = .ok (.iconst 2, 1) := by decide +kernel
theorem d1_19 : decode method_2_code 19 = .ok (.if_icmp .ne 7, 3) := by decide +kernel
theorem d1_22 : decode method_2_code 22 = .ok (.getstatic 16, 3) := by decide +kernel
theorem d1_25 : decode method_2_code 25 = .ok (.areturn, 1) := by decide +kernel
theorem d1_26 : decode method_2_code 26 = .ok (.iload_n 0, 1) := by decide +kernel
theorem d1_27 : decode method_2_code 27 = .ok (.iconst 3, 1) := by decide +kernel
theorem d1_28 : decode method_2_code 28 = .ok (.if_icmp .ne 7, 3) := by decide +kernel
theorem d1_31 : decode method_2_code 31 = .ok (.getstatic 19, 3) := by decide +kernel
theorem d1_34 : decode method_2_code 34 = .ok (.areturn, 1) := by decide +kernel
theorem d1_35 : decode method_2_code 35 = .ok (.iload_n 0, 1) := by decide +kernel
theorem d1_36 : decode method_2_code 36 = .ok (.iconst 4, 1) := by decide +kernel
theorem d1_37 : decode method_2_code 37 = .ok (.if_icmp .ne 7, 3) := by decide +kernel
theorem d1_40 : decode method_2_code 40 = .ok (.getstatic 22, 3) := by decide +kernel
theorem d1_43 : decode method_2_code 43 = .ok (.areturn, 1) := by decide +kernel
theorem d1_44 : decode method_2_code 44 = .ok (.iload_n 0, 1) := by decide +kernel
theorem d1_45 : decode method_2_code 45 = .ok (.iconst 5, 1) := by decide +kernel
theorem d1_46 : decode method_2_code 46 = .ok (.if_icmp .ne 7, 3) := by decide +kernel
theorem d1_49 : decode method_2_code 49 = .ok (.getstatic 25, 3) := by decide +kernel
theorem d1_52 : decode method_2_code 52 = .ok (.areturn, 1) := by decide +kernel
theorem d1_53 : decode method_2_code 53 = .ok (.iload_n 0, 1) := by decide +kernel
theorem d1_54 : decode method_2_code 54 = .ok (.bipush 6, 2) := by decide +kernel
theorem d1_56 : decode method_2_code 56 = .ok (.if_icmp .ne 7, 3) := by decide +kernel
theorem d1_59 : decode method_2_code 59 = .ok (.getstatic 28, 3) := by decide +kernel
theorem d1_62 : decode method_2_code 62 = .ok (.areturn, 1) := by decide +kernel
theorem d1_63 : decode method_2_code 63 = .ok (.iload_n 0, 1) := by decide +kernel
theorem d1_64 : decode method_2_code 64 = .ok (.bipush 7, 2) := by decide +kernel
theorem d1_66 : decode method_2_code 66 = .ok (.if_icmp .ne 7, 3) := by decide +kernel
theorem d1_69 : decode method_2_code 69 = .ok (.getstatic 31, 3) := by decide +kernel
theorem d1_72 : decode method_2_code 72 = .ok (.areturn, 1) := by decide +kernel
theorem d1_73 : decode method_2_code 73 = .ok (.iload_n 0, 1) := by decide +kernel
theorem d1_74 : decode method_2_code 74 = .ok (.bipush 8, 2) := by decide +kernel
theorem d1_76 : decode method_2_code 76 = .ok (.if_icmp .ne 7, 3) := by decide +kernel
theorem d1_79 : decode method_2_code 79 = .ok (.getstatic 34, 3) := by decide +kernel
theorem d1_82 : decode method_2_code 82 = .ok (.areturn, 1) := by decide +kernel
theorem d1_83 : decode method_2_code 83 = .ok (.getstatic 37, 3) := by decide +kernel
theorem d1_86 : decode method_2_code 86 = .ok (.areturn, 1) := by decide +kernel
theorem pn_1 : plainName "com/example/clearance/clearance/rules/OperatorWrittenPinLaw" = true := by first | (simp [plainName, overriddenIn]; done) | decide +kernel
theorem d2_0 : decode method_3_code 0 = .ok (.iload_n 0, 1) := by decide +kernel
theorem d2_1 : decode method_3_code 1 = .ok (.iconst 3, 1) := by decide +kernel
theorem d2_2 : decode method_3_code 2 = .ok (.if_icmp .ne 7, 3) := by decide +kernel
theorem d2_5 : decode method_3_code 5 = .ok (.getstatic 40, 3) := by decide +kernel
theorem d2_8 : decode method_3_code 8 = .ok (.areturn, 1) := by decide +kernel
theorem d2_9 : decode method_3_code 9 = .ok (.iload_n 0, 1) := by decide +kernel
theorem d2_10 : decode method_3_code 10 = .ok (.iconst 4, 1) := by decide +kernel
theorem d2_11 : decode method_3_code 11 = .ok (.if_icmp .ne 7, 3) := by decide +kernel
theorem d2_14 : decode method_3_code 14 = .ok (.getstatic 45, 3) := by decide +kernel
theorem d2_17 : decode method_3_code 17 = .ok (.areturn, 1) := by decide +kernel
theorem d2_18 : decode method_3_code 18 = .ok (.iload_n 0, 1) := by decide +kernel
theorem d2_19 : decode method_3_code 19 = .ok (.iconst 5, 1) := by decide +kernel
theorem d2_20 : decode method_3_code 20 = .ok (.if_icmp .ne 7, 3) := by decide +kernel
theorem d2_23 : decode method_3_code 23 = .ok (.getstatic 47, 3) := by decide +kernel
theorem d2_26 : decode method_3_code 26 = .ok (.areturn, 1) := by decide +kernel
theorem d2_27 : decode method_3_code 27 = .ok (.aconst_null, 1) := by decide +kernel
theorem d2_28 : decode method_3_code 28 = .ok (.areturn, 1) := by decide +kernel
theorem pn_2 : plainName "com/example/clearance/clearance/rules/OperatorWrittenPinLaw" = true := by first | (simp [plainName, overriddenIn]; done) | decide +kernel
theorem d3_0 : decode prog_60_method_4_code 0 = .ok (.getstatic 40, 3) := by decide +kernel
theorem d3_3 : decode prog_60_method_4_code 3 = .ok (.astore_n 1, 1) := by decide +kernel
theorem d3_4 : decode prog_60_method_4_code 4 = .ok (.aload_n 1, 1) := by decide +kernel
theorem d3_5 : decode prog_60_method_4_code 5 = .ok (.arraylength, 1) := by decide +kernel
theorem d3_6 : decode prog_60_method_4_code 6 = .ok (.istore_n 2, 1) := by decide +kernel
theorem d3_7 : decode prog_60_method_4_code 7 = .ok (.iconst 0, 1) := by decide +kernel
theorem d3_8 : decode prog_60_method_4_code 8 = .ok (.istore_n 3, 1) := by decide +kernel
theorem d3_9 : decode prog_60_method_4_code 9 = .ok (.iload_n 3, 1) := by decide +kernel
theorem d3_10 : decode prog_60_method_4_code 10 = .ok (.iload_n 2, 1) := by decide +kernel
theorem d3_11 : decode prog_60_method_4_code 11 = .ok (.if_icmp .ge 26, 3) := by decide +kernel
theorem d3_14 : decode prog_60_method_4_code 14 = .ok (.aload_n 1, 1) := by decide +kernel
theorem d3_15 : decode prog_60_method_4_code 15 = .ok (.iload_n 3, 1) := by decide +kernel
theorem d3_16 : decode prog_60_method_4_code 16 = .ok (.aaload, 1) := by decide +kernel
theorem d3_17 : decode prog_60_method_4_code 17 = .ok (.astore 4, 2) := by decide +kernel
theorem d3_19 : decode prog_60_method_4_code 19 = .ok (.aload 4, 2) := by decide +kernel
theorem d3_21 : decode prog_60_method_4_code 21 = .ok (.getfield 32, 3) := by decide +kernel
theorem d3_24 : decode prog_60_method_4_code 24 = .ok (.aload_n 0, 1) := by decide +kernel
theorem d3_25 : decode prog_60_method_4_code 25 = .ok (.if_acmp .ne 6, 3) := by decide +kernel
theorem d3_28 : decode prog_60_method_4_code 28 = .ok (.aload 4, 2) := by decide +kernel
theorem d3_30 : decode prog_60_method_4_code 30 = .ok (.areturn, 1) := by decide +kernel
theorem d3_31 : decode prog_60_method_4_code 31 = .ok (.iinc 3 1, 3) := by decide +kernel
theorem d3_34 : decode prog_60_method_4_code 34 = .ok (.goto (-25), 3) := by decide +kernel
theorem d3_37 : decode prog_60_method_4_code 37 = .ok (.aconst_null, 1) := by decide +kernel
theorem d3_38 : decode prog_60_method_4_code 38 = .ok (.areturn, 1) := by decide +kernel
theorem pn_3 : plainName "com/example/clearance/clearance/rules/Formula$Operator" = true := by first | (simp [plainName, overriddenIn]; done) | decide +kernel
theorem pn_0 : plainName "com/example/clearance/clearance/rules/OperatorWrittenPinLaw" = true := by first | (simp [plainName, overriddenIn]; done) | decide +kernel
theorem ef_rm1 (m : MethodId) (x0 : Int32)  : entryFrame m #[(.int x0)] 1 = mkF m 0 #[.val (.int x0)] [] := by first | (simp [entryFrame, mkF, argsToLocals, Value.category]; done) | rfl
set_option maxRecDepth 65536 in
set_option maxHeartbeats 40000000 in
theorem rm1 (l : Launch) (Z : State) (a0 : Array Value) (hw : ∀ d ∈ tables_1, d.before a0 Z = true) (ws : List Jvm.Cond) (k0 : Addr) (k1 : Addr) (k2 : Addr) (k3 : Addr) (k4 : Addr) (k5 : Addr) (k6 : Addr) (k7 : Addr) (k8 : Addr) (k9 : Addr) (v0 : Int32) (h0 : Heap) (n0 : Nat) (Z0 : n0 ≤ h0.size) (SK0 : Sta Z h0 "com/example/clearance/clearance/rules/Lexer$Kind" "NAME" "Lcom/example/clearance/clearance/rules/Lexer$Kind;" (.ref k0)) (SK1 : Sta Z h0 "com/example/clearance/clearance/rules/Lexer$Kind" "OPEN_LIST" "Lcom/example/clearance/clearance/rules/Lexer$Kind;" (.ref k1)) (SK2 : Sta Z h0 "com/example/clearance/clearance/rules/Lexer$Kind" "CLOSE_LIST" "Lcom/example/clearance/clearance/rules/Lexer$Kind;" (.ref k2)) (SK3 : Sta Z h0 "com/example/clearance/clearance/rules/Lexer$Kind" "UNION" "Lcom/example/clearance/clearance/rules/Lexer$Kind;" (.ref k3)) (SK4 : Sta Z h0 "com/example/clearance/clearance/rules/Lexer$Kind" "DIFFERENCE" "Lcom/example/clearance/clearance/rules/Lexer$Kind;" (.ref k4)) (SK5 : Sta Z h0 "com/example/clearance/clearance/rules/Lexer$Kind" "INTERSECTION" "Lcom/example/clearance/clearance/rules/Lexer$Kind;" (.ref k5)) (SK6 : Sta Z h0 "com/example/clearance/clearance/rules/Lexer$Kind" "OPEN_GROUP" "Lcom/example/clearance/clearance/rules/Lexer$Kind;" (.ref k6)) (SK7 : Sta Z h0 "com/example/clearance/clearance/rules/Lexer$Kind" "CLOSE_GROUP" "Lcom/example/clearance/clearance/rules/Lexer$Kind;" (.ref k7)) (SK8 : Sta Z h0 "com/example/clearance/clearance/rules/Lexer$Kind" "EQUALS" "Lcom/example/clearance/clearance/rules/Lexer$Kind;" (.ref k8)) (SK9 : Sta Z h0 "com/example/clearance/clearance/rules/Lexer$Kind" "END" "Lcom/example/clearance/clearance/rules/Lexer$Kind;" (.ref k9)) :
    MetFree l (⟨"com/example/clearance/clearance/rules/OperatorWrittenPinLaw", "kindOf", "(I)Lcom/example/clearance/clearance/rules/Lexer$Kind;"⟩ : MethodName) (head1 (Jvm.Cond.code (⟨"com/example/clearance/clearance/rules/OperatorWrittenPinLaw", "kindOf", "(I)Lcom/example/clearance/clearance/rules/Lexer$Kind;"⟩ : MethodName) method_2_code 1 (some (.object "com/example/clearance/clearance/rules/Lexer$Kind")) :: ws) ({ frames := 0, cells := 0, slots := 0, locals := 0 } : Room)) (fun a U => a = #[(.int v0)] ∧ Z.Warmed39 U.vm ∧ U.heap = h0) (fun _ _ _ _ _ => True) (fun _ U o U' => ∃ v L, o = .returned v ∧ Q1 Z k0 k1 k2 k3 k4 k5 k6 k7 k8 k9 v0 h0 n0 v U'.heap L ∧ FrameEnd U o U' L ({ frames := 0, cells := 0, slots := 0, locals := 0 } : Room).cells ({ frames := 0, cells := 0, slots := 0, locals := 0 } : Room).slots) := by
  refine MetFree.of_bodySF (plainFor_of_name pn_1) hisR ?_
  intro p e s m args below meth c s₁ Bd hml0 hP hK
  obtain ⟨rfl, hZ, hh⟩ := hP
  have hx := Bd.exec
  have hby := Bd.bytes
  have hml : c.maxLocals = 1 := hml0
  have hown : s.vm.findClass "com/example/clearance/clearance/rules/OperatorWrittenPinLaw" = some m.cls := findClass_of_methodNamed Bd.named
  have hnm := (name_of_methodNamed Bd.named Bd.method).1
  have X0 : Stand p l e ({ frames := 0, cells := 0, slots := 0, locals := 0 } : Room) s m #[(.int v0)] below meth c s₁ [] 0 0 := Stand.of_body Bd
  have e0 : s₁.heap = h0 := by rw [← hh, Bd.state]; rfl
  have N0 := Fr.nil n0
  refine Ends.st (tb := p.tables) (e := e) (below := below) (S' := s₁.setTop (mkF m 0 #[.val (.int v0)] [])) (fun t k => castTop (ef_rm1 m v0) k) ?_
  refine Ends.st (S' := s₁.setTop (mkF m 1 #[.val (.int v0)] [(.int v0)])) (fun _ k => XS.iloadN X0.here hx rfl (hb hby d1_0) rfl k) ?_
  by_cases hc1 : v0 = (0 : Int32)
  · refine Ends.st (S' := s₁.setTop (mkF m 4 #[.val (.int v0)] [])) (fun _ k => XS.ifNo X0.here hx rfl (hb hby d1_1) rfl ((if0 _ _).trans (teq hc1).2) k) ?_
    obtain ⟨T2, X2, e2, st2⟩ := getS2 X0 hx hZ hown (host := "") (Or.inl (hw _ (List.mem_of_getElem? (i := 5) rfl))) Via.refl e0 SK0 (g := (mkF m 4 #[.val (.int v0)] [])) rfl (hb hby d1_4)
    refine Ends.st (S' := T2.setTop (mkF m 7 #[.val (.int v0)] [(.ref k0)])) (fun _ k => st2 _ k) ?_
    obtain ⟨fs, hr, hrun, hended, hW, hsame⟩ := X2.leave (v := some (.ref k0)) (fun h => by rw [Bd.returns] at h; cases h)
    exact ⟨_, _, retRef X2 hx Bd.returns rfl rfl (hb hby d1_7) hr, hrun, hended, _, _, rfl, (by show Q1 Z k0 k1 k2 k3 k4 k5 k6 k7 k8 k9 v0 h0 n0 _ T2.heap _; rw [e2]; exact ⟨(by simp [f1, hc1]), N0, rfl⟩), ⟨_, rfl⟩, hW, hsame.mono (by decide) (by decide)⟩
  · refine Ends.st (S' := s₁.setTop (mkF m 8 #[.val (.int v0)] [])) (fun _ k => XS.ifYes X0.here hx rfl (pc0 := 1) (pc' := 8) rfl (hb hby d1_1) rfl ((if0 _ _).trans (feq hc1).2) (by decide) (by decide) k) ?_
    refine Ends.st (S' := s₁.setTop (mkF m 9 #[.val (.int v0)] [(.int v0)])) (fun _ k => XS.iloadN X0.here hx rfl (hb hby d1_8) rfl k) ?_
    refine Ends.st (S' := s₁.setTop (mkF m 10 #[.val (.int v0)] [(.int (1 : Int32)), (.int v0)])) (fun _ k => XS.iconst X0.here hx rfl (hb hby d1_9) k) ?_
    by_cases hc3 : v0 = (1 : Int32)
    · refine Ends.st (S' := s₁.setTop (mkF m 13 #[.val (.int v0)] [])) (fun _ k => XS.icmpNo X0.here hx rfl (hb hby d1_10) rfl (teq hc3).2 k) ?_
      obtain ⟨T4, X4, e4, st4⟩ := getS2 X0 hx hZ hown (host := "") (Or.inl (hw _ (List.mem_of_getElem? (i := 27) rfl))) Via.refl e0 SK1 (g := (mkF m 13 #[.val (.int v0)] [])) rfl (hb hby d1_13)
      refine Ends.st (S' := T4.setTop (mkF m 16 #[.val (.int v0)] [(.ref k1)])) (fun _ k => st4 _ k) ?_
      obtain ⟨fs, hr, hrun, hended, hW, hsame⟩ := X4.leave (v := some (.ref k1)) (fun h => by rw [Bd.returns] at h; cases h)
      exact ⟨_, _, retRef X4 hx Bd.returns rfl rfl (hb hby d1_16) hr, hrun, hended, _, _, rfl, (by show Q1 Z k0 k1 k2 k3 k4 k5 k6 k7 k8 k9 v0 h0 n0 _ T4.heap _; rw [e4]; exact ⟨(by simp [f1, hc1, hc3]), N0, rfl⟩), ⟨_, rfl⟩, hW, hsame.mono (by decide) (by decide)⟩
    · refine Ends.st (S' := s₁.setTop (mkF m 17 #[.val (.int v0)] [])) (fun _ k => XS.icmpYes X0.here hx rfl (pc0 := 10) (pc' := 17) rfl (hb hby d1_10) rfl (feq hc3).2 (by decide) (by decide) k) ?_
      refine Ends.st (S' := s₁.setTop (mkF m 18 #[.val (.int v0)] [(.int v0)])) (fun _ k => XS.iloadN X0.here hx rfl (hb hby d1_17) rfl k) ?_
      refine Ends.st (S' := s₁.setTop (mkF m 19 #[.val (.int v0)] [(.int (2 : Int32)), (.int v0)])) (fun _ k => XS.iconst X0.here hx rfl (hb hby d1_18) k) ?_
      by_cases hc5 : v0 = (2 : Int32)
      · refine Ends.st (S' := s₁.setTop (mkF m 22 #[.val (.int v0)] [])) (fun _ k => XS.icmpNo X0.here hx rfl (hb hby d1_19) rfl (teq hc5).2 k) ?_
        obtain ⟨T6, X6, e6, st6⟩ := getS2 X0 hx hZ hown (host := "") (Or.inl (hw _ (List.mem_of_getElem? (i := 33) rfl))) Via.refl e0 SK2 (g := (mkF m 22 #[.val (.int v0)] [])) rfl (hb hby d1_22)
        refine Ends.st (S' := T6.setTop (mkF m 25 #[.val (.int v0)] [(.ref k2)])) (fun _ k => st6 _ k) ?_
        obtain ⟨fs, hr, hrun, hended, hW, hsame⟩ := X6.leave (v := some (.ref k2)) (fun h => by rw [Bd.returns] at h; cases h)
        exact ⟨_, _, retRef X6 hx Bd.returns rfl rfl (hb hby d1_25) hr, hrun, hended, _, _, rfl, (by show Q1 Z k0 k1 k2 k3 k4 k5 k6 k7 k8 k9 v0 h0 n0 _ T6.heap _; rw [e6]; exact ⟨(by simp [f1, hc1, hc3, hc5]), N0, rfl⟩), ⟨_, rfl⟩, hW, hsame.mono (by decide) (by decide)⟩
      · refine Ends.st (S' := s₁.setTop (mkF m 26 #[.val (.int v0)] [])) (fun _ k => XS.icmpYes X0.here hx rfl (pc0 := 19) (pc' := 26) rfl (hb hby d1_19) rfl (feq hc5).2 (by decide) (by decide) k) ?_
        refine Ends.st (S' := s₁.setTop (mkF m 27 #[.val (.int v0)] [(.int v0)])) (fun _ k => XS.iloadN X0.here hx rfl (hb hby d1_26) rfl k) ?_
        refine Ends.st (S' := s₁.setTop (mkF m 28 #[.val (.int v0)] [(.int (3 : Int32)), (.int v0)])) (fun _ k => XS.iconst X0.here hx rfl (hb hby d1_27) k) ?_
        by_cases hc7 : v0 = (3 : Int32)
        · refine Ends.st (S' := s₁.setTop (mkF m 31 #[.val (.int v0)] [])) (fun _ k => XS.icmpNo X0.here hx rfl (hb hby d1_28) rfl (teq hc7).2 k) ?_
          obtain ⟨T8, X8, e8, st8⟩ := getS2 X0 hx hZ hown (host := "") (Or.inl (hw _ (List.mem_of_getElem? (i := 25) rfl))) Via.refl e0 SK3 (g := (mkF m 31 #[.val (.int v0)] [])) rfl (hb hby d1_31)
          refine Ends.st (S' := T8.setTop (mkF m 34 #[.val (.int v0)] [(.ref k3)])) (fun _ k => st8 _ k) ?_
          obtain ⟨fs, hr, hrun, hended, hW, hsame⟩ := X8.leave (v := some (.ref k3)) (fun h => by rw [Bd.returns] at h; cases h)
          exact ⟨_, _, retRef X8 hx Bd.returns rfl rfl (hb hby d1_34) hr, hrun, hended, _, _, rfl, (by show Q1 Z k0 k1 k2 k3 k4 k5 k6 k7 k8 k9 v0 h0 n0 _ T8.heap _; rw [e8]; exact ⟨(by simp [f1, hc1, hc3, hc5, hc7]), N0, rfl⟩), ⟨_, rfl⟩, hW, hsame.mono (by decide) (by decide)⟩
        · refine Ends.st (S' := s₁.setTop (mkF m 35 #[.val (.int v0)] [])) (fun _ k => XS.icmpYes X0.here hx rfl (pc0 := 28) (pc' := 35) rfl (hb hby d1_28) rfl (feq hc7).2 (by decide) (by decide) k) ?_
          refine Ends.st (S' := s₁.setTop (mkF m 36 #[.val (.int v0)] [(.int v0)])) (fun _ k => XS.iloadN X0.here hx rfl (hb hby d1_35) rfl k) ?_
          refine Ends.st (S' := s₁.setTop (mkF m 37 #[.val (.int v0)] [(.int (4 : Int32)), (.int v0)])) (fun _ k => XS.iconst X0.here hx rfl (hb hby d1_36) k) ?_
          by_cases hc9 : v0 = (4 : Int32)
          · refine Ends.st (S' := s₁.setTop (mkF m 40 #[.val (.int v0)] [])) (fun _ k => XS.icmpNo X0.here hx rfl (hb hby d1_37) rfl (teq hc9).2 k) ?_
            obtain ⟨T10, X10, e10, st10⟩ := getS2 X0 hx hZ hown (host := "") (Or.inl (hw _ (List.mem_of_getElem? (i := 29) rfl))) Via.refl e0 SK4 (g := (mkF m 40 #[.val (.int v0)] [])) rfl (hb hby d1_40)
            refine Ends.st (S' := T10.setTop (mkF m 43 #[.val (.int v0)] [(.ref k4)])) (fun _ k => st10 _ k) ?_
            obtain ⟨fs, hr, hrun, hended, hW, hsame⟩ := X10.leave (v := some (.ref k4)) (fun h => by rw [Bd.returns] at h; cases h)
            exact ⟨_, _, retRef X10 hx Bd.returns rfl rfl (hb hby d1_43) hr, hrun, hended, _, _, rfl, (by show Q1 Z k0 k1 k2 k3 k4 k5 k6 k7 k8 k9 v0 h0 n0 _ T10.heap _; rw [e10]; exact ⟨(by simp [f1, hc1, hc3, hc5, hc7, hc9]), N0, rfl⟩), ⟨_, rfl⟩, hW, hsame.mono (by decide) (by decide)⟩
          · refine Ends.st (S' := s₁.setTop (mkF m 44 #[.val (.int v0)] [])) (fun _ k => XS.icmpYes X0.here hx rfl (pc0 := 37) (pc' := 44) rfl (hb hby d1_37) rfl (feq hc9).2 (by decide) (by decide) k) ?_
            refine Ends.st (S' := s₁.setTop (mkF m 45 #[.val (.int v0)] [(.int v0)])) (fun _ k => XS.iloadN X0.here hx rfl (hb hby d1_44) rfl k) ?_
            refine Ends.st (S' := s₁.setTop (mkF m 46 #[.val (.int v0)] [(.int (5 : Int32)), (.int v0)])) (fun _ k => XS.iconst X0.here hx rfl (hb hby d1_45) k) ?_
            by_cases hc11 : v0 = (5 : Int32)
            · refine Ends.st (S' := s₁.setTop (mkF m 49 #[.val (.int v0)] [])) (fun _ k => XS.icmpNo X0.here hx rfl (hb hby d1_46) rfl (teq hc11).2 k) ?_
              obtain ⟨T12, X12, e12, st12⟩ := getS2 X0 hx hZ hown (host := "") (Or.inl (hw _ (List.mem_of_getElem? (i := 39) rfl))) Via.refl e0 SK5 (g := (mkF m 49 #[.val (.int v0)] [])) rfl (hb hby d1_49)
              refine Ends.st (S' := T12.setTop (mkF m 52 #[.val (.int v0)] [(.ref k5)])) (fun _ k => st12 _ k) ?_
              obtain ⟨fs, hr, hrun, hended, hW, hsame⟩ := X12.leave (v := some (.ref k5)) (fun h => by rw [Bd.returns] at h; cases h)
              exact ⟨_, _, retRef X12 hx Bd.returns rfl rfl (hb hby d1_52) hr, hrun, hended, _, _, rfl, (by show Q1 Z k0 k1 k2 k3 k4 k5 k6 k7 k8 k9 v0 h0 n0 _ T12.heap _; rw [e12]; exact ⟨(by simp [f1, hc1, hc3, hc5, hc7, hc9, hc11]), N0, rfl⟩), ⟨_, rfl⟩, hW, hsame.mono (by decide) (by decide)⟩
            · refine Ends.st (S' := s₁.setTop (mkF m 53 #[.val (.int v0)] [])) (fun _ k => XS.icmpYes X0.here hx rfl (pc0 := 46) (pc' := 53) rfl (hb hby d1_46) rfl (feq hc11).2 (by decide) (by decide) k) ?_
              refine Ends.st (S' := s₁.setTop (mkF m 54 #[.val (.int v0)] [(.int v0)])) (fun _ k => XS.iloadN X0.here hx rfl (hb hby d1_53) rfl k) ?_
              refine Ends.st (S' := s₁.setTop (mkF m 56 #[.val (.int v0)] [(.int (6 : Int32)), (.int v0)])) (fun _ k => XS.bipush X0.here hx rfl (hb hby d1_54) k) ?_
              by_cases hc13 : v0 = (6 : Int32)
              · refine Ends.st (S' := s₁.setTop (mkF m 59 #[.val (.int v0)] [])) (fun _ k => XS.icmpNo X0.here hx rfl (hb hby d1_56) rfl (teq hc13).2 k) ?_
                obtain ⟨T14, X14, e14, st14⟩ := getS2 X0 hx hZ hown (host := "") (Or.inl (hw _ (List.mem_of_getElem? (i := 41) rfl))) Via.refl e0 SK6 (g := (mkF m 59 #[.val (.int v0)] [])) rfl (hb hby d1_59)
                refine Ends.st (S' := T14.setTop (mkF m 62 #[.val (.int v0)] [(.ref k6)])) (fun _ k => st14 _ k) ?_
                obtain ⟨fs, hr, hrun, hended, hW, hsame⟩ := X14.leave (v := some (.ref k6)) (fun h => by rw [Bd.returns] at h; cases h)
                exact ⟨_, _, retRef X14 hx Bd.returns rfl rfl (hb hby d1_62) hr, hrun, hended, _, _, rfl, (by show Q1 Z k0 k1 k2 k3 k4 k5 k6 k7 k8 k9 v0 h0 n0 _ T14.heap _; rw [e14]; exact ⟨(by simp [f1, hc1, hc3, hc5, hc7, hc9, hc11, hc13]), N0, rfl⟩), ⟨_, rfl⟩, hW, hsame.mono (by decide) (by decide)⟩
              · refine Ends.st (S' := s₁.setTop (mkF m 63 #[.val (.int v0)] [])) (fun _ k => XS.icmpYes X0.here hx rfl (pc0 := 56) (pc' := 63) rfl (hb hby d1_56) rfl (feq hc13).2 (by decide) (by decide) k) ?_
                refine Ends.st (S' := s₁.setTop (mkF m 64 #[.val (.int v0)] [(.int v0)])) (fun _ k => XS.iloadN X0.here hx rfl (hb hby d1_63) rfl k) ?_
                refine Ends.st (S' := s₁.setTop (mkF m 66 #[.val (.int v0)] [(.int (7 : Int32)), (.int v0)])) (fun _ k => XS.bipush X0.here hx rfl (hb hby d1_64) k) ?_
                by_cases hc15 : v0 = (7 : Int32)
                · refine Ends.st (S' := s₁.setTop (mkF m 69 #[.val (.int v0)] [])) (fun _ k => XS.icmpNo X0.here hx rfl (hb hby d1_66) rfl (teq hc15).2 k) ?_
                  obtain ⟨T16, X16, e16, st16⟩ := getS2 X0 hx hZ hown (host := "") (Or.inl (hw _ (List.mem_of_getElem? (i := 31) rfl))) Via.refl e0 SK7 (g := (mkF m 69 #[.val (.int v0)] [])) rfl (hb hby d1_69)
                  refine Ends.st (S' := T16.setTop (mkF m 72 #[.val (.int v0)] [(.ref k7)])) (fun _ k => st16 _ k) ?_
                  obtain ⟨fs, hr, hrun, hended, hW, hsame⟩ := X16.leave (v := some (.ref k7)) (fun h => by rw [Bd.returns] at h; cases h)
                  exact ⟨_, _, retRef X16 hx Bd.returns rfl rfl (hb hby d1_72) hr, hrun, hended, _, _, rfl, (by show Q1 Z k0 k1 k2 k3 k4 k5 k6 k7 k8 k9 v0 h0 n0 _ T16.heap _; rw [e16]; exact ⟨(by simp [f1, hc1, hc3, hc5, hc7, hc9, hc11, hc13, hc15]), N0, rfl⟩), ⟨_, rfl⟩, hW, hsame.mono (by decide) (by decide)⟩
                · refine Ends.st (S' := s₁.setTop (mkF m 73 #[.val (.int v0)] [])) (fun _ k => XS.icmpYes X0.here hx rfl (pc0 := 66) (pc' := 73) rfl (hb hby d1_66) rfl (feq hc15).2 (by decide) (by decide) k) ?_
                  refine Ends.st (S' := s₁.setTop (mkF m 74 #[.val (.int v0)] [(.int v0)])) (fun _ k => XS.iloadN X0.here hx rfl (hb hby d1_73) rfl k) ?_
                  refine Ends.st (S' := s₁.setTop (mkF m 76 #[.val (.int v0)] [(.int (8 : Int32)), (.int v0)])) (fun _ k => XS.bipush X0.here hx rfl (hb hby d1_74) k) ?_
                  by_cases hc17 : v0 = (8 : Int32)
                  · refine Ends.st (S' := s₁.setTop (mkF m 79 #[.val (.int v0)] [])) (fun _ k => XS.icmpNo X0.here hx rfl (hb hby d1_76) rfl (teq hc17).2 k) ?_
                    obtain ⟨T18, X18, e18, st18⟩ := getS2 X0 hx hZ hown (host := "") (Or.inl (hw _ (List.mem_of_getElem? (i := 35) rfl))) Via.refl e0 SK8 (g := (mkF m 79 #[.val (.int v0)] [])) rfl (hb hby d1_79)
                    refine Ends.st (S' := T18.setTop (mkF m 82 #[.val (.int v0)] [(.ref k8)])) (fun _ k => st18 _ k) ?_
                    obtain ⟨fs, hr, hrun, hended, hW, hsame⟩ := X18.leave (v := some (.ref k8)) (fun h => by rw [Bd.returns] at h; cases h)
                    exact ⟨_, _, retRef X18 hx Bd.returns rfl rfl (hb hby d1_82) hr, hrun, hended, _, _, rfl, (by show Q1 Z k0 k1 k2 k3 k4 k5 k6 k7 k8 k9 v0 h0 n0 _ T18.heap _; rw [e18]; exact ⟨(by simp [f1, hc1, hc3, hc5, hc7, hc9, hc11, hc13, hc15, hc17]), N0, rfl⟩), ⟨_, rfl⟩, hW, hsame.mono (by decide) (by decide)⟩
                  · refine Ends.st (S' := s₁.setTop (mkF m 83 #[.val (.int v0)] [])) (fun _ k => XS.icmpYes X0.here hx rfl (pc0 := 76) (pc' := 83) rfl (hb hby d1_76) rfl (feq hc17).2 (by decide) (by decide) k) ?_
                    obtain ⟨T19, X19, e19, st19⟩ := getS2 X0 hx hZ hown (host := "") (Or.inl (hw _ (List.mem_of_getElem? (i := 37) rfl))) Via.refl e0 SK9 (g := (mkF m 83 #[.val (.int v0)] [])) rfl (hb hby d1_83)
                    refine Ends.st (S' := T19.setTop (mkF m 86 #[.val (.int v0)] [(.ref k9)])) (fun _ k => st19 _ k) ?_
                    obtain ⟨fs, hr, hrun, hended, hW, hsame⟩ := X19.leave (v := some (.ref k9)) (fun h => by rw [Bd.returns] at h; cases h)
                    exact ⟨_, _, retRef X19 hx Bd.returns rfl rfl (hb hby d1_86) hr, hrun, hended, _, _, rfl, (by show Q1 Z k0 k1 k2 k3 k4 k5 k6 k7 k8 k9 v0 h0 n0 _ T19.heap _; rw [e19]; exact ⟨(by simp [f1, hc1, hc3, hc5, hc7, hc9, hc11, hc13, hc15, hc17]), N0, rfl⟩), ⟨_, rfl⟩, hW, hsame.mono (by decide) (by decide)⟩
theorem ef_rm2 (m : MethodId) (x0 : Int32)  : entryFrame m #[(.int x0)] 1 = mkF m 0 #[.val (.int x0)] [] := by first | (simp [entryFrame, mkF, argsToLocals, Value.category]; done) | rfl
set_option maxRecDepth 65536 in
set_option maxHeartbeats 40000000 in
theorem rm2 (l : Launch) (Z : State) (a0 : Array Value) (hw : ∀ d ∈ tables_1, d.before a0 Z = true) (ws : List Jvm.Cond) (o0 : Addr) (o1 : Addr) (o2 : Addr) (v0 : Int32) (h0 : Heap) (n0 : Nat) (Z0 : n0 ≤ h0.size) (SO0 : Sta Z h0 "com/example/clearance/clearance/rules/Formula$Operator" "UNION" "Lcom/example/clearance/clearance/rules/Formula$Operator;" (.ref o0)) (SO1 : Sta Z h0 "com/example/clearance/clearance/rules/Formula$Operator" "DIFFERENCE" "Lcom/example/clearance/clearance/rules/Formula$Operator;" (.ref o1)) (SO2 : Sta Z h0 "com/example/clearance/clearance/rules/Formula$Operator" "INTERSECTION" "Lcom/example/clearance/clearance/rules/Formula$Operator;" (.ref o2)) :
    MetFree l (⟨"com/example/clearance/clearance/rules/OperatorWrittenPinLaw", "expectedOf", "(I)Lcom/example/clearance/clearance/rules/Formula$Operator;"⟩ : MethodName) (head1 (Jvm.Cond.code (⟨"com/example/clearance/clearance/rules/OperatorWrittenPinLaw", "expectedOf", "(I)Lcom/example/clearance/clearance/rules/Formula$Operator;"⟩ : MethodName) method_3_code 1 (some (.object "com/example/clearance/clearance/rules/Formula$Operator")) :: ws) ({ frames := 0, cells := 0, slots := 0, locals := 0 } : Room)) (fun a U => a = #[(.int v0)] ∧ Z.Warmed39 U.vm ∧ U.heap = h0) (fun _ _ _ _ _ => True) (fun _ U o U' => ∃ v L, o = .returned v ∧ Q2 Z o0 o1 o2 v0 h0 n0 v U'.heap L ∧ FrameEnd U o U' L ({ frames := 0, cells := 0, slots := 0, locals := 0 } : Room).cells ({ frames := 0, cells := 0, slots := 0, locals := 0 } : Room).slots) := by
  refine MetFree.of_bodySF (plainFor_of_name pn_2) hisR ?_
  intro p e s m args below meth c s₁ Bd hml0 hP hK
  obtain ⟨rfl, hZ, hh⟩ := hP
  have hx := Bd.exec
  have hby := Bd.bytes
  have hml : c.maxLocals = 1 := hml0
  have hown : s.vm.findClass "com/example/clearance/clearance/rules/OperatorWrittenPinLaw" = some m.cls := findClass_of_methodNamed Bd.named
  have hnm := (name_of_methodNamed Bd.named Bd.method).1
  have X0 : Stand p l e ({ frames := 0, cells := 0, slots := 0, locals := 0 } : Room) s m #[(.int v0)] below meth c s₁ [] 0 0 := Stand.of_body Bd
  have e0 : s₁.heap = h0 := by rw [← hh, Bd.state]; rfl
  have N0 := Fr.nil n0
  refine Ends.st (tb := p.tables) (e := e) (below := below) (S' := s₁.setTop (mkF m 0 #[.val (.int v0)] [])) (fun t k => castTop (ef_rm2 m v0) k) ?_
  refine Ends.st (S' := s₁.setTop (mkF m 1 #[.val (.int v0)] [(.int v0)])) (fun _ k => XS.iloadN X0.here hx rfl (hb hby d2_0) rfl k) ?_
  refine Ends.st (S' := s₁.setTop (mkF m 2 #[.val (.int v0)] [(.int (3 : Int32)), (.int v0)])) (fun _ k => XS.iconst X0.here hx rfl (hb hby d2_1) k) ?_
  by_cases hc1 : v0 = (3 : Int32)
  · refine Ends.st (S' := s₁.setTop (mkF m 5 #[.val (.int v0)] [])) (fun _ k => XS.icmpNo X0.here hx rfl (hb hby d2_2) rfl (teq hc1).2 k) ?_
    obtain ⟨T2, X2, e2, st2⟩ := getS2 X0 hx hZ hown (host := "") (Or.inl (hw _ (List.mem_of_getElem? (i := 26) rfl))) Via.refl e0 SO0 (g := (mkF m 5 #[.val (.int v0)] [])) rfl (hb hby d2_5)
    refine Ends.st (S' := T2.setTop (mkF m 8 #[.val (.int v0)] [(.ref o0)])) (fun _ k => st2 _ k) ?_
    obtain ⟨fs, hr, hrun, hended, hW, hsame⟩ := X2.leave (v := some (.ref o0)) (fun h => by rw [Bd.returns] at h; cases h)
    exact ⟨_, _, retRef X2 hx Bd.returns rfl rfl (hb hby d2_8) hr, hrun, hended, _, _, rfl, (by show Q2 Z o0 o1 o2 v0 h0 n0 _ T2.heap _; rw [e2]; exact ⟨(by simp [f2, hc1]), N0, rfl⟩), ⟨_, rfl⟩, hW, hsame.mono (by decide) (by decide)⟩
  · refine Ends.st (S' := s₁.setTop (mkF m 9 #[.val (.int v0)] [])) (fun _ k => XS.icmpYes X0.here hx rfl (pc0 := 2) (pc' := 9) rfl (hb hby d2_2) rfl (feq hc1).2 (by decide) (by decide) k) ?_
    refine Ends.st (S' := s₁.setTop (mkF m 10 #[.val (.int v0)] [(.int v0)])) (fun _ k => XS.iloadN X0.here hx rfl (hb hby d2_9) rfl k) ?_
    refine Ends.st (S' := s₁.setTop (mkF m 11 #[.val (.int v0)] [(.int (4 : Int32)), (.int v0)])) (fun _ k => XS.iconst X0.here hx rfl (hb hby d2_10) k) ?_
    by_cases hc3 : v0 = (4 : Int32)
    · refine Ends.st (S' := s₁.setTop (mkF m 14 #[.val (.int v0)] [])) (fun _ k => XS.icmpNo X0.here hx rfl (hb hby d2_11) rfl (teq hc3).2 k) ?_
      obtain ⟨T4, X4, e4, st4⟩ := getS2 X0 hx hZ hown (host := "") (Or.inl (hw _ (List.mem_of_getElem? (i := 30) rfl))) Via.refl e0 SO1 (g := (mkF m 14 #[.val (.int v0)] [])) rfl (hb hby d2_14)
      refine Ends.st (S' := T4.setTop (mkF m 17 #[.val (.int v0)] [(.ref o1)])) (fun _ k => st4 _ k) ?_
      obtain ⟨fs, hr, hrun, hended, hW, hsame⟩ := X4.leave (v := some (.ref o1)) (fun h => by rw [Bd.returns] at h; cases h)
      exact ⟨_, _, retRef X4 hx Bd.returns rfl rfl (hb hby d2_17) hr, hrun, hended, _, _, rfl, (by show Q2 Z o0 o1 o2 v0 h0 n0 _ T4.heap _; rw [e4]; exact ⟨(by simp [f2, hc1, hc3]), N0, rfl⟩), ⟨_, rfl⟩, hW, hsame.mono (by decide) (by decide)⟩
    · refine Ends.st (S' := s₁.setTop (mkF m 18 #[.val (.int v0)] [])) (fun _ k => XS.icmpYes X0.here hx rfl (pc0 := 11) (pc' := 18) rfl (hb hby d2_11) rfl (feq hc3).2 (by decide) (by decide) k) ?_
      refine Ends.st (S' := s₁.setTop (mkF m 19 #[.val (.int v0)] [(.int v0)])) (fun _ k => XS.iloadN X0.here hx rfl (hb hby d2_18) rfl k) ?_
      refine Ends.st (S' := s₁.setTop (mkF m 20 #[.val (.int v0)] [(.int (5 : Int32)), (.int v0)])) (fun _ k => XS.iconst X0.here hx rfl (hb hby d2_19) k) ?_
      by_cases hc5 : v0 = (5 : Int32)
      · refine Ends.st (S' := s₁.setTop (mkF m 23 #[.val (.int v0)] [])) (fun _ k => XS.icmpNo X0.here hx rfl (hb hby d2_20) rfl (teq hc5).2 k) ?_
        obtain ⟨T6, X6, e6, st6⟩ := getS2 X0 hx hZ hown (host := "") (Or.inl (hw _ (List.mem_of_getElem? (i := 40) rfl))) Via.refl e0 SO2 (g := (mkF m 23 #[.val (.int v0)] [])) rfl (hb hby d2_23)
        refine Ends.st (S' := T6.setTop (mkF m 26 #[.val (.int v0)] [(.ref o2)])) (fun _ k => st6 _ k) ?_
        obtain ⟨fs, hr, hrun, hended, hW, hsame⟩ := X6.leave (v := some (.ref o2)) (fun h => by rw [Bd.returns] at h; cases h)
        exact ⟨_, _, retRef X6 hx Bd.returns rfl rfl (hb hby d2_26) hr, hrun, hended, _, _, rfl, (by show Q2 Z o0 o1 o2 v0 h0 n0 _ T6.heap _; rw [e6]; exact ⟨(by simp [f2, hc1, hc3, hc5]), N0, rfl⟩), ⟨_, rfl⟩, hW, hsame.mono (by decide) (by decide)⟩
      · refine Ends.st (S' := s₁.setTop (mkF m 27 #[.val (.int v0)] [])) (fun _ k => XS.icmpYes X0.here hx rfl (pc0 := 20) (pc' := 27) rfl (hb hby d2_20) rfl (feq hc5).2 (by decide) (by decide) k) ?_
        refine Ends.st (S' := s₁.setTop (mkF m 28 #[.val (.int v0)] [.null])) (fun _ k => XS.aconstNull X0.here hx rfl (hb hby d2_27) k) ?_
        obtain ⟨fs, hr, hrun, hended, hW, hsame⟩ := X0.leave (v := some .null) (fun h => by rw [Bd.returns] at h; cases h)
        exact ⟨_, _, retRef X0 hx Bd.returns rfl rfl (hb hby d2_28) hr, hrun, hended, _, _, rfl, (by show Q2 Z o0 o1 o2 v0 h0 n0 _ s₁.heap _; rw [e0]; exact ⟨(by simp [f2, hc1, hc3, hc5]), N0, rfl⟩), ⟨_, rfl⟩, hW, hsame.mono (by decide) (by decide)⟩
theorem ef_rm3 (m : MethodId) (x0 : Addr)  : entryFrame m #[(.ref x0)] 5 = mkF m 0 #[.val (.ref x0), .unset, .unset, .unset, .unset] [] := by first | (simp [entryFrame, mkF, argsToLocals, Value.category]; done) | rfl
set_option maxRecDepth 65536 in
set_option maxHeartbeats 40000000 in
theorem rm3 (l : Launch) (Z : State) (a0 : Array Value) (hw : ∀ d ∈ tables_1, d.before a0 Z = true) (ws : List Jvm.Cond) (o0 : Addr) (o1 : Addr) (o2 : Addr) (k3 : Addr) (k4 : Addr) (k5 : Addr) (a1 : Addr) (al : Addr) (cl : Cell) (h0 : Heap) (n0 : Nat) (Z0 : n0 ≤ h0.size) (SA : Sta Z h0 "com/example/clearance/clearance/rules/Formula$Operator" "ALL" "[Lcom/example/clearance/clearance/rules/Formula$Operator;" (.ref al)) (Ar : Arr Z h0 al cl (.object "com/example/clearance/clearance/rules/Formula$Operator")) (hlen : cl.slots.size.toInt32 = 3) (H0 : ¬ ((0 : Int32) < 0 ∨ cl.slots.size ≤ (0 : Int32).toNatClampNeg) ∧ cl.slots[(0 : Int32).toNatClampNeg]? = some (.ref o0)) (H1 : ¬ ((1 : Int32) < 0 ∨ cl.slots.size ≤ (1 : Int32).toNatClampNeg) ∧ cl.slots[(1 : Int32).toNatClampNeg]? = some (.ref o1)) (H2 : ¬ ((2 : Int32) < 0 ∨ cl.slots.size ≤ (2 : Int32).toNatClampNeg) ∧ cl.slots[(2 : Int32).toNatClampNeg]? = some (.ref o2)) (FK0 : Fld Z h0 o0 "com/example/clearance/clearance/rules/Formula$Operator" "kind" "Lcom/example/clearance/clearance/rules/Lexer$Kind;" (.ref k3)) (FK1 : Fld Z h0 o1 "com/example/clearance/clearance/rules/Formula$Operator" "kind" "Lcom/example/clearance/clearance/rules/Lexer$Kind;" (.ref k4)) (FK2 : Fld Z h0 o2 "com/example/clearance/clearance/rules/Formula$Operator" "kind" "Lcom/example/clearance/clearance/rules/Lexer$Kind;" (.ref k5)) :
    MetFree l (⟨"com/example/clearance/clearance/rules/Formula$Operator", "written", "(Lcom/example/clearance/clearance/rules/Lexer$Kind;)Lcom/example/clearance/clearance/rules/Formula$Operator;"⟩ : MethodName) (head1 (Jvm.Cond.code (⟨"com/example/clearance/clearance/rules/Formula$Operator", "written", "(Lcom/example/clearance/clearance/rules/Lexer$Kind;)Lcom/example/clearance/clearance/rules/Formula$Operator;"⟩ : MethodName) prog_60_method_4_code 5 (some (.object "com/example/clearance/clearance/rules/Formula$Operator")) :: ws) ({ frames := 0, cells := 0, slots := 0, locals := 0 } : Room)) (fun a U => a = #[(.ref a1)] ∧ Z.Warmed39 U.vm ∧ U.heap = h0) (fun _ _ _ _ _ => True) (fun _ U o U' => ∃ v L, o = .returned v ∧ Q3 Z o0 o1 o2 k3 k4 k5 a1 h0 n0 v U'.heap L ∧ FrameEnd U o U' L ({ frames := 0, cells := 0, slots := 0, locals := 0 } : Room).cells ({ frames := 0, cells := 0, slots := 0, locals := 0 } : Room).slots) := by
  refine MetFree.of_bodySF (plainFor_of_name pn_3) hisR ?_
  intro p e s m args below meth c s₁ Bd hml0 hP hK
  obtain ⟨rfl, hZ, hh⟩ := hP
  have hx := Bd.exec
  have hby := Bd.bytes
  have hml : c.maxLocals = 5 := hml0
  have hown : s.vm.findClass "com/example/clearance/clearance/rules/Formula$Operator" = some m.cls := findClass_of_methodNamed Bd.named
  have hnm := (name_of_methodNamed Bd.named Bd.method).1
  have X0 : Stand p l e ({ frames := 0, cells := 0, slots := 0, locals := 0 } : Room) s m #[(.ref a1)] below meth c s₁ [] 0 0 := Stand.of_body Bd
  have e0 : s₁.heap = h0 := by rw [← hh, Bd.state]; rfl
  have N0 := Fr.nil n0
  refine Ends.st (tb := p.tables) (e := e) (below := below) (S' := s₁.setTop (mkF m 0 #[.val (.ref a1), .unset, .unset, .unset, .unset] [])) (fun t k => castTop (ef_rm3 m a1) k) ?_
  obtain ⟨T1, X1, e1, st1⟩ := getS2 X0 hx hZ hown (host := "") (Or.inl (hw _ (List.mem_of_getElem? (i := 15) rfl))) Via.refl e0 SA (g := (mkF m 0 #[.val (.ref a1), .unset, .unset, .unset, .unset] [])) rfl (hb hby d3_0)
  refine Ends.st (S' := T1.setTop (mkF m 3 #[.val (.ref a1), .unset, .unset, .unset, .unset] [(.ref al)])) (fun _ k => st1 _ k) ?_
  refine Ends.st (S' := T1.setTop (mkF m 4 #[.val (.ref a1), .val (.ref al), .unset, .unset, .unset] [])) (fun _ k => XS.astoreN X1.here hx rfl (hb hby d3_3) rfl rfl (l' := #[.val (.ref a1), .val (.ref al), .unset, .unset, .unset]) rfl k) ?_
  refine Ends.st (S' := T1.setTop (mkF m 5 #[.val (.ref a1), .val (.ref al), .unset, .unset, .unset] [(.ref al)])) (fun _ k => XS.aloadN X1.here hx rfl (hb hby d3_4) rfl rfl k) ?_
  refine Ends.st (S' := T1.setTop (mkF m 6 #[.val (.ref a1), .val (.ref al), .unset, .unset, .unset] [(.int (3 : Int32))])) (fun _ k => X1.arraylength hx (by rw [e1]; exact Ar.1) (State.isArrayOf_alike hZ.alike Ar.2.1) (g := (mkF m 5 #[.val (.ref a1), .val (.ref al), .unset, .unset, .unset] [(.ref al)])) rfl rfl (hb hby d3_5) _ (by rw [hlen]; exact k)) ?_
  refine Ends.st (S' := T1.setTop (mkF m 7 #[.val (.ref a1), .val (.ref al), .val (.int (3 : Int32)), .unset, .unset] [])) (fun _ k => XS.istoreN X1.here hx rfl (hb hby d3_6) rfl (l' := #[.val (.ref a1), .val (.ref al), .val (.int (3 : Int32)), .unset, .unset]) rfl k) ?_
  refine Ends.st (S' := T1.setTop (mkF m 8 #[.val (.ref a1), .val (.ref al), .val (.int (3 : Int32)), .unset, .unset] [(.int (0 : Int32))])) (fun _ k => XS.iconst X1.here hx rfl (hb hby d3_7) k) ?_
  refine Ends.st (S' := T1.setTop (mkF m 9 #[.val (.ref a1), .val (.ref al), .val (.int (3 : Int32)), .val (.int (0 : Int32)), .unset] [])) (fun _ k => XS.istoreN X1.here hx rfl (hb hby d3_8) rfl (l' := #[.val (.ref a1), .val (.ref al), .val (.int (3 : Int32)), .val (.int (0 : Int32)), .unset]) rfl k) ?_
  refine Ends.st (S' := T1.setTop (mkF m 10 #[.val (.ref a1), .val (.ref al), .val (.int (3 : Int32)), .val (.int (0 : Int32)), .unset] [(.int (0 : Int32))])) (fun _ k => XS.iloadN X1.here hx rfl (hb hby d3_9) rfl k) ?_
  refine Ends.st (S' := T1.setTop (mkF m 11 #[.val (.ref a1), .val (.ref al), .val (.int (3 : Int32)), .val (.int (0 : Int32)), .unset] [(.int (3 : Int32)), (.int (0 : Int32))])) (fun _ k => XS.iloadN X1.here hx rfl (hb hby d3_10) rfl k) ?_
  refine Ends.st (S' := T1.setTop (mkF m 14 #[.val (.ref a1), .val (.ref al), .val (.int (3 : Int32)), .val (.int (0 : Int32)), .unset] [])) (fun _ k => XS.icmpNo X1.here hx rfl (hb hby d3_11) rfl (tlt (by decide : (0 : Int32) < (3 : Int32))).2.1 k) ?_
  refine Ends.st (S' := T1.setTop (mkF m 15 #[.val (.ref a1), .val (.ref al), .val (.int (3 : Int32)), .val (.int (0 : Int32)), .unset] [(.ref al)])) (fun _ k => XS.aloadN X1.here hx rfl (hb hby d3_14) rfl rfl k) ?_
  refine Ends.st (S' := T1.setTop (mkF m 16 #[.val (.ref a1), .val (.ref al), .val (.int (3 : Int32)), .val (.int (0 : Int32)), .unset] [(.int (0 : Int32)), (.ref al)])) (fun _ k => XS.iloadN X1.here hx rfl (hb hby d3_15) rfl k) ?_
  refine Ends.st (S' := T1.setTop (mkF m 17 #[.val (.ref a1), .val (.ref al), .val (.int (3 : Int32)), .val (.int (0 : Int32)), .unset] [(.ref o0)])) (fun _ k => X1.aaload hx (j := (0 : Int32)) (v := (.ref o0)) (by rw [e1]; exact Ar.1) (State.isArrayOf_alike hZ.alike Ar.2.1) rfl Ar.2.2 H0.1 H0.2 (g := (mkF m 16 #[.val (.ref a1), .val (.ref al), .val (.int (3 : Int32)), .val (.int (0 : Int32)), .unset] [(.int (0 : Int32)), (.ref al)])) rfl rfl (hb hby d3_16) _ k) ?_
  refine Ends.st (S' := T1.setTop (mkF m 19 #[.val (.ref a1), .val (.ref al), .val (.int (3 : Int32)), .val (.int (0 : Int32)), .val (.ref o0)] [])) (fun _ k => XS.astore X1.here hx rfl (hb hby d3_17) rfl rfl (l' := #[.val (.ref a1), .val (.ref al), .val (.int (3 : Int32)), .val (.int (0 : Int32)), .val (.ref o0)]) rfl k) ?_
  refine Ends.st (S' := T1.setTop (mkF m 21 #[.val (.ref a1), .val (.ref al), .val (.int (3 : Int32)), .val (.int (0 : Int32)), .val (.ref o0)] [(.ref o0)])) (fun _ k => XS.aload X1.here hx rfl (hb hby d3_19) rfl rfl k) ?_
  obtain ⟨T2, X2, e2, st2⟩ := getF X1 hx hZ hown (host := "") (Or.inl (hw _ (List.mem_of_getElem? (i := 18) rfl))) Via.refl e1 (FK0) (g := (mkF m 21 #[.val (.ref a1), .val (.ref al), .val (.int (3 : Int32)), .val (.int (0 : Int32)), .val (.ref o0)] [(.ref o0)])) rfl rfl (hb hby d3_21)
  refine Ends.st (S' := T2.setTop (mkF m 24 #[.val (.ref a1), .val (.ref al), .val (.int (3 : Int32)), .val (.int (0 : Int32)), .val (.ref o0)] [(.ref k3)])) (fun _ k => st2 _ k) ?_
  refine Ends.st (S' := T2.setTop (mkF m 25 #[.val (.ref a1), .val (.ref al), .val (.int (3 : Int32)), .val (.int (0 : Int32)), .val (.ref o0)] [(.ref a1), (.ref k3)])) (fun _ k => XS.aloadN X2.here hx rfl (hb hby d3_24) rfl rfl k) ?_
  by_cases hc3 : k3 = a1
  · refine Ends.st (S' := T2.setTop (mkF m 28 #[.val (.ref a1), .val (.ref al), .val (.int (3 : Int32)), .val (.int (0 : Int32)), .val (.ref o0)] [])) (fun _ k => Jvm.RoadKit.acmp (g := (mkF m 25 #[.val (.ref a1), .val (.ref al), .val (.int (3 : Int32)), .val (.int (0 : Int32)), .val (.ref o0)] [(.ref a1), (.ref k3)])) X2 hx rfl rfl rfl (pc0 := 25) (pc' := 28) (same := true) rfl (hb hby d3_25) rfl (decide_eq_true (congrArg Value.ref hc3)) (by decide) (by decide) k) ?_
    refine Ends.st (S' := T2.setTop (mkF m 30 #[.val (.ref a1), .val (.ref al), .val (.int (3 : Int32)), .val (.int (0 : Int32)), .val (.ref o0)] [(.ref o0)])) (fun _ k => XS.aload X2.here hx rfl (hb hby d3_28) rfl rfl k) ?_
    obtain ⟨fs, hr, hrun, hended, hW, hsame⟩ := X2.leave (v := some (.ref o0)) (fun h => by rw [Bd.returns] at h; cases h)
    exact ⟨_, _, retRef X2 hx Bd.returns rfl rfl (hb hby d3_30) hr, hrun, hended, _, _, rfl, (by show Q3 Z o0 o1 o2 k3 k4 k5 a1 h0 n0 _ T2.heap _; rw [e2]; exact ⟨(by simp [f3, hc3]), N0, rfl⟩), ⟨_, rfl⟩, hW, hsame.mono (by decide) (by decide)⟩
  · refine Ends.st (S' := T2.setTop (mkF m 31 #[.val (.ref a1), .val (.ref al), .val (.int (3 : Int32)), .val (.int (0 : Int32)), .val (.ref o0)] [])) (fun _ k => Jvm.RoadKit.acmp (g := (mkF m 25 #[.val (.ref a1), .val (.ref al), .val (.int (3 : Int32)), .val (.int (0 : Int32)), .val (.ref o0)] [(.ref a1), (.ref k3)])) X2 hx rfl rfl rfl (pc0 := 25) (pc' := 31) (same := false) rfl (hb hby d3_25) rfl (decide_eq_false fun q => hc3 (Value.ref.inj q)) (by decide) (by decide) k) ?_
    refine Ends.st (S' := T2.setTop (mkF m 34 #[.val (.ref a1), .val (.ref al), .val (.int (3 : Int32)), .val (.int (1 : Int32)), .val (.ref o0)] [])) (fun _ k => XS.iinc X2.here hx rfl (hb hby d3_31) rfl (l' := #[.val (.ref a1), .val (.ref al), .val (.int (3 : Int32)), .val (.int (1 : Int32)), .val (.ref o0)]) rfl k) ?_
    refine Ends.st (S' := T2.setTop (mkF m 9 #[.val (.ref a1), .val (.ref al), .val (.int (3 : Int32)), .val (.int (1 : Int32)), .val (.ref o0)] [])) (fun _ k => XS.goto X2.here hx rfl (pc0 := 34) (pc' := 9) rfl (hb hby d3_34) (by decide) (by decide) k) ?_
    refine Ends.st (S' := T2.setTop (mkF m 10 #[.val (.ref a1), .val (.ref al), .val (.int (3 : Int32)), .val (.int (1 : Int32)), .val (.ref o0)] [(.int (1 : Int32))])) (fun _ k => XS.iloadN X2.here hx rfl (hb hby d3_9) rfl k) ?_
    refine Ends.st (S' := T2.setTop (mkF m 11 #[.val (.ref a1), .val (.ref al), .val (.int (3 : Int32)), .val (.int (1 : Int32)), .val (.ref o0)] [(.int (3 : Int32)), (.int (1 : Int32))])) (fun _ k => XS.iloadN X2.here hx rfl (hb hby d3_10) rfl k) ?_
    refine Ends.st (S' := T2.setTop (mkF m 14 #[.val (.ref a1), .val (.ref al), .val (.int (3 : Int32)), .val (.int (1 : Int32)), .val (.ref o0)] [])) (fun _ k => XS.icmpNo X2.here hx rfl (hb hby d3_11) rfl (tlt (by decide : (1 : Int32) < (3 : Int32))).2.1 k) ?_
    refine Ends.st (S' := T2.setTop (mkF m 15 #[.val (.ref a1), .val (.ref al), .val (.int (3 : Int32)), .val (.int (1 : Int32)), .val (.ref o0)] [(.ref al)])) (fun _ k => XS.aloadN X2.here hx rfl (hb hby d3_14) rfl rfl k) ?_
    refine Ends.st (S' := T2.setTop (mkF m 16 #[.val (.ref a1), .val (.ref al), .val (.int (3 : Int32)), .val (.int (1 : Int32)), .val (.ref o0)] [(.int (1 : Int32)), (.ref al)])) (fun _ k => XS.iloadN X2.here hx rfl (hb hby d3_15) rfl k) ?_
    refine Ends.st (S' := T2.setTop (mkF m 17 #[.val (.ref a1), .val (.ref al), .val (.int (3 : Int32)), .val (.int (1 : Int32)), .val (.ref o0)] [(.ref o1)])) (fun _ k => X2.aaload hx (j := (1 : Int32)) (v := (.ref o1)) (by rw [e2]; exact Ar.1) (State.isArrayOf_alike hZ.alike Ar.2.1) rfl Ar.2.2 H1.1 H1.2 (g := (mkF m 16 #[.val (.ref a1), .val (.ref al), .val (.int (3 : Int32)), .val (.int (1 : Int32)), .val (.ref o0)] [(.int (1 : Int32)), (.ref al)])) rfl rfl (hb hby d3_16) _ k) ?_
    refine Ends.st (S' := T2.setTop (mkF m 19 #[.val (.ref a1), .val (.ref al), .val (.int (3 : Int32)), .val (.int (1 : Int32)), .val (.ref o1)] [])) (fun _ k => XS.astore X2.here hx rfl (hb hby d3_17) rfl rfl (l' := #[.val (.ref a1), .val (.ref al), .val (.int (3 : Int32)), .val (.int (1 : Int32)), .val (.ref o1)]) rfl k) ?_
    refine Ends.st (S' := T2.setTop (mkF m 21 #[.val (.ref a1), .val (.ref al), .val (.int (3 : Int32)), .val (.int (1 : Int32)), .val (.ref o1)] [(.ref o1)])) (fun _ k => XS.aload X2.here hx rfl (hb hby d3_19) rfl rfl k) ?_
    obtain ⟨T4, X4, e4, st4⟩ := getF X2 hx hZ hown (host := "") (Or.inl (hw _ (List.mem_of_getElem? (i := 18) rfl))) Via.refl e2 (FK1) (g := (mkF m 21 #[.val (.ref a1), .val (.ref al), .val (.int (3 : Int32)), .val (.int (1 : Int32)), .val (.ref o1)] [(.ref o1)])) rfl rfl (hb hby d3_21)
    refine Ends.st (S' := T4.setTop (mkF m 24 #[.val (.ref a1), .val (.ref al), .val (.int (3 : Int32)), .val (.int (1 : Int32)), .val (.ref o1)] [(.ref k4)])) (fun _ k => st4 _ k) ?_
    refine Ends.st (S' := T4.setTop (mkF m 25 #[.val (.ref a1), .val (.ref al), .val (.int (3 : Int32)), .val (.int (1 : Int32)), .val (.ref o1)] [(.ref a1), (.ref k4)])) (fun _ k => XS.aloadN X4.here hx rfl (hb hby d3_24) rfl rfl k) ?_
    by_cases hc5 : k4 = a1
    · refine Ends.st (S' := T4.setTop (mkF m 28 #[.val (.ref a1), .val (.ref al), .val (.int (3 : Int32)), .val (.int (1 : Int32)), .val (.ref o1)] [])) (fun _ k => Jvm.RoadKit.acmp (g := (mkF m 25 #[.val (.ref a1), .val (.ref al), .val (.int (3 : Int32)), .val (.int (1 : Int32)), .val (.ref o1)] [(.ref a1), (.ref k4)])) X4 hx rfl rfl rfl (pc0 := 25) (pc' := 28) (same := true) rfl (hb hby d3_25) rfl (decide_eq_true (congrArg Value.ref hc5)) (by decide) (by decide) k) ?_
      refine Ends.st (S' := T4.setTop (mkF m 30 #[.val (.ref a1), .val (.ref al), .val (.int (3 : Int32)), .val (.int (1 : Int32)), .val (.ref o1)] [(.ref o1)])) (fun _ k => XS.aload X4.here hx rfl (hb hby d3_28) rfl rfl k) ?_
      obtain ⟨fs, hr, hrun, hended, hW, hsame⟩ := X4.leave (v := some (.ref o1)) (fun h => by rw [Bd.returns] at h; cases h)
      exact ⟨_, _, retRef X4 hx Bd.returns rfl rfl (hb hby d3_30) hr, hrun, hended, _, _, rfl, (by show Q3 Z o0 o1 o2 k3 k4 k5 a1 h0 n0 _ T4.heap _; rw [e4]; exact ⟨(by simp [f3, hc3, hc5]), N0, rfl⟩), ⟨_, rfl⟩, hW, hsame.mono (by decide) (by decide)⟩
    · refine Ends.st (S' := T4.setTop (mkF m 31 #[.val (.ref a1), .val (.ref al), .val (.int (3 : Int32)), .val (.int (1 : Int32)), .val (.ref o1)] [])) (fun _ k => Jvm.RoadKit.acmp (g := (mkF m 25 #[.val (.ref a1), .val (.ref al), .val (.int (3 : Int32)), .val (.int (1 : Int32)), .val (.ref o1)] [(.ref a1), (.ref k4)])) X4 hx rfl rfl rfl (pc0 := 25) (pc' := 31) (same := false) rfl (hb hby d3_25) rfl (decide_eq_false fun q => hc5 (Value.ref.inj q)) (by decide) (by decide) k) ?_
      refine Ends.st (S' := T4.setTop (mkF m 34 #[.val (.ref a1), .val (.ref al), .val (.int (3 : Int32)), .val (.int (2 : Int32)), .val (.ref o1)] [])) (fun _ k => XS.iinc X4.here hx rfl (hb hby d3_31) rfl (l' := #[.val (.ref a1), .val (.ref al), .val (.int (3 : Int32)), .val (.int (2 : Int32)), .val (.ref o1)]) rfl k) ?_
      refine Ends.st (S' := T4.setTop (mkF m 9 #[.val (.ref a1), .val (.ref al), .val (.int (3 : Int32)), .val (.int (2 : Int32)), .val (.ref o1)] [])) (fun _ k => XS.goto X4.here hx rfl (pc0 := 34) (pc' := 9) rfl (hb hby d3_34) (by decide) (by decide) k) ?_
      refine Ends.st (S' := T4.setTop (mkF m 10 #[.val (.ref a1), .val (.ref al), .val (.int (3 : Int32)), .val (.int (2 : Int32)), .val (.ref o1)] [(.int (2 : Int32))])) (fun _ k => XS.iloadN X4.here hx rfl (hb hby d3_9) rfl k) ?_
      refine Ends.st (S' := T4.setTop (mkF m 11 #[.val (.ref a1), .val (.ref al), .val (.int (3 : Int32)), .val (.int (2 : Int32)), .val (.ref o1)] [(.int (3 : Int32)), (.int (2 : Int32))])) (fun _ k => XS.iloadN X4.here hx rfl (hb hby d3_10) rfl k) ?_
      refine Ends.st (S' := T4.setTop (mkF m 14 #[.val (.ref a1), .val (.ref al), .val (.int (3 : Int32)), .val (.int (2 : Int32)), .val (.ref o1)] [])) (fun _ k => XS.icmpNo X4.here hx rfl (hb hby d3_11) rfl (tlt (by decide : (2 : Int32) < (3 : Int32))).2.1 k) ?_
      refine Ends.st (S' := T4.setTop (mkF m 15 #[.val (.ref a1), .val (.ref al), .val (.int (3 : Int32)), .val (.int (2 : Int32)), .val (.ref o1)] [(.ref al)])) (fun _ k => XS.aloadN X4.here hx rfl (hb hby d3_14) rfl rfl k) ?_
      refine Ends.st (S' := T4.setTop (mkF m 16 #[.val (.ref a1), .val (.ref al), .val (.int (3 : Int32)), .val (.int (2 : Int32)), .val (.ref o1)] [(.int (2 : Int32)), (.ref al)])) (fun _ k => XS.iloadN X4.here hx rfl (hb hby d3_15) rfl k) ?_
      refine Ends.st (S' := T4.setTop (mkF m 17 #[.val (.ref a1), .val (.ref al), .val (.int (3 : Int32)), .val (.int (2 : Int32)), .val (.ref o1)] [(.ref o2)])) (fun _ k => X4.aaload hx (j := (2 : Int32)) (v := (.ref o2)) (by rw [e4]; exact Ar.1) (State.isArrayOf_alike hZ.alike Ar.2.1) rfl Ar.2.2 H2.1 H2.2 (g := (mkF m 16 #[.val (.ref a1), .val (.ref al), .val (.int (3 : Int32)), .val (.int (2 : Int32)), .val (.ref o1)] [(.int (2 : Int32)), (.ref al)])) rfl rfl (hb hby d3_16) _ k) ?_
      refine Ends.st (S' := T4.setTop (mkF m 19 #[.val (.ref a1), .val (.ref al), .val (.int (3 : Int32)), .val (.int (2 : Int32)), .val (.ref o2)] [])) (fun _ k => XS.astore X4.here hx rfl (hb hby d3_17) rfl rfl (l' := #[.val (.ref a1), .val (.ref al), .val (.int (3 : Int32)), .val (.int (2 : Int32)), .val (.ref o2)]) rfl k) ?_
      refine Ends.st (S' := T4.setTop (mkF m 21 #[.val (.ref a1), .val (.ref al), .val (.int (3 : Int32)), .val (.int (2 : Int32)), .val (.ref o2)] [(.ref o2)])) (fun _ k => XS.aload X4.here hx rfl (hb hby d3_19) rfl rfl k) ?_
      obtain ⟨T6, X6, e6, st6⟩ := getF X4 hx hZ hown (host := "") (Or.inl (hw _ (List.mem_of_getElem? (i := 18) rfl))) Via.refl e4 (FK2) (g := (mkF m 21 #[.val (.ref a1), .val (.ref al), .val (.int (3 : Int32)), .val (.int (2 : Int32)), .val (.ref o2)] [(.ref o2)])) rfl rfl (hb hby d3_21)
      refine Ends.st (S' := T6.setTop (mkF m 24 #[.val (.ref a1), .val (.ref al), .val (.int (3 : Int32)), .val (.int (2 : Int32)), .val (.ref o2)] [(.ref k5)])) (fun _ k => st6 _ k) ?_
      refine Ends.st (S' := T6.setTop (mkF m 25 #[.val (.ref a1), .val (.ref al), .val (.int (3 : Int32)), .val (.int (2 : Int32)), .val (.ref o2)] [(.ref a1), (.ref k5)])) (fun _ k => XS.aloadN X6.here hx rfl (hb hby d3_24) rfl rfl k) ?_
      by_cases hc7 : k5 = a1
      · refine Ends.st (S' := T6.setTop (mkF m 28 #[.val (.ref a1), .val (.ref al), .val (.int (3 : Int32)), .val (.int (2 : Int32)), .val (.ref o2)] [])) (fun _ k => Jvm.RoadKit.acmp (g := (mkF m 25 #[.val (.ref a1), .val (.ref al), .val (.int (3 : Int32)), .val (.int (2 : Int32)), .val (.ref o2)] [(.ref a1), (.ref k5)])) X6 hx rfl rfl rfl (pc0 := 25) (pc' := 28) (same := true) rfl (hb hby d3_25) rfl (decide_eq_true (congrArg Value.ref hc7)) (by decide) (by decide) k) ?_
        refine Ends.st (S' := T6.setTop (mkF m 30 #[.val (.ref a1), .val (.ref al), .val (.int (3 : Int32)), .val (.int (2 : Int32)), .val (.ref o2)] [(.ref o2)])) (fun _ k => XS.aload X6.here hx rfl (hb hby d3_28) rfl rfl k) ?_
        obtain ⟨fs, hr, hrun, hended, hW, hsame⟩ := X6.leave (v := some (.ref o2)) (fun h => by rw [Bd.returns] at h; cases h)
        exact ⟨_, _, retRef X6 hx Bd.returns rfl rfl (hb hby d3_30) hr, hrun, hended, _, _, rfl, (by show Q3 Z o0 o1 o2 k3 k4 k5 a1 h0 n0 _ T6.heap _; rw [e6]; exact ⟨(by simp [f3, hc3, hc5, hc7]), N0, rfl⟩), ⟨_, rfl⟩, hW, hsame.mono (by decide) (by decide)⟩
      · refine Ends.st (S' := T6.setTop (mkF m 31 #[.val (.ref a1), .val (.ref al), .val (.int (3 : Int32)), .val (.int (2 : Int32)), .val (.ref o2)] [])) (fun _ k => Jvm.RoadKit.acmp (g := (mkF m 25 #[.val (.ref a1), .val (.ref al), .val (.int (3 : Int32)), .val (.int (2 : Int32)), .val (.ref o2)] [(.ref a1), (.ref k5)])) X6 hx rfl rfl rfl (pc0 := 25) (pc' := 31) (same := false) rfl (hb hby d3_25) rfl (decide_eq_false fun q => hc7 (Value.ref.inj q)) (by decide) (by decide) k) ?_
        refine Ends.st (S' := T6.setTop (mkF m 34 #[.val (.ref a1), .val (.ref al), .val (.int (3 : Int32)), .val (.int (3 : Int32)), .val (.ref o2)] [])) (fun _ k => XS.iinc X6.here hx rfl (hb hby d3_31) rfl (l' := #[.val (.ref a1), .val (.ref al), .val (.int (3 : Int32)), .val (.int (3 : Int32)), .val (.ref o2)]) rfl k) ?_
        refine Ends.st (S' := T6.setTop (mkF m 9 #[.val (.ref a1), .val (.ref al), .val (.int (3 : Int32)), .val (.int (3 : Int32)), .val (.ref o2)] [])) (fun _ k => XS.goto X6.here hx rfl (pc0 := 34) (pc' := 9) rfl (hb hby d3_34) (by decide) (by decide) k) ?_
        refine Ends.st (S' := T6.setTop (mkF m 10 #[.val (.ref a1), .val (.ref al), .val (.int (3 : Int32)), .val (.int (3 : Int32)), .val (.ref o2)] [(.int (3 : Int32))])) (fun _ k => XS.iloadN X6.here hx rfl (hb hby d3_9) rfl k) ?_
        refine Ends.st (S' := T6.setTop (mkF m 11 #[.val (.ref a1), .val (.ref al), .val (.int (3 : Int32)), .val (.int (3 : Int32)), .val (.ref o2)] [(.int (3 : Int32)), (.int (3 : Int32))])) (fun _ k => XS.iloadN X6.here hx rfl (hb hby d3_10) rfl k) ?_
        refine Ends.st (S' := T6.setTop (mkF m 37 #[.val (.ref a1), .val (.ref al), .val (.int (3 : Int32)), .val (.int (3 : Int32)), .val (.ref o2)] [])) (fun _ k => XS.icmpYes X6.here hx rfl (pc0 := 11) (pc' := 37) rfl (hb hby d3_11) rfl (flt (by decide : ¬ ((3 : Int32) < (3 : Int32)))).2.1 (by decide) (by decide) k) ?_
        refine Ends.st (S' := T6.setTop (mkF m 38 #[.val (.ref a1), .val (.ref al), .val (.int (3 : Int32)), .val (.int (3 : Int32)), .val (.ref o2)] [.null])) (fun _ k => XS.aconstNull X6.here hx rfl (hb hby d3_37) k) ?_
        obtain ⟨fs, hr, hrun, hended, hW, hsame⟩ := X6.leave (v := some .null) (fun h => by rw [Bd.returns] at h; cases h)
        exact ⟨_, _, retRef X6 hx Bd.returns rfl rfl (hb hby d3_38) hr, hrun, hended, _, _, rfl, (by show Q3 Z o0 o1 o2 k3 k4 k5 a1 h0 n0 _ T6.heap _; rw [e6]; exact ⟨(by simp [f3, hc3, hc5, hc7]), N0, rfl⟩), ⟨_, rfl⟩, hW, hsame.mono (by decide) (by decide)⟩
theorem ef_rm0 (m : MethodId) (x0 : Int32)  : entryFrame m #[(.int x0)] maxLocals = mkF m 0 #[.val (.int x0), .unset, .unset, .unset] [] := by first | (simp [entryFrame, mkF, argsToLocals, Value.category, maxLocals]; done) | rfl
set_option maxRecDepth 65536 in
set_option maxHeartbeats 40000000 in
theorem rm0 (l : Launch) (Z : State) (a0 : Array Value) (hw : ∀ d ∈ tables_1, d.before a0 Z = true) (ws : List Jvm.Cond) (v0 : Int32) (k0 : Addr) (k1 : Addr) (k2 : Addr) (k3 : Addr) (k4 : Addr) (k5 : Addr) (k6 : Addr) (k7 : Addr) (k8 : Addr) (k9 : Addr) (o0 : Addr) (o1 : Addr) (o2 : Addr) (al : Addr) (cl : Cell) (h0 : Heap) (n0 : Nat) (Z0 : n0 ≤ h0.size) (SK0 : Sta Z h0 "com/example/clearance/clearance/rules/Lexer$Kind" "NAME" "Lcom/example/clearance/clearance/rules/Lexer$Kind;" (.ref k0)) (SK1 : Sta Z h0 "com/example/clearance/clearance/rules/Lexer$Kind" "OPEN_LIST" "Lcom/example/clearance/clearance/rules/Lexer$Kind;" (.ref k1)) (SK2 : Sta Z h0 "com/example/clearance/clearance/rules/Lexer$Kind" "CLOSE_LIST" "Lcom/example/clearance/clearance/rules/Lexer$Kind;" (.ref k2)) (SK3 : Sta Z h0 "com/example/clearance/clearance/rules/Lexer$Kind" "UNION" "Lcom/example/clearance/clearance/rules/Lexer$Kind;" (.ref k3)) (SK4 : Sta Z h0 "com/example/clearance/clearance/rules/Lexer$Kind" "DIFFERENCE" "Lcom/example/clearance/clearance/rules/Lexer$Kind;" (.ref k4)) (SK5 : Sta Z h0 "com/example/clearance/clearance/rules/Lexer$Kind" "INTERSECTION" "Lcom/example/clearance/clearance/rules/Lexer$Kind;" (.ref k5)) (SK6 : Sta Z h0 "com/example/clearance/clearance/rules/Lexer$Kind" "OPEN_GROUP" "Lcom/example/clearance/clearance/rules/Lexer$Kind;" (.ref k6)) (SK7 : Sta Z h0 "com/example/clearance/clearance/rules/Lexer$Kind" "CLOSE_GROUP" "Lcom/example/clearance/clearance/rules/Lexer$Kind;" (.ref k7)) (SK8 : Sta Z h0 "com/example/clearance/clearance/rules/Lexer$Kind" "EQUALS" "Lcom/example/clearance/clearance/rules/Lexer$Kind;" (.ref k8)) (SK9 : Sta Z h0 "com/example/clearance/clearance/rules/Lexer$Kind" "END" "Lcom/example/clearance/clearance/rules/Lexer$Kind;" (.ref k9)) (SO0 : Sta Z h0 "com/example/clearance/clearance/rules/Formula$Operator" "UNION" "Lcom/example/clearance/clearance/rules/Formula$Operator;" (.ref o0)) (SO1 : Sta Z h0 "com/example/clearance/clearance/rules/Formula$Operator" "DIFFERENCE" "Lcom/example/clearance/clearance/rules/Formula$Operator;" (.ref o1)) (SO2 : Sta Z h0 "com/example/clearance/clearance/rules/Formula$Operator" "INTERSECTION" "Lcom/example/clearance/clearance/rules/Formula$Operator;" (.ref o2)) (SA : Sta Z h0 "com/example/clearance/clearance/rules/Formula$Operator" "ALL" "[Lcom/example/clearance/clearance/rules/Formula$Operator;" (.ref al)) (Ar : Arr Z h0 al cl (.object "com/example/clearance/clearance/rules/Formula$Operator")) (hlen : cl.slots.size.toInt32 = 3) (H0 : ¬ ((0 : Int32) < 0 ∨ cl.slots.size ≤ (0 : Int32).toNatClampNeg) ∧ cl.slots[(0 : Int32).toNatClampNeg]? = some (.ref o0)) (H1 : ¬ ((1 : Int32) < 0 ∨ cl.slots.size ≤ (1 : Int32).toNatClampNeg) ∧ cl.slots[(1 : Int32).toNatClampNeg]? = some (.ref o1)) (H2 : ¬ ((2 : Int32) < 0 ∨ cl.slots.size ≤ (2 : Int32).toNatClampNeg) ∧ cl.slots[(2 : Int32).toNatClampNeg]? = some (.ref o2)) (FK0 : Fld Z h0 o0 "com/example/clearance/clearance/rules/Formula$Operator" "kind" "Lcom/example/clearance/clearance/rules/Lexer$Kind;" (.ref k3)) (FK1 : Fld Z h0 o1 "com/example/clearance/clearance/rules/Formula$Operator" "kind" "Lcom/example/clearance/clearance/rules/Lexer$Kind;" (.ref k4)) (FK2 : Fld Z h0 o2 "com/example/clearance/clearance/rules/Formula$Operator" "kind" "Lcom/example/clearance/clearance/rules/Lexer$Kind;" (.ref k5)) (hd : ¬ (k3 = k0) ∧ ¬ (k3 = k1) ∧ ¬ (k3 = k2) ∧ ¬ (k3 = k4) ∧ ¬ (k3 = k5) ∧ ¬ (k3 = k6) ∧ ¬ (k3 = k7) ∧ ¬ (k3 = k8) ∧ ¬ (k3 = k9) ∧ ¬ (k4 = k0) ∧ ¬ (k4 = k1) ∧ ¬ (k4 = k2) ∧ ¬ (k4 = k3) ∧ ¬ (k4 = k5) ∧ ¬ (k4 = k6) ∧ ¬ (k4 = k7) ∧ ¬ (k4 = k8) ∧ ¬ (k4 = k9) ∧ ¬ (k5 = k0) ∧ ¬ (k5 = k1) ∧ ¬ (k5 = k2) ∧ ¬ (k5 = k3) ∧ ¬ (k5 = k4) ∧ ¬ (k5 = k6) ∧ ¬ (k5 = k7) ∧ ¬ (k5 = k8) ∧ ¬ (k5 = k9)) :
    MetFree l x (head1 (Jvm.Cond.code x code maxLocals ret :: ws) room_1) (fun a U => a = #[(.int v0)] ∧ Z.Warmed39 U.vm ∧ U.heap = h0) (fun _ _ _ _ _ => True) (fun _ U o U' => ∃ v L, o = .returned v ∧ Q0 Z  h0 n0 v U'.heap L ∧ FrameEnd U o U' L room_1.cells room_1.slots) := by
  refine MetFree.of_bodySF (plainFor_of_name pn_0) hisR ?_
  intro p e s m args below meth c s₁ Bd hml0 hP hK
  obtain ⟨rfl, hZ, hh⟩ := hP
  have hx := Bd.exec
  have hby := Bd.bytes
  have hml : c.maxLocals = 4 := hml0
  have hown : s.vm.findClass "com/example/clearance/clearance/rules/OperatorWrittenPinLaw" = some m.cls := findClass_of_methodNamed Bd.named
  have hnm := (name_of_methodNamed Bd.named Bd.method).1
  have X0 : Stand p l e room_1 s m #[(.int v0)] below meth c s₁ [] 0 0 := Stand.of_body Bd
  have e0 : s₁.heap = h0 := by rw [← hh, Bd.state]; rfl
  have N0 := Fr.nil n0
  refine Ends.st (tb := p.tables) (e := e) (below := below) (S' := s₁.setTop (mkF m 0 #[.val (.int v0), .unset, .unset, .unset] [])) (fun t k => castTop (ef_rm0 m v0) k) ?_
  refine Ends.st (S' := s₁.setTop (mkF m 1 #[.val (.int v0), .unset, .unset, .unset] [(.int v0)])) (fun _ k => XS.iloadN X0.here hx rfl (hb hby at_0) rfl k) ?_
  refine Ends.st (S' := s₁.setTop (mkF m 3 #[.val (.int v0), .unset, .unset, .unset] [(.int (2147483647 : Int32)), (.int v0)])) (fun _ k => X0.ldcInt hx hown (mvT hZ (hw _ (List.mem_of_getElem? (i := 0) rfl))) (g := (mkF m 1 #[.val (.int v0), .unset, .unset, .unset] [(.int v0)])) rfl (hb hby at_1) _ k) ?_
  refine Ends.st (S' := s₁.setTop (mkF m 4 #[.val (.int v0), .unset, .unset, .unset] [(.int (v0 &&& (2147483647 : Int32)))])) (fun _ k => XS.iand X0.here hx rfl (hb hby at_3) rfl k) ?_
  refine Ends.st (S' := s₁.setTop (mkF m 6 #[.val (.int v0), .unset, .unset, .unset] [(.int (10 : Int32)), (.int (v0 &&& (2147483647 : Int32)))])) (fun _ k => XS.bipush X0.here hx rfl (hb hby at_4) k) ?_
  refine Ends.st (S' := s₁.setTop (mkF m 7 #[.val (.int v0), .unset, .unset, .unset] [(.int ((v0 &&& (2147483647 : Int32)) - ((v0 &&& (2147483647 : Int32)) / (10 : Int32)) * (10 : Int32)))])) (fun _ k => XS.irem X0.here hx rfl (hb hby at_6) rfl (by decide) k) ?_
  refine Ends.st (S' := s₁.setTop (mkF m 8 #[.val (.int v0), .val (.int ((v0 &&& (2147483647 : Int32)) - ((v0 &&& (2147483647 : Int32)) / (10 : Int32)) * (10 : Int32))), .unset, .unset] [])) (fun _ k => XS.istoreN X0.here hx rfl (hb hby at_7) rfl (l' := #[.val (.int v0), .val (.int ((v0 &&& (2147483647 : Int32)) - ((v0 &&& (2147483647 : Int32)) / (10 : Int32)) * (10 : Int32))), .unset, .unset]) rfl k) ?_
  refine Ends.st (S' := s₁.setTop (mkF m 9 #[.val (.int v0), .val (.int ((v0 &&& (2147483647 : Int32)) - ((v0 &&& (2147483647 : Int32)) / (10 : Int32)) * (10 : Int32))), .unset, .unset] [(.int ((v0 &&& (2147483647 : Int32)) - ((v0 &&& (2147483647 : Int32)) / (10 : Int32)) * (10 : Int32)))])) (fun _ k => XS.iloadN X0.here hx rfl (hb hby at_8) rfl k) ?_
  obtain ⟨_, _, ⟨T1, L1, k1, n1⟩, -, X1, ⟨Lc1, hQ1, l1, y1, z1⟩, st1⟩ := Jvm.LawKit.callS X0 hx (y := (⟨"com/example/clearance/clearance/rules/OperatorWrittenPinLaw", "kindOf", "(I)Lcom/example/clearance/clearance/rules/Lexer$Kind;"⟩ : MethodName)) hown (mvT hZ (hw _ (List.mem_of_getElem? (i := 1) rfl))) (mvT hZ (hw _ (List.mem_of_getElem? (i := 2) rfl))) (mvT hZ (hw _ (List.mem_of_getElem? (i := 3) rfl))) (mvT hZ (hw _ (List.mem_of_getElem? (i := 4) rfl))) (by decide) (backOf (W := 0) (rm1 l Z a0 hw [] k0 k1 k2 k3 k4 k5 k6 k7 k8 k9 ((v0 &&& (2147483647 : Int32)) - ((v0 &&& (2147483647 : Int32)) / (10 : Int32)) * (10 : Int32)) h0 n0 Z0 SK0 SK1 SK2 SK3 SK4 SK5 SK6 SK7 SK8 SK9) hZ (hw _ (List.mem_of_getElem? (i := 4) rfl)) (hw _ (List.mem_of_getElem? (i := 3) rfl)) (by decide) (by decide)) (g := (mkF m 9 #[.val (.int v0), .val (.int ((v0 &&& (2147483647 : Int32)) - ((v0 &&& (2147483647 : Int32)) / (10 : Int32)) * (10 : Int32))), .unset, .unset] [(.int ((v0 &&& (2147483647 : Int32)) - ((v0 &&& (2147483647 : Int32)) / (10 : Int32)) * (10 : Int32)))])) rfl (by rw [hml]; rfl) (argsL := [(.int ((v0 &&& (2147483647 : Int32)) - ((v0 &&& (2147483647 : Int32)) / (10 : Int32)) * (10 : Int32)))]) (rest := []) (lenOf pd_0 rfl) rfl (by show 2 * 0 + _ ≤ _; exact Nat.le_of_eq rfl) (hb hby at_9) (fun _ _ => ⟨rfl, e0, (by decide : 0 + 0 ≤ _), (by decide : 0 + 0 ≤ _)⟩)
  dsimp only [Pt.U, Pt.locs, Pt.cells, Pt.slots] at X1 l1 y1 z1 st1 hQ1
  subst l1 y1 z1
  obtain ⟨rfl, N1q, e1⟩ := hQ1
  have N1 := Fr.app N0 N1q
  refine Ends.st (S' := T1.setTop (mkF m 12 #[.val (.int v0), .val (.int ((v0 &&& (2147483647 : Int32)) - ((v0 &&& (2147483647 : Int32)) / (10 : Int32)) * (10 : Int32))), .unset, .unset] [(.ref (f1 k0 k1 k2 k3 k4 k5 k6 k7 k8 k9 ((v0 &&& (2147483647 : Int32)) - ((v0 &&& (2147483647 : Int32)) / (10 : Int32)) * (10 : Int32))))])) (fun _ k => st1 _ k) ?_
  refine Ends.st (S' := T1.setTop (mkF m 13 #[.val (.int v0), .val (.int ((v0 &&& (2147483647 : Int32)) - ((v0 &&& (2147483647 : Int32)) / (10 : Int32)) * (10 : Int32))), .val (.ref (f1 k0 k1 k2 k3 k4 k5 k6 k7 k8 k9 ((v0 &&& (2147483647 : Int32)) - ((v0 &&& (2147483647 : Int32)) / (10 : Int32)) * (10 : Int32)))), .unset] [])) (fun _ k => XS.astoreN X1.here hx rfl (hb hby at_12) rfl rfl (l' := #[.val (.int v0), .val (.int ((v0 &&& (2147483647 : Int32)) - ((v0 &&& (2147483647 : Int32)) / (10 : Int32)) * (10 : Int32))), .val (.ref (f1 k0 k1 k2 k3 k4 k5 k6 k7 k8 k9 ((v0 &&& (2147483647 : Int32)) - ((v0 &&& (2147483647 : Int32)) / (10 : Int32)) * (10 : Int32)))), .unset]) rfl k) ?_
  refine Ends.st (S' := T1.setTop (mkF m 14 #[.val (.int v0), .val (.int ((v0 &&& (2147483647 : Int32)) - ((v0 &&& (2147483647 : Int32)) / (10 : Int32)) * (10 : Int32))), .val (.ref (f1 k0 k1 k2 k3 k4 k5 k6 k7 k8 k9 ((v0 &&& (2147483647 : Int32)) - ((v0 &&& (2147483647 : Int32)) / (10 : Int32)) * (10 : Int32)))), .unset] [(.int ((v0 &&& (2147483647 : Int32)) - ((v0 &&& (2147483647 : Int32)) / (10 : Int32)) * (10 : Int32)))])) (fun _ k => XS.iloadN X1.here hx rfl (hb hby at_13) rfl k) ?_
  obtain ⟨_, _, ⟨T2, L2, k2, n2⟩, -, X2, ⟨Lc2, hQ2, l2, y2, z2⟩, st2⟩ := Jvm.LawKit.callS X1 hx (y := (⟨"com/example/clearance/clearance/rules/OperatorWrittenPinLaw", "expectedOf", "(I)Lcom/example/clearance/clearance/rules/Formula$Operator;"⟩ : MethodName)) hown (mvT hZ (hw _ (List.mem_of_getElem? (i := 8) rfl))) (mvT hZ (hw _ (List.mem_of_getElem? (i := 9) rfl))) (mvT hZ (hw _ (List.mem_of_getElem? (i := 3) rfl))) (mvT hZ (hw _ (List.mem_of_getElem? (i := 10) rfl))) (by decide) (backOf (W := 0) (rm2 l Z a0 hw [] o0 o1 o2 ((v0 &&& (2147483647 : Int32)) - ((v0 &&& (2147483647 : Int32)) / (10 : Int32)) * (10 : Int32)) h0 n0 Z0 SO0 SO1 SO2) hZ (hw _ (List.mem_of_getElem? (i := 10) rfl)) (hw _ (List.mem_of_getElem? (i := 3) rfl)) (by decide) (by decide)) (g := (mkF m 14 #[.val (.int v0), .val (.int ((v0 &&& (2147483647 : Int32)) - ((v0 &&& (2147483647 : Int32)) / (10 : Int32)) * (10 : Int32))), .val (.ref (f1 k0 k1 k2 k3 k4 k5 k6 k7 k8 k9 ((v0 &&& (2147483647 : Int32)) - ((v0 &&& (2147483647 : Int32)) / (10 : Int32)) * (10 : Int32)))), .unset] [(.int ((v0 &&& (2147483647 : Int32)) - ((v0 &&& (2147483647 : Int32)) / (10 : Int32)) * (10 : Int32)))])) rfl (by rw [hml]; rfl) (argsL := [(.int ((v0 &&& (2147483647 : Int32)) - ((v0 &&& (2147483647 : Int32)) / (10 : Int32)) * (10 : Int32)))]) (rest := []) (lenOf pd_1 rfl) rfl (by show 2 * 0 + _ ≤ _; exact Nat.le_of_eq rfl) (hb hby at_14) (fun _ _ => ⟨rfl, e1, (by decide : 0 + 0 + 0 ≤ _), (by decide : 0 + 0 + 0 ≤ _)⟩)
  dsimp only [Pt.U, Pt.locs, Pt.cells, Pt.slots] at X2 l2 y2 z2 st2 hQ2
  subst l2 y2 z2
  obtain ⟨rfl, N2q, e2⟩ := hQ2
  have N2 := Fr.app N1 N2q
  refine Ends.st (S' := T2.setTop (mkF m 17 #[.val (.int v0), .val (.int ((v0 &&& (2147483647 : Int32)) - ((v0 &&& (2147483647 : Int32)) / (10 : Int32)) * (10 : Int32))), .val (.ref (f1 k0 k1 k2 k3 k4 k5 k6 k7 k8 k9 ((v0 &&& (2147483647 : Int32)) - ((v0 &&& (2147483647 : Int32)) / (10 : Int32)) * (10 : Int32)))), .unset] [(f2 o0 o1 o2 ((v0 &&& (2147483647 : Int32)) - ((v0 &&& (2147483647 : Int32)) / (10 : Int32)) * (10 : Int32)))])) (fun _ k => st2 _ k) ?_
  refine Ends.st (S' := T2.setTop (mkF m 18 #[.val (.int v0), .val (.int ((v0 &&& (2147483647 : Int32)) - ((v0 &&& (2147483647 : Int32)) / (10 : Int32)) * (10 : Int32))), .val (.ref (f1 k0 k1 k2 k3 k4 k5 k6 k7 k8 k9 ((v0 &&& (2147483647 : Int32)) - ((v0 &&& (2147483647 : Int32)) / (10 : Int32)) * (10 : Int32)))), .val (f2 o0 o1 o2 ((v0 &&& (2147483647 : Int32)) - ((v0 &&& (2147483647 : Int32)) / (10 : Int32)) * (10 : Int32)))] [])) (fun _ k => XS.astoreN X2.here hx rfl (hb hby at_17) rfl (f2_ref ..) (l' := #[.val (.int v0), .val (.int ((v0 &&& (2147483647 : Int32)) - ((v0 &&& (2147483647 : Int32)) / (10 : Int32)) * (10 : Int32))), .val (.ref (f1 k0 k1 k2 k3 k4 k5 k6 k7 k8 k9 ((v0 &&& (2147483647 : Int32)) - ((v0 &&& (2147483647 : Int32)) / (10 : Int32)) * (10 : Int32)))), .val (f2 o0 o1 o2 ((v0 &&& (2147483647 : Int32)) - ((v0 &&& (2147483647 : Int32)) / (10 : Int32)) * (10 : Int32)))]) (by rcases ref_cases (f2_ref ..) with q | ⟨a, q⟩ <;> rw [q] <;> rfl) k) ?_
  refine Ends.st (S' := T2.setTop (mkF m 19 #[.val (.int v0), .val (.int ((v0 &&& (2147483647 : Int32)) - ((v0 &&& (2147483647 : Int32)) / (10 : Int32)) * (10 : Int32))), .val (.ref (f1 k0 k1 k2 k3 k4 k5 k6 k7 k8 k9 ((v0 &&& (2147483647 : Int32)) - ((v0 &&& (2147483647 : Int32)) / (10 : Int32)) * (10 : Int32)))), .val (f2 o0 o1 o2 ((v0 &&& (2147483647 : Int32)) - ((v0 &&& (2147483647 : Int32)) / (10 : Int32)) * (10 : Int32)))] [(.ref (f1 k0 k1 k2 k3 k4 k5 k6 k7 k8 k9 ((v0 &&& (2147483647 : Int32)) - ((v0 &&& (2147483647 : Int32)) / (10 : Int32)) * (10 : Int32))))])) (fun _ k => XS.aloadN X2.here hx rfl (hb hby at_18) rfl rfl k) ?_
  obtain ⟨_, _, ⟨T3, L3, k3, n3⟩, -, X3, ⟨Lc3, hQ3, l3, y3, z3⟩, st3⟩ := Jvm.LawKit.callS X2 hx (y := (⟨"com/example/clearance/clearance/rules/Formula$Operator", "written", "(Lcom/example/clearance/clearance/rules/Lexer$Kind;)Lcom/example/clearance/clearance/rules/Formula$Operator;"⟩ : MethodName)) hown (mvT hZ (hw _ (List.mem_of_getElem? (i := 11) rfl))) (mvT hZ (hw _ (List.mem_of_getElem? (i := 12) rfl))) (mvT hZ (hw _ (List.mem_of_getElem? (i := 13) rfl))) (mvT hZ (hw _ (List.mem_of_getElem? (i := 14) rfl))) (by decide) (backOf (W := 0) (rm3 l Z a0 hw [] o0 o1 o2 k3 k4 k5 (f1 k0 k1 k2 k3 k4 k5 k6 k7 k8 k9 ((v0 &&& (2147483647 : Int32)) - ((v0 &&& (2147483647 : Int32)) / (10 : Int32)) * (10 : Int32))) al cl h0 n0 Z0 SA Ar hlen H0 H1 H2 FK0 FK1 FK2) hZ (hw _ (List.mem_of_getElem? (i := 14) rfl)) (hw _ (List.mem_of_getElem? (i := 13) rfl)) (by decide) (by decide)) (g := (mkF m 19 #[.val (.int v0), .val (.int ((v0 &&& (2147483647 : Int32)) - ((v0 &&& (2147483647 : Int32)) / (10 : Int32)) * (10 : Int32))), .val (.ref (f1 k0 k1 k2 k3 k4 k5 k6 k7 k8 k9 ((v0 &&& (2147483647 : Int32)) - ((v0 &&& (2147483647 : Int32)) / (10 : Int32)) * (10 : Int32)))), .val (f2 o0 o1 o2 ((v0 &&& (2147483647 : Int32)) - ((v0 &&& (2147483647 : Int32)) / (10 : Int32)) * (10 : Int32)))] [(.ref (f1 k0 k1 k2 k3 k4 k5 k6 k7 k8 k9 ((v0 &&& (2147483647 : Int32)) - ((v0 &&& (2147483647 : Int32)) / (10 : Int32)) * (10 : Int32))))])) rfl (by rw [hml]; rfl) (argsL := [(.ref (f1 k0 k1 k2 k3 k4 k5 k6 k7 k8 k9 ((v0 &&& (2147483647 : Int32)) - ((v0 &&& (2147483647 : Int32)) / (10 : Int32)) * (10 : Int32))))]) (rest := []) (lenOf pd_2 rfl) rfl (by show 2 * 0 + _ ≤ _; exact Nat.le_of_eq rfl) (hb hby at_19) (fun _ _ => ⟨rfl, e2, (by decide : 0 + 0 + 0 + 0 ≤ _), (by decide : 0 + 0 + 0 + 0 ≤ _)⟩)
  dsimp only [Pt.U, Pt.locs, Pt.cells, Pt.slots] at X3 l3 y3 z3 st3 hQ3
  subst l3 y3 z3
  obtain ⟨rfl, N3q, e3⟩ := hQ3
  have N3 := Fr.app N2 N3q
  refine Ends.st (S' := T3.setTop (mkF m 22 #[.val (.int v0), .val (.int ((v0 &&& (2147483647 : Int32)) - ((v0 &&& (2147483647 : Int32)) / (10 : Int32)) * (10 : Int32))), .val (.ref (f1 k0 k1 k2 k3 k4 k5 k6 k7 k8 k9 ((v0 &&& (2147483647 : Int32)) - ((v0 &&& (2147483647 : Int32)) / (10 : Int32)) * (10 : Int32)))), .val (f2 o0 o1 o2 ((v0 &&& (2147483647 : Int32)) - ((v0 &&& (2147483647 : Int32)) / (10 : Int32)) * (10 : Int32)))] [(f3 o0 o1 o2 k3 k4 k5 (f1 k0 k1 k2 k3 k4 k5 k6 k7 k8 k9 ((v0 &&& (2147483647 : Int32)) - ((v0 &&& (2147483647 : Int32)) / (10 : Int32)) * (10 : Int32))))])) (fun _ k => st3 _ k) ?_
  refine Ends.st (S' := T3.setTop (mkF m 23 #[.val (.int v0), .val (.int ((v0 &&& (2147483647 : Int32)) - ((v0 &&& (2147483647 : Int32)) / (10 : Int32)) * (10 : Int32))), .val (.ref (f1 k0 k1 k2 k3 k4 k5 k6 k7 k8 k9 ((v0 &&& (2147483647 : Int32)) - ((v0 &&& (2147483647 : Int32)) / (10 : Int32)) * (10 : Int32)))), .val (f2 o0 o1 o2 ((v0 &&& (2147483647 : Int32)) - ((v0 &&& (2147483647 : Int32)) / (10 : Int32)) * (10 : Int32)))] [(f2 o0 o1 o2 ((v0 &&& (2147483647 : Int32)) - ((v0 &&& (2147483647 : Int32)) / (10 : Int32)) * (10 : Int32))), (f3 o0 o1 o2 k3 k4 k5 (f1 k0 k1 k2 k3 k4 k5 k6 k7 k8 k9 ((v0 &&& (2147483647 : Int32)) - ((v0 &&& (2147483647 : Int32)) / (10 : Int32)) * (10 : Int32))))])) (fun _ k => XS.aloadN X3.here hx rfl (hb hby at_22) rfl (f2_ref ..) k) ?_
  have hb4 : (f3 o0 o1 o2 k3 k4 k5 (f1 k0 k1 k2 k3 k4 k5 k6 k7 k8 k9 ((v0 &&& (2147483647 : Int32)) - ((v0 &&& (2147483647 : Int32)) / (10 : Int32)) * (10 : Int32)))) = ((f2 o0 o1 o2 ((v0 &&& (2147483647 : Int32)) - ((v0 &&& (2147483647 : Int32)) / (10 : Int32)) * (10 : Int32))) : Value) := own_same hd _ (own_ten v0)
  refine Ends.st (S' := T3.setTop (mkF m 26 #[.val (.int v0), .val (.int ((v0 &&& (2147483647 : Int32)) - ((v0 &&& (2147483647 : Int32)) / (10 : Int32)) * (10 : Int32))), .val (.ref (f1 k0 k1 k2 k3 k4 k5 k6 k7 k8 k9 ((v0 &&& (2147483647 : Int32)) - ((v0 &&& (2147483647 : Int32)) / (10 : Int32)) * (10 : Int32)))), .val (f2 o0 o1 o2 ((v0 &&& (2147483647 : Int32)) - ((v0 &&& (2147483647 : Int32)) / (10 : Int32)) * (10 : Int32)))] [])) (fun _ k => Jvm.RoadKit.acmp (g := (mkF m 23 #[.val (.int v0), .val (.int ((v0 &&& (2147483647 : Int32)) - ((v0 &&& (2147483647 : Int32)) / (10 : Int32)) * (10 : Int32))), .val (.ref (f1 k0 k1 k2 k3 k4 k5 k6 k7 k8 k9 ((v0 &&& (2147483647 : Int32)) - ((v0 &&& (2147483647 : Int32)) / (10 : Int32)) * (10 : Int32)))), .val (f2 o0 o1 o2 ((v0 &&& (2147483647 : Int32)) - ((v0 &&& (2147483647 : Int32)) / (10 : Int32)) * (10 : Int32)))] [(f2 o0 o1 o2 ((v0 &&& (2147483647 : Int32)) - ((v0 &&& (2147483647 : Int32)) / (10 : Int32)) * (10 : Int32))), (f3 o0 o1 o2 k3 k4 k5 (f1 k0 k1 k2 k3 k4 k5 k6 k7 k8 k9 ((v0 &&& (2147483647 : Int32)) - ((v0 &&& (2147483647 : Int32)) / (10 : Int32)) * (10 : Int32))))])) X3 hx rfl (f3_ref ..) (f2_ref ..) (pc0 := 23) (pc' := 26) (same := true) rfl (hb hby at_23) rfl (decide_eq_true hb4) (by decide) (by decide) k) ?_
  refine Ends.st (S' := T3.setTop (mkF m 27 #[.val (.int v0), .val (.int ((v0 &&& (2147483647 : Int32)) - ((v0 &&& (2147483647 : Int32)) / (10 : Int32)) * (10 : Int32))), .val (.ref (f1 k0 k1 k2 k3 k4 k5 k6 k7 k8 k9 ((v0 &&& (2147483647 : Int32)) - ((v0 &&& (2147483647 : Int32)) / (10 : Int32)) * (10 : Int32)))), .val (f2 o0 o1 o2 ((v0 &&& (2147483647 : Int32)) - ((v0 &&& (2147483647 : Int32)) / (10 : Int32)) * (10 : Int32)))] [(.int (1 : Int32))])) (fun _ k => XS.iconst X3.here hx rfl (hb hby at_26) k) ?_
  refine Ends.st (S' := T3.setTop (mkF m 31 #[.val (.int v0), .val (.int ((v0 &&& (2147483647 : Int32)) - ((v0 &&& (2147483647 : Int32)) / (10 : Int32)) * (10 : Int32))), .val (.ref (f1 k0 k1 k2 k3 k4 k5 k6 k7 k8 k9 ((v0 &&& (2147483647 : Int32)) - ((v0 &&& (2147483647 : Int32)) / (10 : Int32)) * (10 : Int32)))), .val (f2 o0 o1 o2 ((v0 &&& (2147483647 : Int32)) - ((v0 &&& (2147483647 : Int32)) / (10 : Int32)) * (10 : Int32)))] [(.int (1 : Int32))])) (fun _ k => XS.goto X3.here hx rfl (pc0 := 27) (pc' := 31) rfl (hb hby at_27) (by decide) (by decide) k) ?_
  obtain ⟨fs, hr, hrun, hended, hW, hsame⟩ := X3.leave (v := some (.int (1 : Int32))) (fun h => by rw [Bd.returns] at h; cases h)
  exact ⟨_, _, retN X3 hx (t := .boolean) Bd.returns (by simp) (hb hby at_31) hr, hrun, hended, _, _, rfl, (by show Q0 Z  h0 n0 _ T3.heap _; rw [e3]; exact ⟨rfl, N3⟩), ⟨_, rfl⟩, hW, hsame.mono (by decide) (by decide)⟩
set_option maxRecDepth 65536 in
set_option maxHeartbeats 40000000 in
theorem comes_1 {Post : Tables → Env → Array Value → State → Outcome → State → Prop} (hpost : ∀ tb e args s v u, (limb_1_1.after args s (.returned v) u = true ∧ limb_1_2.after args s (.returned v) u = true ∧ True) → FrameEnd s (.returned v) u (Jvm.fieldLocs frame_1_writes args s ++ Jvm.arrayLocs frame_1_arrays args s ++ Jvm.staticLocs frame_1_statics s) 0 0 → Post tb e args s (.returned v) u) :
    ArmFor flags0 classFile x code maxLocals ret World_1 tables_1 room_1 Calls_1 rest_1 Pre_1 Post := by
  intro l hfl _ _ p e ha hc hk s m args below hf hA hF happ hP
  obtain ⟨hcalls, hrest, hpre⟩ := hP
  obtain ⟨-, -, -, hnamed, -, -, -, hat⟩ := (Spec.applies_iff hf).mp happ
  obtain ⟨hg, hn⟩ := and_e (Cond.before_iff.mp (show (Jvm.Cond.and given_1 narrow_1).before args s = true from hpre))
  obtain ⟨gc, gr0⟩ := and_e hg
  obtain ⟨w0, rfl⟩ : ∃ w0 : Value, args = #[w0] := by
    have hs : args.size = 1 := by simpa [Cond.value, given_1] using gc
    obtain ⟨L⟩ := args
    match L, hs with
    | [w0], _ => exact ⟨w0, rfl⟩
  have hw := fun d (hd : d ∈ tables_1) => atoms_spec (ws := Jvm.Cond.code x code maxLocals ret :: tables_1) hat d (List.mem_cons_of_mem _ hd)
  have hfit : Fit s := fun {y c} hc i hi => by
    obtain ⟨ha, rfl⟩ := Array.getElem?_eq_some_iff.mp hc
    have q := List.all_eq_true.mp ((Array.all_eq_true_iff_forall_mem.mp hF) _ (Array.getElem_mem ha)) i (List.mem_range.mpr hi)
    simpa [Array.getElem?_eq_getElem hi] using q
  obtain ⟨i0, ei0⟩ := is_v gr0
  obtain rfl : w0 = (.int i0) := Option.some.inj ei0
  have hq0 : narrow_1.value #[.int i0] s none s [] = some true := hn
  obtain ⟨n0, r0⟩ := and_e hq0
  obtain ⟨n1, r1⟩ := and_e r0
  obtain ⟨n2, r2⟩ := and_e r1
  obtain ⟨n3, r3⟩ := and_e r2
  obtain ⟨n4, r4⟩ := and_e r3
  obtain ⟨n5, r5⟩ := and_e r4
  obtain ⟨n6, r6⟩ := and_e r5
  obtain ⟨n7, r7⟩ := and_e r6
  obtain ⟨n8, r8⟩ := and_e r7
  obtain ⟨n9, r9⟩ := and_e r8
  obtain ⟨n10, r10⟩ := and_e r9
  obtain ⟨n11, r11⟩ := and_e r10
  obtain ⟨n12, r12⟩ := and_e r11
  obtain ⟨n13, r13⟩ := and_e r12
  obtain ⟨n14, r14⟩ := and_e r13
  obtain ⟨n15, r15⟩ := and_e r14
  obtain ⟨n16, r16⟩ := and_e r15
  obtain ⟨n17, r17⟩ := and_e r16
  obtain ⟨n18, r18⟩ := and_e r17
  obtain ⟨n19, r19⟩ := and_e r18
  obtain ⟨n20, r20⟩ := and_e r19
  obtain ⟨n21, r21⟩ := and_e r20
  obtain ⟨n22, r22⟩ := and_e r21
  obtain ⟨n23, r23⟩ := and_e r22
  obtain ⟨n24, r24⟩ := and_e r23
  obtain ⟨n25, r25⟩ := and_e r24
  obtain ⟨n26, r26⟩ := and_e r25
  obtain ⟨n27, r27⟩ := and_e r26
  obtain ⟨n28, r28⟩ := and_e r27
  obtain ⟨n29, r29⟩ := and_e r28
  obtain ⟨k0, ek0⟩ := exa_v n0
  have O0 := own_ord ek0 n8
  obtain ⟨k1, ek1⟩ := exa_v n19
  have O1 := own_ord ek1 n20
  obtain ⟨k2, ek2⟩ := exa_v n23
  have O2 := own_ord ek2 n24
  obtain ⟨k3, ek3⟩ := exa_v n5
  have O3 := own_ord ek3 n7
  obtain ⟨k4, ek4⟩ := exa_v n11
  have O4 := own_ord ek4 n13
  obtain ⟨k5, ek5⟩ := exa_v n16
  have O5 := own_ord ek5 n18
  obtain ⟨k6, ek6⟩ := exa_v n29
  have O6 := own_ord ek6 r29
  obtain ⟨k7, ek7⟩ := exa_v n21
  have O7 := own_ord ek7 n22
  obtain ⟨k8, ek8⟩ := exa_v n25
  have O8 := own_ord ek8 n26
  obtain ⟨k9, ek9⟩ := exa_v n27
  have O9 := own_ord ek9 n28
  obtain ⟨o0, eo0⟩ := exa_v n3
  obtain ⟨o1, eo1⟩ := exa_v n9
  obtain ⟨o2, eo2⟩ := exa_v n14
  obtain ⟨al, ea⟩ := arr_v n1
  obtain ⟨cl, Ar⟩ := Arr.start ea n1
  have hl := own_len ea Ar n2
  have ne : ∀ {a b : Addr} {x y : Int32}, s.fieldOf? a "java/lang/Enum" "ordinal" "I" = some (.int x) → s.fieldOf? b "java/lang/Enum" "ordinal" "I" = some (.int y) → ¬ x = y → ¬ a = b := fun h1 h2 hxy q => by subst q; exact hxy (Value.int.inj (Option.some.inj (h1.symm.trans h2)))
  obtain ⟨n, o, h1, h2, h3, _, L, rfl, ⟨rfl, N⟩, hq⟩ := rm0 l s _ hw tables_1 i0 k0 k1 k2 k3 k4 k5 k6 k7 k8 k9 o0 o1 o2 al cl s.heap s.heap.size (Nat.le_refl _) (Sta.start ek0 (Or.inr ⟨(hw _ (List.mem_of_getElem? (i := 6) rfl)), (hw _ (List.mem_of_getElem? (i := 7) rfl))⟩)) (Sta.start ek1 (Or.inr ⟨(hw _ (List.mem_of_getElem? (i := 6) rfl)), (hw _ (List.mem_of_getElem? (i := 28) rfl))⟩)) (Sta.start ek2 (Or.inr ⟨(hw _ (List.mem_of_getElem? (i := 6) rfl)), (hw _ (List.mem_of_getElem? (i := 34) rfl))⟩)) (Sta.start ek3 (Or.inr ⟨(hw _ (List.mem_of_getElem? (i := 6) rfl)), (hw _ (List.mem_of_getElem? (i := 20) rfl))⟩)) (Sta.start ek4 (Or.inr ⟨(hw _ (List.mem_of_getElem? (i := 6) rfl)), (hw _ (List.mem_of_getElem? (i := 22) rfl))⟩)) (Sta.start ek5 (Or.inr ⟨(hw _ (List.mem_of_getElem? (i := 6) rfl)), (hw _ (List.mem_of_getElem? (i := 24) rfl))⟩)) (Sta.start ek6 (Or.inr ⟨(hw _ (List.mem_of_getElem? (i := 6) rfl)), (hw _ (List.mem_of_getElem? (i := 42) rfl))⟩)) (Sta.start ek7 (Or.inr ⟨(hw _ (List.mem_of_getElem? (i := 6) rfl)), (hw _ (List.mem_of_getElem? (i := 32) rfl))⟩)) (Sta.start ek8 (Or.inr ⟨(hw _ (List.mem_of_getElem? (i := 6) rfl)), (hw _ (List.mem_of_getElem? (i := 36) rfl))⟩)) (Sta.start ek9 (Or.inr ⟨(hw _ (List.mem_of_getElem? (i := 6) rfl)), (hw _ (List.mem_of_getElem? (i := 38) rfl))⟩)) (Sta.start eo0 (Or.inr ⟨(hw _ (List.mem_of_getElem? (i := 13) rfl)), (hw _ (List.mem_of_getElem? (i := 17) rfl))⟩)) (Sta.start eo1 (Or.inr ⟨(hw _ (List.mem_of_getElem? (i := 13) rfl)), (hw _ (List.mem_of_getElem? (i := 21) rfl))⟩)) (Sta.start eo2 (Or.inr ⟨(hw _ (List.mem_of_getElem? (i := 13) rfl)), (hw _ (List.mem_of_getElem? (i := 23) rfl))⟩)) (Sta.start ea (Or.inr ⟨(hw _ (List.mem_of_getElem? (i := 13) rfl)), (hw _ (List.mem_of_getElem? (i := 16) rfl))⟩)) Ar hl.2 (own_elem ea Ar eo0 n4) (own_elem ea Ar eo1 n10) (own_elem ea Ar eo2 n15) (Fld.start (own_fref eo0 ek3 n6)) (Fld.start (own_fref eo1 ek4 n12)) (Fld.start (own_fref eo2 ek5 n17)) ⟨ne O3 O0 (by decide), ne O3 O1 (by decide), ne O3 O2 (by decide), ne O3 O4 (by decide), ne O3 O5 (by decide), ne O3 O6 (by decide), ne O3 O7 (by decide), ne O3 O8 (by decide), ne O3 O9 (by decide), ne O4 O0 (by decide), ne O4 O1 (by decide), ne O4 O2 (by decide), ne O4 O3 (by decide), ne O4 O5 (by decide), ne O4 O6 (by decide), ne O4 O7 (by decide), ne O4 O8 (by decide), ne O4 O9 (by decide), ne O5 O0 (by decide), ne O5 O1 (by decide), ne O5 O2 (by decide), ne O5 O3 (by decide), ne O5 O4 (by decide), ne O5 O6 (by decide), ne O5 O7 (by decide), ne O5 O8 (by decide), ne O5 O9 (by decide)⟩ p e ha hc hk s m _ below hf ((Spec.applies_iff_loose hf).mp happ).1 ⟨rfl, State.Warmed39.refl s, rfl⟩ trivial
  refine ⟨n, _, h1, h2, h3, hpost _ _ _ _ _ _ ⟨Cond.after_iff.mpr rfl, Cond.after_iff.mpr (eq_i res_at (Term.int_eval (1)) rfl), trivial⟩ ⟨hq.1, hq.2.1, (hq.2.2.sift fun y hy => Or.inr (N y hy)).mono (by decide) (by decide)⟩⟩
theorem main_1_1 : Claimed_1_1 := comes_1 fun _ _ _ _ _ _ h hF => ⟨h.1, hF⟩
theorem main_1_2 : Claimed_1_2 := comes_1 fun _ _ _ _ _ _ h hF => ⟨h.2.1, hF⟩
end Jvm.Pilot.@@N@@
namespace Jvm.Pilot.@@N@@
open Jvm Jvm.ClassFile Sem Op Lib Jvm.Free Jvm.Stand Jvm.Pilot.@@N@@.Jvm.D
/-! MADE BY PROGRAM (witnessworld.py) out of the Statement's table words and the real class files: 15 classes; the members and pool entries that the words name. The judged class is class 1, her method 3. -/
namespace start1
open Jvm.ClassFile
def u (s : String) : CpInfo := .utf8 (stringToUtf16 s)
/-- a pool by its gaps: so many unusable entries, then the entry; so many at the end -/
def gap : Nat → List CpInfo → List CpInfo
  | 0, r => r
  | n + 1, r => .unusable :: gap n r
def poolList (es : List (Nat × CpInfo)) (last : Nat) : List CpInfo := es.foldr (fun e r => gap e.1 (e.2 :: r)) (gap last [])
def pool (es : List (Nat × CpInfo)) (last : Nat) : Array CpInfo := ⟨poolList es last⟩
def fileOf (pool : Array CpInfo) (this : Nat) (attrs : Array Attribute := #[]) (ms : Array MethodInfo := #[]) (fl : Nat := 33) (sup : Nat := 0) (ifs : Array Nat := #[]) (fds : Array FieldInfo := #[]) : ClassFile where
  minorVersion := 0
  majorVersion := 65
  constantPool := pool
  accessFlags := fl
  thisClass := this
  superClass := sup
  interfaces := ifs
  fields := fds
  methods := ms
  attributes := attrs
def plain (name : String) (sup : Option ClassId) : Class where
  name := name
  kind := .ordinary
  loader := none
  accessFlags := 33
  super := sup
  interfaces := #[]
  cf := none
  fields := #[]
  methods := #[]
  instanceTypes := #[]
  staticTypes := #[]
  resolved := #[]
  callSites := []
  init := .initialized
  statics := none
  mirror := none

def pool0 : Array CpInfo := pool [(5, u "<init>"), (0, u "()V"), (1, .class_ 10), (1, u "java/lang/Object")] 113

def k0m0 : Method := { name := "<init>", desc := "()V", sig := { parameters := [], returnType := none }, accessFlags := 1, code := none }
/-- java/lang/Object -/
def k0 : Class := { plain "java/lang/Object" none with
  accessFlags := 33
  interfaces := #[]
  cf := some (fileOf pool0 8 #[] #[{ accessFlags := 1, nameIndex := 5, descriptorIndex := 6, attributes := #[] }] 33 0 #[] #[])
  fields := #[]
  methods := #[k0m0]
  instanceTypes := #[]
  staticTypes := #[]
  resolved := Array.replicate 124 none
  statics := none }

def pool1 : Array CpInfo := pool [(2, .class_ 4), (1, u "java/lang/Object"), (0, u "<init>"), (0, u "()V"), (0, .fieldref 8 9), (0, .class_ 10), (0, .nameAndType 11 12), (0, u "com/example/clearance/clearance/rules/Lexer$Kind"), (0, u "NAME"), (0, u "Lcom/example/clearance/clearance/rules/Lexer$Kind;"), (0, .fieldref 8 14), (0, .nameAndType 15 12), (0, u "OPEN_LIST"), (0, .fieldref 8 17), (0, .nameAndType 18 12), (0, u "CLOSE_LIST"), (0, .fieldref 8 20), (0, .nameAndType 21 12), (0, u "UNION"), (0, .fieldref 8 23), (0, .nameAndType 24 12), (0, u "DIFFERENCE"), (0, .fieldref 8 26), (0, .nameAndType 27 12), (0, u "INTERSECTION"), (0, .fieldref 8 29), (0, .nameAndType 30 12), (0, u "OPEN_GROUP"), (0, .fieldref 8 32), (0, .nameAndType 33 12), (0, u "CLOSE_GROUP"), (0, .fieldref 8 35), (0, .nameAndType 36 12), (0, u "EQUALS"), (0, .fieldref 8 38), (0, .nameAndType 39 12), (0, u "END"), (0, .fieldref 41 42), (0, .class_ 43), (0, .nameAndType 21 44), (0, u "com/example/clearance/clearance/rules/Formula$Operator"), (0, u "Lcom/example/clearance/clearance/rules/Formula$Operator;"), (0, .fieldref 41 46), (0, .nameAndType 24 44), (0, .fieldref 41 48), (0, .nameAndType 27 44), (0, .integer 2147483647), (0, .methodref 51 52), (0, .class_ 53), (0, .nameAndType 54 55), (0, u "com/example/clearance/clearance/rules/OperatorWrittenPinLaw"), (0, u "kindOf"), (0, u "(I)Lcom/example/clearance/clearance/rules/Lexer$Kind;"), (0, .methodref 51 57), (0, .nameAndType 58 59), (0, u "expectedOf"), (0, u "(I)Lcom/example/clearance/clearance/rules/Formula$Operator;"), (0, .methodref 41 61), (0, .nameAndType 62 63), (0, u "written"), (0, u "(Lcom/example/clearance/clearance/rules/Lexer$Kind;)Lcom/example/clearance/clearance/rules/Formula$Operator;"), (3, u "law"), (0, u "(I)Z")] 9

def k1m0 : Method := { name := "<init>", desc := "()V", sig := { parameters := [], returnType := none }, accessFlags := 2, code := none }
def k1c1 : Code := { maxStack := 2, maxLocals := 1, code := method_2_code, exceptionTable := #[], attributes := #[] }
def k1m1 : Method := { name := "kindOf", desc := "(I)Lcom/example/clearance/clearance/rules/Lexer$Kind;", sig := { parameters := [.int], returnType := some (.object "com/example/clearance/clearance/rules/Lexer$Kind") }, accessFlags := 10, code := some k1c1 }
def k1c2 : Code := { maxStack := 2, maxLocals := 1, code := method_3_code, exceptionTable := #[], attributes := #[] }
def k1m2 : Method := { name := "expectedOf", desc := "(I)Lcom/example/clearance/clearance/rules/Formula$Operator;", sig := { parameters := [.int], returnType := some (.object "com/example/clearance/clearance/rules/Formula$Operator") }, accessFlags := 10, code := some k1c2 }
def k1c3 : Code := { maxStack := 2, maxLocals := 4, code := code, exceptionTable := #[], attributes := #[] }
def k1m3 : Method := { name := "law", desc := "(I)Z", sig := { parameters := [.int], returnType := some .boolean }, accessFlags := 9, code := some k1c3 }
/-- com/example/clearance/clearance/rules/OperatorWrittenPinLaw -/
def k1 : Class := { plain "com/example/clearance/clearance/rules/OperatorWrittenPinLaw" (some 0) with
  accessFlags := 49
  interfaces := #[]
  cf := some (fileOf pool1 51 #[] #[{ accessFlags := 2, nameIndex := 5, descriptorIndex := 6, attributes := #[] }, { accessFlags := 10, nameIndex := 54, descriptorIndex := 55, attributes := #[] }, { accessFlags := 10, nameIndex := 58, descriptorIndex := 59, attributes := #[] }, { accessFlags := 9, nameIndex := 67, descriptorIndex := 68, attributes := #[] }] 49 2 #[] #[])
  fields := #[]
  methods := #[k1m0, k1m1, k1m2, k1m3]
  instanceTypes := #[]
  staticTypes := #[]
  resolved := Array.replicate 78 none
  statics := none }

def pool2 : Array CpInfo := pool [(1, .class_ 2), (0, u "java/lang/constant/Constable"), (0, .class_ 4), (0, u "java/lang/Object")] 6

/-- java/lang/constant/Constable -/
def k2 : Class := { plain "java/lang/constant/Constable" (some 0) with
  accessFlags := 1537
  interfaces := #[]
  cf := some (fileOf pool2 1 #[] #[] 1537 3 #[] #[])
  fields := #[]
  methods := #[]
  instanceTypes := #[]
  staticTypes := #[]
  resolved := Array.replicate 11 none
  statics := none }

def pool3 : Array CpInfo := pool [(1, .class_ 2), (0, u "java/lang/Comparable"), (0, .class_ 4), (0, u "java/lang/Object")] 7

/-- java/lang/Comparable -/
def k3 : Class := { plain "java/lang/Comparable" (some 0) with
  accessFlags := 1537
  interfaces := #[]
  cf := some (fileOf pool3 1 #[] #[] 1537 3 #[] #[])
  fields := #[]
  methods := #[]
  instanceTypes := #[]
  staticTypes := #[]
  resolved := Array.replicate 12 none
  statics := none }

def pool4 : Array CpInfo := pool [(1, .class_ 2), (0, u "java/io/Serializable"), (0, .class_ 4), (0, u "java/lang/Object")] 2

/-- java/io/Serializable -/
def k4 : Class := { plain "java/io/Serializable" (some 0) with
  accessFlags := 1537
  interfaces := #[]
  cf := some (fileOf pool4 1 #[] #[] 1537 3 #[] #[])
  fields := #[]
  methods := #[]
  instanceTypes := #[]
  staticTypes := #[]
  resolved := Array.replicate 7 none
  statics := none }

def pool5 : Array CpInfo := pool [(2, .class_ 4), (1, u "java/lang/Enum"), (0, u "name"), (0, u "Ljava/lang/String;"), (2, u "ordinal"), (0, u "I"), (1, .class_ 14), (1, u "java/lang/Object"), (4, u "hash"), (86, .class_ 108), (1, u "java/lang/Enum$EnumDesc"), (2, .class_ 112), (0, u "java/lang/constant/Constable"), (0, .class_ 114), (0, u "java/lang/Comparable"), (0, .class_ 116), (0, u "java/io/Serializable")] 87

/-- java/lang/Enum -/
def k5 : Class := { plain "java/lang/Enum" (some 0) with
  accessFlags := 1057
  interfaces := #[2, 3, 4]
  cf := some (fileOf pool5 2 #[.nestMembers #[106]] #[] 1057 12 #[111, 113, 115] #[{ accessFlags := 18, nameIndex := 5, descriptorIndex := 6, attributes := #[] }, { accessFlags := 18, nameIndex := 9, descriptorIndex := 10, attributes := #[] }, { accessFlags := 2, nameIndex := 19, descriptorIndex := 10, attributes := #[] }])
  fields := #[{ name := "name", type := (.object "java/lang/String"), accessFlags := 18, slot := 0, constantValue := 0 }, { name := "ordinal", type := .int, accessFlags := 18, slot := 1, constantValue := 0 }, { name := "hash", type := .int, accessFlags := 2, slot := 2, constantValue := 0 }]
  methods := #[]
  instanceTypes := #[(.object "java/lang/String"), .int, .int]
  staticTypes := #[]
  resolved := Array.replicate 204 none
  statics := none }

def pool6 : Array CpInfo := pool [(1, .class_ 2), (0, u "com/example/clearance/clearance/rules/Lexer$Kind"), (2, u "NAME"), (0, u "Lcom/example/clearance/clearance/rules/Lexer$Kind;"), (2, u "OPEN_LIST"), (2, u "CLOSE_LIST"), (2, u "UNION"), (2, u "DIFFERENCE"), (2, u "INTERSECTION"), (2, u "OPEN_GROUP"), (2, u "CLOSE_GROUP"), (2, u "EQUALS"), (2, u "END"), (2, u "$VALUES"), (0, u "[Lcom/example/clearance/clearance/rules/Lexer$Kind;"), (6, .class_ 46), (1, u "java/lang/Enum"), (8, u "description"), (0, u "Ljava/lang/String;"), (52, .class_ 110), (0, u "com/example/clearance/clearance/rules/Lexer")] 2

/-- com/example/clearance/clearance/rules/Lexer$Kind -/
def k6 : Class := { plain "com/example/clearance/clearance/rules/Lexer$Kind" (some 5) with
  accessFlags := 16433
  interfaces := #[]
  cf := some (fileOf pool6 1 #[.nestHost 109] #[] 16433 44 #[] #[{ accessFlags := 16409, nameIndex := 5, descriptorIndex := 6, attributes := #[] }, { accessFlags := 16409, nameIndex := 9, descriptorIndex := 6, attributes := #[] }, { accessFlags := 16409, nameIndex := 12, descriptorIndex := 6, attributes := #[] }, { accessFlags := 16409, nameIndex := 15, descriptorIndex := 6, attributes := #[] }, { accessFlags := 16409, nameIndex := 18, descriptorIndex := 6, attributes := #[] }, { accessFlags := 16409, nameIndex := 21, descriptorIndex := 6, attributes := #[] }, { accessFlags := 16409, nameIndex := 24, descriptorIndex := 6, attributes := #[] }, { accessFlags := 16409, nameIndex := 27, descriptorIndex := 6, attributes := #[] }, { accessFlags := 16409, nameIndex := 30, descriptorIndex := 6, attributes := #[] }, { accessFlags := 16409, nameIndex := 33, descriptorIndex := 6, attributes := #[] }, { accessFlags := 18, nameIndex := 55, descriptorIndex := 56, attributes := #[] }, { accessFlags := 4122, nameIndex := 36, descriptorIndex := 37, attributes := #[] }])
  fields := #[{ name := "NAME", type := (.object "com/example/clearance/clearance/rules/Lexer$Kind"), accessFlags := 16409, slot := 0, constantValue := 0 }, { name := "OPEN_LIST", type := (.object "com/example/clearance/clearance/rules/Lexer$Kind"), accessFlags := 16409, slot := 1, constantValue := 0 }, { name := "CLOSE_LIST", type := (.object "com/example/clearance/clearance/rules/Lexer$Kind"), accessFlags := 16409, slot := 2, constantValue := 0 }, { name := "UNION", type := (.object "com/example/clearance/clearance/rules/Lexer$Kind"), accessFlags := 16409, slot := 3, constantValue := 0 }, { name := "DIFFERENCE", type := (.object "com/example/clearance/clearance/rules/Lexer$Kind"), accessFlags := 16409, slot := 4, constantValue := 0 }, { name := "INTERSECTION", type := (.object "com/example/clearance/clearance/rules/Lexer$Kind"), accessFlags := 16409, slot := 5, constantValue := 0 }, { name := "OPEN_GROUP", type := (.object "com/example/clearance/clearance/rules/Lexer$Kind"), accessFlags := 16409, slot := 6, constantValue := 0 }, { name := "CLOSE_GROUP", type := (.object "com/example/clearance/clearance/rules/Lexer$Kind"), accessFlags := 16409, slot := 7, constantValue := 0 }, { name := "EQUALS", type := (.object "com/example/clearance/clearance/rules/Lexer$Kind"), accessFlags := 16409, slot := 8, constantValue := 0 }, { name := "END", type := (.object "com/example/clearance/clearance/rules/Lexer$Kind"), accessFlags := 16409, slot := 9, constantValue := 0 }, { name := "description", type := (.object "java/lang/String"), accessFlags := 18, slot := 3, constantValue := 0 }, { name := "$VALUES", type := (.array (.object "com/example/clearance/clearance/rules/Lexer$Kind")), accessFlags := 4122, slot := 10, constantValue := 0 }]
  methods := #[]
  instanceTypes := #[(.object "java/lang/String"), .int, .int, (.object "java/lang/String")]
  staticTypes := #[(.object "com/example/clearance/clearance/rules/Lexer$Kind"), (.object "com/example/clearance/clearance/rules/Lexer$Kind"), (.object "com/example/clearance/clearance/rules/Lexer$Kind"), (.object "com/example/clearance/clearance/rules/Lexer$Kind"), (.object "com/example/clearance/clearance/rules/Lexer$Kind"), (.object "com/example/clearance/clearance/rules/Lexer$Kind"), (.object "com/example/clearance/clearance/rules/Lexer$Kind"), (.object "com/example/clearance/clearance/rules/Lexer$Kind"), (.object "com/example/clearance/clearance/rules/Lexer$Kind"), (.object "com/example/clearance/clearance/rules/Lexer$Kind"), (.array (.object "com/example/clearance/clearance/rules/Lexer$Kind"))]
  resolved := Array.replicate 113 none
  statics := some 0 }

def pool7 : Array CpInfo := pool [(1, .class_ 2), (0, u "com/example/clearance/clearance/rules/Formula$Step"), (0, .class_ 4), (0, u "java/lang/Object"), (3, .class_ 9), (0, u "com/example/clearance/clearance/rules/Formula")] 18

/-- com/example/clearance/clearance/rules/Formula$Step -/
def k7 : Class := { plain "com/example/clearance/clearance/rules/Formula$Step" (some 0) with
  accessFlags := 1536
  interfaces := #[]
  cf := some (fileOf pool7 1 #[.nestHost 8] #[] 1536 3 #[] #[])
  fields := #[]
  methods := #[]
  instanceTypes := #[]
  staticTypes := #[]
  resolved := Array.replicate 28 none
  statics := none }

def pool8 : Array CpInfo := pool [(1, .class_ 2), (0, u "com/example/clearance/clearance/rules/Formula$Operator"), (2, u "UNION"), (0, u "Lcom/example/clearance/clearance/rules/Formula$Operator;"), (2, u "DIFFERENCE"), (2, u "INTERSECTION"), (2, u "$VALUES"), (0, u "[Lcom/example/clearance/clearance/rules/Formula$Operator;"), (6, .class_ 25), (1, u "java/lang/Enum"), (6, .fieldref 1 33), (0, .nameAndType 34 35), (0, u "kind"), (0, u "Lcom/example/clearance/clearance/rules/Lexer$Kind;"), (2, u "precedence"), (0, u "I"), (0, .fieldref 1 41), (0, .nameAndType 42 16), (0, u "ALL"), (42, .class_ 86), (0, u "com/example/clearance/clearance/rules/Formula$Step"), (6, u "written"), (0, u "(Lcom/example/clearance/clearance/rules/Lexer$Kind;)Lcom/example/clearance/clearance/rules/Formula$Operator;"), (11, .class_ 107), (0, u "com/example/clearance/clearance/rules/Formula")] 7

def k8c0 : Code := { maxStack := 2, maxLocals := 5, code := prog_60_method_4_code, exceptionTable := #[], attributes := #[] }
def k8m0 : Method := { name := "written", desc := "(Lcom/example/clearance/clearance/rules/Lexer$Kind;)Lcom/example/clearance/clearance/rules/Formula$Operator;", sig := { parameters := [(.object "com/example/clearance/clearance/rules/Lexer$Kind")], returnType := some (.object "com/example/clearance/clearance/rules/Formula$Operator") }, accessFlags := 8, code := some k8c0 }
/-- com/example/clearance/clearance/rules/Formula$Operator -/
def k8 : Class := { plain "com/example/clearance/clearance/rules/Formula$Operator" (some 5) with
  accessFlags := 16432
  interfaces := #[7]
  cf := some (fileOf pool8 1 #[.nestHost 106] #[{ accessFlags := 8, nameIndex := 93, descriptorIndex := 94, attributes := #[] }] 16432 23 #[85] #[{ accessFlags := 16409, nameIndex := 5, descriptorIndex := 6, attributes := #[] }, { accessFlags := 16409, nameIndex := 9, descriptorIndex := 6, attributes := #[] }, { accessFlags := 16409, nameIndex := 12, descriptorIndex := 6, attributes := #[] }, { accessFlags := 26, nameIndex := 42, descriptorIndex := 16, attributes := #[] }, { accessFlags := 18, nameIndex := 34, descriptorIndex := 35, attributes := #[] }, { accessFlags := 18, nameIndex := 38, descriptorIndex := 39, attributes := #[] }, { accessFlags := 4122, nameIndex := 15, descriptorIndex := 16, attributes := #[] }])
  fields := #[{ name := "UNION", type := (.object "com/example/clearance/clearance/rules/Formula$Operator"), accessFlags := 16409, slot := 0, constantValue := 0 }, { name := "DIFFERENCE", type := (.object "com/example/clearance/clearance/rules/Formula$Operator"), accessFlags := 16409, slot := 1, constantValue := 0 }, { name := "INTERSECTION", type := (.object "com/example/clearance/clearance/rules/Formula$Operator"), accessFlags := 16409, slot := 2, constantValue := 0 }, { name := "ALL", type := (.array (.object "com/example/clearance/clearance/rules/Formula$Operator")), accessFlags := 26, slot := 3, constantValue := 0 }, { name := "kind", type := (.object "com/example/clearance/clearance/rules/Lexer$Kind"), accessFlags := 18, slot := 3, constantValue := 0 }, { name := "precedence", type := .int, accessFlags := 18, slot := 4, constantValue := 0 }, { name := "$VALUES", type := (.array (.object "com/example/clearance/clearance/rules/Formula$Operator")), accessFlags := 4122, slot := 4, constantValue := 0 }]
  methods := #[k8m0]
  instanceTypes := #[(.object "java/lang/String"), .int, .int, (.object "com/example/clearance/clearance/rules/Lexer$Kind"), .int]
  staticTypes := #[(.object "com/example/clearance/clearance/rules/Formula$Operator"), (.object "com/example/clearance/clearance/rules/Formula$Operator"), (.object "com/example/clearance/clearance/rules/Formula$Operator"), (.array (.object "com/example/clearance/clearance/rules/Formula$Operator")), (.array (.object "com/example/clearance/clearance/rules/Formula$Operator"))]
  resolved := Array.replicate 115 none
  statics := some 1 }

def pool9 : Array CpInfo := pool [(1, u "java/lang/Cloneable"), (0, .class_ 1), (0, u "java/lang/Object"), (0, .class_ 3)] 3

/-- java/lang/Cloneable -/
def k9 : Class := { plain "java/lang/Cloneable" (some 0) with
  accessFlags := 1537
  interfaces := #[]
  cf := some (fileOf pool9 2 #[] #[] 1537 4 #[] #[])
  fields := #[]
  methods := #[]
  instanceTypes := #[]
  staticTypes := #[]
  resolved := Array.replicate 8 none
  statics := none }

/-- the primitive byte -/
def k10 : Class := { plain "byte" none with kind := .primitive 'B', accessFlags := 0x411 }
/-- [B -/
def k11 : Class := { plain "[B" (some 0) with kind := .array 10 .byte, interfaces := #[9, 4], accessFlags := 1041 }

/-- the primitive int -/
def k12 : Class := { plain "int" none with kind := .primitive 'I', accessFlags := 0x411 }
/-- [I -/
def k13 : Class := { plain "[I" (some 0) with kind := .array 12 .int, interfaces := #[9, 4], accessFlags := 1041 }

/-- [Lcom/example/clearance/clearance/rules/Formula$Operator; -/
def k14 : Class := { plain "[Lcom/example/clearance/clearance/rules/Formula$Operator;" (some 0) with kind := .array 8 (.object "com/example/clearance/clearance/rules/Formula$Operator"), interfaces := #[9, 4], accessFlags := 1041 }

def heap : Heap := #[{ cls := 6, slots := #[.ref 3, .ref 4, .ref 5, .ref 6, .ref 7, .ref 8, .ref 9, .ref 10, .ref 11, .ref 12, .null], vm := .statics 6 },
  { cls := 8, slots := #[.ref 13, .ref 14, .ref 15, .ref 2, .null], vm := .statics 8 },
  { cls := 14, slots := #[.ref 13, .ref 14, .ref 15], vm := .none },
  { cls := 6, slots := #[.null, .int 0, .int 0, .null], vm := .none },
  { cls := 6, slots := #[.null, .int 1, .int 0, .null], vm := .none },
  { cls := 6, slots := #[.null, .int 2, .int 0, .null], vm := .none },
  { cls := 6, slots := #[.null, .int 3, .int 0, .null], vm := .none },
  { cls := 6, slots := #[.null, .int 4, .int 0, .null], vm := .none },
  { cls := 6, slots := #[.null, .int 5, .int 0, .null], vm := .none },
  { cls := 6, slots := #[.null, .int 6, .int 0, .null], vm := .none },
  { cls := 6, slots := #[.null, .int 7, .int 0, .null], vm := .none },
  { cls := 6, slots := #[.null, .int 8, .int 0, .null], vm := .none },
  { cls := 6, slots := #[.null, .int 9, .int 0, .null], vm := .none },
  { cls := 8, slots := #[.null, .int 0, .int 0, .ref 6, .int 0], vm := .none },
  { cls := 8, slots := #[.null, .int 1, .int 0, .ref 7, .int 0], vm := .none },
  { cls := 8, slots := #[.null, .int 2, .int 0, .ref 8, .int 0], vm := .none }]
def classes : Array Class := #[k0, k1, k2, k3, k4, k5, k6, k7, k8, k9, k10, k11, k12, k13, k14]
def interned : List (Array UInt16 × Addr) := []
def slotsUsed : Nat := 74
def theMethod : MethodId := ⟨1, 3⟩
def args0 : Array Value := #[.int 3]
def aboutOver (below : List Frame) : State where
  vm := { classes := classes, interned := interned.toArray }
  heap := heap
  slotsUsed := slotsUsed
  threads := #[{ frames := .invoking theMethod args0 :: below }]
def below0 : List Frame := [.native { method := ⟨0, 0⟩, args := #[] }]
def about1 : State := aboutOver below0
def p0 : Program := .bare "" "" ""
def e0 : Env := launch0.env 0 0 0
theorem w_frames : about1.frames = Frame.invoking theMethod args0 :: below0 := rfl
set_option maxRecDepth 65536 in
theorem w_args : argsFit about1.vm theMethod args0 = true := by decide +kernel
set_option maxRecDepth 65536 in
theorem w_heap : heapFits about1 = true := by decide +kernel
set_option maxRecDepth 65536 in
theorem w_runnable : about1.curStatus? = some .runnable := by decide +kernel
set_option maxRecDepth 65536 in
theorem w_alone : about1.alone = true := by decide +kernel
set_option maxRecDepth 65536 in
theorem w_named : about1.methodNamed? x = some theMethod := by decide +kernel
set_option maxRecDepth 65536 in
theorem w_hears : about1.hears theMethod below0 = true := by decide +kernel
set_option maxRecDepth 65536 in
theorem w_ripe : about1.ripe theMethod args0 below0 = true := by decide +kernel
theorem w_running : about1.status = .running := rfl
set_option maxRecDepth 65536 in
theorem w_room : about1.hasRoom e0.platform room_1 = true :=
  launch0.hasRoom_least _ room_1 (by decide +kernel) (by decide +kernel) (by decide +kernel) (by decide +kernel) (by decide +kernel) (by decide +kernel)
theorem allAtoms_all (ts : List Jvm.Cond) (a : Array Jvm.Value) (st : Jvm.State) : (allAtoms ts).before a st = ts.all (fun c => c.before a st) := by
  induction ts with
  | nil => rfl
  | cons c t ih =>
    show (Jvm.Cond.and c (allAtoms t)).before a st = _
    rw [Jvm.Cond.before_and, ih, List.all_cons]
def words1 : List Jvm.Cond := Jvm.Cond.code x code maxLocals ret :: tables_1
/-- a 'code' word, met by the world's own term for the bytes: nothing is compared byte by byte -/
theorem code_word {y : MethodName} {bytes : ByteArray} {mx : Nat} {rt : Option FieldType} {a : Array Value} {s : State} {m : MethodId} {meth : Method} {c : Code} (h1 : s.methodNamed? y = some m) (h2 : s.vm.method? m = some meth) (h3 : meth.code = some c) (h4 : c.code = bytes)
    (h5 : (c.maxLocals == mx && c.exceptionTable.isEmpty && decide (c.maxStack ≤ mostOperands) && decide (meth.sig.returnType = rt) && !meth.locks && decide (parseMethodDescriptor y.desc = some meth.sig)) = true) : (Jvm.Cond.code y bytes mx rt).before a s = true := by
  simp only [Bool.and_eq_true, beq_iff_eq, Bool.not_eq_true', decide_eq_true_eq] at h5
  obtain ⟨⟨⟨⟨⟨g1, g2⟩, g3⟩, g4⟩, g5⟩, g6⟩ := h5
  simp [Cond.before, Cond.holds, Cond.value, h1, h2, h3, h4, g1, g2, g3, g4, g5, g6]
def isCode : Jvm.Cond → Bool
  | .code _ _ _ _ => true
  | _ => false
theorem all_split {L : List Jvm.Cond} {P : Jvm.Cond → Bool} (h1 : L.all (fun c => isCode c || P c) = true) (h2 : ∀ c ∈ L.filter isCode, P c = true) : L.all P = true := by
  refine List.all_eq_true.mpr fun c hc => ?_
  have h := List.all_eq_true.mp h1 c hc
  rcases Bool.eq_false_or_eq_true (isCode c) with hi | hi
  · exact h2 c (List.mem_filter.mpr ⟨hc, hi⟩)
  · simpa [hi] using h
set_option maxRecDepth 65536 in
theorem w_c0 : (Jvm.Cond.code x code maxLocals ret).before args0 about1 = true := code_word (m := ⟨1, 3⟩) (meth := k1m3) (c := k1c3) (by decide +kernel) rfl rfl rfl (by decide +kernel)
set_option maxRecDepth 65536 in
theorem w_c1 : (Jvm.Cond.code ({ cls := "com/example/clearance/clearance/rules/OperatorWrittenPinLaw", name := "kindOf", desc := "(I)Lcom/example/clearance/clearance/rules/Lexer$Kind;" } : Jvm.MethodName) method_2_code (1 : Nat) (Option.some (Jvm.ClassFile.FieldType.object "com/example/clearance/clearance/rules/Lexer$Kind"))).before args0 about1 = true := code_word (m := ⟨1, 1⟩) (meth := k1m1) (c := k1c1) (by decide +kernel) rfl rfl rfl (by decide +kernel)
set_option maxRecDepth 65536 in
theorem w_c2 : (Jvm.Cond.code ({ cls := "com/example/clearance/clearance/rules/OperatorWrittenPinLaw", name := "expectedOf", desc := "(I)Lcom/example/clearance/clearance/rules/Formula$Operator;" } : Jvm.MethodName) method_3_code (1 : Nat) (Option.some (Jvm.ClassFile.FieldType.object "com/example/clearance/clearance/rules/Formula$Operator"))).before args0 about1 = true := code_word (m := ⟨1, 2⟩) (meth := k1m2) (c := k1c2) (by decide +kernel) rfl rfl rfl (by decide +kernel)
set_option maxRecDepth 65536 in
theorem w_c3 : (Jvm.Cond.code ({ cls := "com/example/clearance/clearance/rules/Formula$Operator", name := "written", desc := "(Lcom/example/clearance/clearance/rules/Lexer$Kind;)Lcom/example/clearance/clearance/rules/Formula$Operator;" } : Jvm.MethodName) prog_60_method_4_code (5 : Nat) (Option.some (Jvm.ClassFile.FieldType.object "com/example/clearance/clearance/rules/Formula$Operator"))).before args0 about1 = true := code_word (m := ⟨8, 0⟩) (meth := k8m0) (c := k8c0) (by decide +kernel) rfl rfl rfl (by decide +kernel)
def codes1 : List Jvm.Cond := [Jvm.Cond.code x code maxLocals ret, Jvm.Cond.code ({ cls := "com/example/clearance/clearance/rules/OperatorWrittenPinLaw", name := "kindOf", desc := "(I)Lcom/example/clearance/clearance/rules/Lexer$Kind;" } : Jvm.MethodName) method_2_code (1 : Nat) (Option.some (Jvm.ClassFile.FieldType.object "com/example/clearance/clearance/rules/Lexer$Kind")), Jvm.Cond.code ({ cls := "com/example/clearance/clearance/rules/OperatorWrittenPinLaw", name := "expectedOf", desc := "(I)Lcom/example/clearance/clearance/rules/Formula$Operator;" } : Jvm.MethodName) method_3_code (1 : Nat) (Option.some (Jvm.ClassFile.FieldType.object "com/example/clearance/clearance/rules/Formula$Operator")), Jvm.Cond.code ({ cls := "com/example/clearance/clearance/rules/Formula$Operator", name := "written", desc := "(Lcom/example/clearance/clearance/rules/Lexer$Kind;)Lcom/example/clearance/clearance/rules/Formula$Operator;" } : Jvm.MethodName) prog_60_method_4_code (5 : Nat) (Option.some (Jvm.ClassFile.FieldType.object "com/example/clearance/clearance/rules/Formula$Operator"))]
set_option maxRecDepth 65536 in
theorem codes_eq : words1.filter isCode = codes1 := rfl
theorem w_codes : ∀ c ∈ words1.filter isCode, c.before args0 about1 = true := by
  rw [codes_eq]
  intro c hc
  simp only [codes1, List.mem_cons, List.not_mem_nil, or_false] at hc
  rcases hc with rfl | rfl | rfl | rfl
  · exact w_c0
  · exact w_c1
  · exact w_c2
  · exact w_c3
set_option maxRecDepth 65536 in
theorem w_t1 : (words1.take 24).all (fun c => isCode c || c.before args0 about1) = true := by decide +kernel
set_option maxRecDepth 65536 in
theorem w_t2 : (words1.drop 24).all (fun c => isCode c || c.before args0 about1) = true := by decide +kernel
theorem w_tables : (allAtoms (Jvm.Cond.code x code maxLocals ret :: tables_1)).before args0 about1 = true := by
  rw [allAtoms_all]
  show words1.all (fun c => c.before args0 about1) = true
  refine all_split ?_ w_codes
  rw [← List.take_append_drop 24 words1, List.all_append, w_t1, w_t2]
  rfl
set_option maxRecDepth 65536 in
theorem w_case : (Jvm.Cond.and given_1 narrow_1).before args0 about1 = true := by decide +kernel
theorem w_applies : (headSpec (Jvm.Cond.code x code maxLocals ret :: tables_1) room_1).applies x e0.platform about1 = true :=
  (Spec.applies_iff w_frames).mpr ⟨w_running, w_runnable, w_alone, w_named, w_hears, w_ripe, w_room, w_tables⟩
theorem atStart : AtStart classFile x code maxLocals ret World_1 tables_1 room_1 Calls_1 rest_1 Pre_1 launch0 p0 e0 about1 theMethod args0 below0 :=
  ⟨lists_1, trivial, launch0.admits_env _ _ _, launch0.least_env, fairChoices_fair.cas, fairChoices_fair.clock, w_frames, w_args, w_heap, w_applies, trivial, trivial, w_case⟩
end start1
theorem witness_1 : WitnessClaimed_1 := ⟨start1.p0, start1.e0, start1.about1, start1.theMethod, start1.args0, start1.below0, start1.atStart⟩
end Jvm.Pilot.@@N@@
