import JvmDerived
import JvmDerived.Pilot.@@N@@Statement
import JvmDerived.Pilot.@@N@@Code
set_option linter.unusedVariables false
set_option linter.unusedSimpArgs false
@@BLOCK:NumsL.lean.txt@@
namespace Jvm.RoadKit
open Sem ClassFile Op Lib Jvm.Stand Jvm.Free Jvm.LawKit
section New
variable {p : Program} {l : Launch} {e : Env} {R : Room} {s : State} {m : MethodId} {args : Array Value} {below : List Frame} {meth : Method} {c : Code} {T : State} {locs : List Loc} {cells slots : Nat}
theorem retI (X : Stand p l e R s m args below meth c T locs cells slots) (hx : p.tables.exec = Jvm.exec) {pc : Nat} {Ls : Array Slot} {z : Int32} {rest : List Value} (hret : meth.sig.returnType = some .int) (hd : decode c.code pc = .ok (.ireturn, 1)) {fs : List Frame}
    (hl : ∀ (f : JFrame) (acts : List Action), f.method = m → f.locked = none → f.entered = [] → (doReturn e (T.setTop f) acts (some (.int z))).1 = T.setFrames fs) : Steps p.tables e below (T.setTop (mkF m pc Ls (.int z :: rest))) (T.setFrames fs) := by
  have hm' : T.vm.method? m = some meth := X.method'
  have hn : narrow .int (.int z) = .int z := rfl
  show Steps p.tables e below (T.setTop { method := m, pc := pc, locals := Ls, stack := _ :: rest, locked := none }) _
  jvm_step X.here [X.here.top, hx, hd, hm', hret, hn]
  first | (intro acts; rw [hl _ acts rfl rfl rfl]) | rw [hl _ _ rfl rfl rfl]
  exact Steps.refl _
theorem retRef (X : Stand p l e R s m args below meth c T locs cells slots) (hx : p.tables.exec = Jvm.exec) {pc : Nat} {Ls : Array Slot} {v : Value} {rest : List Value} {ty : FieldType} (hret : meth.sig.returnType = some ty) (hty : ty.isReference = true) (hv : v.isRef = true) (hd : decode c.code pc = .ok (.areturn, 1)) {fs : List Frame}
    (hl : ∀ (f : JFrame) (acts : List Action), f.method = m → f.locked = none → f.entered = [] → (doReturn e (T.setTop f) acts (some v)).1 = T.setFrames fs) : Steps p.tables e below (T.setTop (mkF m pc Ls (v :: rest))) (T.setFrames fs) := by
  have hm' : T.vm.method? m = some meth := X.method'
  show Steps p.tables e below (T.setTop { method := m, pc := pc, locals := Ls, stack := _ :: rest, locked := none }) _
  jvm_step X.here [X.here.top, hx, hd, hm', hret, hty, hv]
  first | (intro acts; rw [hl _ acts rfl rfl rfl]) | rw [hl _ _ rfl rfl rfl]
  exact Steps.refl _
theorem retD (X : Stand p l e R s m args below meth c T locs cells slots) (hx : p.tables.exec = Jvm.exec) {pc : Nat} {Ls : Array Slot} {z : UInt64} {rest : List Value} (hret : meth.sig.returnType = some .double) (hd : decode c.code pc = .ok (.dreturn, 1)) {fs : List Frame}
    (hl : ∀ (f : JFrame) (acts : List Action), f.method = m → f.locked = none → f.entered = [] → (doReturn e (T.setTop f) acts (some (.double z))).1 = T.setFrames fs) : Steps p.tables e below (T.setTop (mkF m pc Ls (.double z :: rest))) (T.setFrames fs) := by
  have hm' : T.vm.method? m = some meth := X.method'
  have hn : narrow .double (.double z) = .double z := rfl
  show Steps p.tables e below (T.setTop { method := m, pc := pc, locals := Ls, stack := _ :: rest, locked := none }) _
  jvm_step X.here [X.here.top, hx, hd, hm', hret, hn]
  first | (intro acts; rw [hl _ acts rfl rfl rfl]) | rw [hl _ _ rfl rfl rfl]
  exact Steps.refl _
end New
end Jvm.RoadKit
namespace Jvm.Pilot.@@N@@
open Jvm Jvm.ClassFile Sem Op Lib Jvm.Free Jvm.Stand Jvm.LawKit Jvm.RoadKit Bundle Jvm.Pilot.@@N@@.Jvm.D
/-- from the state S the run comes to an end of which R speaks -/
abbrev Ends (tb : Tables) (e : Env) (below : List Frame) (S : State) (R : State → Outcome → Prop) : Prop := ∃ t o, Steps tb e below S t ∧ R t o
theorem Ends.st {tb : Tables} {e : Env} {below : List Frame} {S S' : State} {R : State → Outcome → Prop} (h : ∀ t, Steps tb e below S' t → Steps tb e below S t) (k : Ends tb e below S' R) : Ends tb e below S R := by
  obtain ⟨t, o, h1, h2⟩ := k
  exact ⟨t, o, h t h1, h2⟩
theorem pd_0 : parseMethodDescriptor "()V" = some ⟨[], none⟩ := by decide +kernel
theorem pd_1 : parseMethodDescriptor "(J)V" = some ⟨[.long], none⟩ := by decide +kernel
theorem pd_2 : parseMethodDescriptor "(Ljava/lang/Object;)Z" = some ⟨[(.object "java/lang/Object")], some .boolean⟩ := by decide +kernel
theorem pd_3 : parseMethodDescriptor "(J)Ljava/lang/Long;" = some ⟨[.long], some (.object "java/lang/Long")⟩ := by decide +kernel
theorem own_ord {t : Term} {args : Array Value} {s : State} {x : Addr} {C n d : String} {k : Int32} (ev : t.eval args s none [] s = some (.ref x)) (h : (Cond.eq (Term.field t C n d) (Term.int k)).value args s none s [] = some true) : s.fieldOf? x C n d = some (.int k) := by
  have e := fld_at (C := C) (n := n) (dd := d) ev
  obtain ⟨u, v, h1, h2, k1, k2⟩ := cmp_v (Or.inl h)
  have hv : v = .int k := (Option.some.inj ((Term.int_eval k).symm.trans h2)).symm
  subst hv
  obtain ⟨z, rfl⟩ := k2
  rw [← e, h1]
  have q := h
  simp only [Cond.value, h1, h2] at q
  have q' : decide (z = k) = true := Option.some.inj q
  rw [of_decide_eq_true q']
theorem own_eqR {a b : Term} {args : Array Value} {s : State} {x : Value} {y : Addr} (ha : a.eval args s none [] s = some x) (hb : b.eval args s none [] s = some (.ref y)) (h : (Cond.eq a b).value args s none s [] = some true) : x = .ref y := by
  cases x <;> simp [Cond.value, ha, hb] at h
  rw [h]
theorem own_some {a b : Term} {args : Array Value} {s : State} (h : (Cond.eq a b).value args s none s [] = some true) : ∃ x, a.eval args s none [] s = some x := by
  obtain ⟨u, v, h1, -⟩ := cmp_v (Or.inl h)
  exact ⟨u, h1⟩
theorem own_len {t : Term} {args : Array Value} {s : State} {x : Addr} {cl : Cell} {ty : FieldType} {k : Int32} (ev : t.eval args s none [] s = some (.ref x)) (A : Arr s s.heap x cl ty) (h : (Cond.eq (Term.length t) (Term.int k)).value args s none s [] = some true) : cl.slots.size < 2 ^ 31 ∧ cl.slots.size.toInt32 = k := by
  have ha := A.fin (Vm.Alike.refl _)
  obtain ⟨u, v, h1, h2, k1, k2⟩ := cmp_v (Or.inl h)
  by_cases hl : cl.slots.size < 2 ^ 31
  · refine ⟨hl, ?_⟩
    have e := len_f (args := args) (first := s) (o := none) (idx := []) ev ha hl
    have hv : v = .int k := (Option.some.inj ((Term.int_eval k).symm.trans h2)).symm
    subst hv
    have hu : u = .int cl.slots.size.toInt32 := Option.some.inj (h1.symm.trans e)
    subst hu
    have q := h
    simp only [Cond.value, h1, h2] at q
    exact of_decide_eq_true (Option.some.inj q)
  · exfalso
    simp [Term.eval, ev, ha, hl] at h1
theorem own_elem {t : Term} {args : Array Value} {s : State} {x : Addr} {cl : Cell} {ty : FieldType} {k : Int32} {b : Term} {y : Addr} (ev : t.eval args s none [] s = some (.ref x)) (A : Arr s s.heap x cl ty) (hb : b.eval args s none [] s = some (.ref y)) (h : (Cond.eq (Term.elem t (Term.int k)) b).value args s none s [] = some true) :
    ¬ (k < 0 ∨ cl.slots.size ≤ k.toNatClampNeg) ∧ cl.slots[k.toNatClampNeg]? = some (.ref y) := by
  obtain ⟨u, hu⟩ := own_some h
  have e := own_eqR hu hb h
  subst e
  exact elem_in hu ev (Term.int_eval k) A.1
theorem own_fref {t : Term} {args : Array Value} {s : State} {x y : Addr} {C n d : String} {b : Term} (ev : t.eval args s none [] s = some (.ref x)) (hb : b.eval args s none [] s = some (.ref y)) (h : (Cond.eq (Term.field t C n d) b).value args s none s [] = some true) : s.fieldOf? x C n d = some (.ref y) := by
  have e := fld_at (C := C) (n := n) (dd := d) ev
  obtain ⟨u, hu⟩ := own_some h
  have q := own_eqR hu hb h
  subst q
  rw [← e, hu]
theorem own_root {Z : State} {a0 : Array Value} {O K : String} {n : Nat} (w : (Cond.noSuperclass O).before a0 Z = true) (wk : (Cond.instantiable K n).before a0 Z = true) (hn : O ≠ K) : NS Z O K := by
  obtain ⟨c, k, h1, h2, h3, -, -⟩ := Cond.noSuperclass_spec w
  obtain ⟨t, k', g1, -⟩ := Cond.instantiable_spec wk
  have hne := ids_ne h1 g1 hn
  refine ⟨c, t, h1, g1, fun fuel => ?_⟩
  cases fuel with
  | zero => rfl
  | succ f => simp [Vm.isSubclassAux, hne, h2, h3]
theorem own_no {Z : State} {a0 : Array Value} {C S K : String} {n : Nat} (w : (Cond.superclass C S).before a0 Z = true) (wk : (Cond.instantiable K n).before a0 Z = true) (hs : NS Z C K) (hn : C ≠ K) : ∃ c t, Z.vm.findClass C = some c ∧ Z.vm.findClass K = some t ∧ Z.vm.assignable c t = false := by
  obtain ⟨c, t, h0, g0, n3⟩ := hs
  obtain ⟨p, k, kp, h1, h2, h3, h4, h5, -, h7⟩ := Cond.superclass_spec h0 w
  obtain ⟨t', k', g1, g2, g3, g4, -⟩ := Cond.instantiable_spec wk
  cases g0.symm.trans g1
  have g7 : k'.isInterface = false := by
    cases hq : k'.isInterface with
    | false => rfl
    | true => rw [hq] at g4; simp at g4
  have hne := ids_ne h0 g0 hn
  refine ⟨c, t, h0, g0, ?_⟩
  show Z.vm.assignableAux (255 + 1) c t = false
  simp [Vm.assignableAux, hne, h2, g2, h5, g3, g7, Vm.isSubclass, n3]
theorem own_exaAt {s : State} {args : Array Value} {t : Term} {C : String} {a : Addr} {idx : List Nat} (ev : t.eval args s none idx s = some (.ref a)) (h : (Cond.exactly t C).value args s none s idx = some true) : Exa s s.heap a C := by
  obtain ⟨a', c', cell, k, e1, e2, e3, e4, e5, rfl, e7⟩ := Cond.exactly_spec (beq_iff_eq.mpr h : (Cond.exactly t C).holds args s none s idx = true)
  cases ev.symm.trans e1
  exact ⟨cell, k, e3, e2, e4, e5, e7⟩
/-- every place of a cache: what lies there, and of which class it is -/
theorem own_places {s : State} {args : Array Value} {C O n d : String} {x : Addr} {cl : Cell} {ty : FieldType} {c2 : Cond} (ev : ∀ idx, (Term.static O n d).eval args s none idx s = some (.ref x)) (A : Arr s s.heap x cl ty) (hsz : cl.slots.size < 2 ^ 31)
    (h : (Cond.all (Term.static O n d) (Cond.and (Cond.exactly (Term.elem (Term.static O n d) (Term.index 0)) C) c2)).value args s none s [] = some true) :
    ∀ i, i < cl.slots.size → ∃ y, cl.slots[i]? = some (.ref y) ∧ Exa s s.heap y C ∧ (Term.elem (Term.static O n d) (Term.index 0)).eval args s none [i] s = some (.ref y) ∧ c2.value args s none s [i] = some true := by
  intro i hi
  have q := Cond.all_elim (ev []) (A.fin (Vm.Alike.refl _)) h i hi
  obtain ⟨q1, q2⟩ := and_e q
  obtain ⟨y, ey⟩ := exa_v q1
  have e1 : (Term.index 0).eval args s none [i] s = some (.int i.toInt32) := by simp [Term.eval, Nat.lt_trans hi hsz]
  have e2 : (i.toInt32).toNatClampNeg = i := by simp only [Int32.toNatClampNeg, len_toInt (Nat.lt_trans hi hsz)]; rfl
  have e3 := (elem_in ey (ev [i]) e1 A.1).2
  rw [e2] at e3
  exact ⟨y, e3, own_exaAt ey q1, ey, q2⟩
theorem own_size {n : Nat} (h : n < 2 ^ 31 ∧ n.toInt32 = 256) : n = 256 := by
  have e := len_toInt h.1
  rw [h.2] at e
  have e2 : (256 : Int32).toInt = 256 := by decide
  rw [e2] at e
  omega
theorem own_at {Z : State} {cl : Cell} {C : String} (HC : ∀ i, i < 256 → ∃ y, cl.slots[i]? = some (.ref y) ∧ Exa Z Z.heap y C) (hsz : cl.slots.size = 256) (q : Int64) (h1 : ¬ (lcmpW q (-128 : Int64) < (0 : Int32))) (h2 : ¬ ((0 : Int32) < lcmpW q (127 : Int64))) :
    ∃ y, ¬ ((q.toInt32 + (128 : Int32)) < 0 ∨ cl.slots.size ≤ (q.toInt32 + (128 : Int32)).toNatClampNeg) ∧ cl.slots[(q.toInt32 + (128 : Int32)).toNatClampNeg]? = some (.ref y) ∧ Exa Z Z.heap y C := by
  rw [lw_lt] at h1; rw [lw_gt] at h2
  rw [Int64.lt_iff_toInt_lt] at h1 h2
  have e1 : (-128 : Int64).toInt = -128 := by decide
  have e2 : (127 : Int64).toInt = 127 := by decide
  have e3 : (128 : Int32).toInt = 128 := by decide
  rw [e1] at h1; rw [e2] at h2
  have e4 : q.toInt32.toInt = q.toInt := Jvm.Kit.i32_of_i64 (by omega) (by omega)
  have e5 : (q.toInt32 + (128 : Int32)).toInt = q.toInt + 128 := by rw [Jvm.Kit.i32_add (by omega) (by omega), e4, e3]
  have e6 : (q.toInt32 + (128 : Int32)).toNatClampNeg = (q.toInt + 128).toNat := by simp only [Int32.toNatClampNeg, e5]
  have e7 : (0 : Int32).toInt = 0 := by decide
  obtain ⟨y, q1, q2⟩ := HC (q.toInt + 128).toNat (by omega)
  refine ⟨y, ?_, by rw [e6]; exact q1, q2⟩
  rw [hsz, e6, Int32.lt_iff_toInt_lt, e5, e7]
  omega
theorem own_bits : ∀ m : Fin 64, ¬ ((1 : Int64) <<< Int64.ofNat m.val) = 0 := by decide +kernel
theorem own_flip (a : Int64) (k : Int32) : ¬ ((a ^^^ ((1 : Int64) <<< ((k &&& (63 : Int32)) &&& 0x3f).toInt64)) = a) := by
  intro h
  have hx : ((1 : Int64) <<< ((k &&& (63 : Int32)) &&& 0x3f).toInt64) = 0 := by
    have q := congrArg (fun z => a ^^^ z) h
    simp only [← Int64.xor_assoc, Int64.xor_self, Int64.zero_xor] at q
    exact q
  have hm : ∃ m : Fin 64, ((k &&& (63 : Int32)) &&& 0x3f).toInt64 = Int64.ofNat m.val := by
    have e : ((k &&& (63 : Int32)) &&& (63 : Int32)).toInt = (k &&& (63 : Int32)).toInt % 2 ^ 6 := Jvm.Kit.i32_mask (k &&& (63 : Int32)) 63 (k := 6) (by decide) (by decide)
    refine ⟨⟨((k &&& (63 : Int32)) &&& (63 : Int32)).toInt.toNat, by omega⟩, ?_⟩
    apply Int64.toInt_inj.mp
    rw [Jvm.Kit.i64_of_i32, Int64.toInt_ofNat_of_lt (by simp only []; omega)]
    simp only []
    omega
  obtain ⟨m, hm⟩ := hm
  rw [hm] at hx
  exact own_bits m hx
def Q1 (Z : State) (a : Addr) (q : Int64) (h0 : Heap) (n0 : Nat) (v : Option Value) (h : Heap) (L : List Loc) : Prop := v = none ∧ Fr n0 L ∧ Keep h0 h [a] ∧ Fld Z h a "com/example/umpteenth_copy/umpteenthcopy/engine/Fingerprint" "bits" "J" (.long q)
def Q3 (Z : State) (r : Int32) (h0 : Heap) (n0 : Nat) (v : Option Value) (h : Heap) (L : List Loc) : Prop := v = some (.int r) ∧ Fr n0 L ∧ h = h0
def Q4 (Z : State)  (h0 : Heap) (n0 : Nat) (v : Option Value) (h : Heap) (L : List Loc) : Prop := ∃ b : Addr, v = some (.ref b) ∧ Fr n0 L ∧ Keep h0 h [] ∧ Exa Z h b "java/lang/Long"
def Q5 (Z : State) (a : Addr) (h0 : Heap) (n0 : Nat) (v : Option Value) (h : Heap) (L : List Loc) : Prop := v = none ∧ Fr n0 L ∧ Keep h0 h [a]
def Q6 (Z : State)  (h0 : Heap) (n0 : Nat) (v : Option Value) (h : Heap) (L : List Loc) : Prop := v = none ∧ Fr n0 L ∧ h = h0
def Q0 (Z : State)  (h0 : Heap) (n0 : Nat) (v : Option Value) (h : Heap) (L : List Loc) : Prop := v = some (.int 1) ∧ Fr n0 L
theorem d1_0 : decode prog_12_method_1_code 0 = .ok (.aload_n 0, 1) := by decide +kernel
theorem d1_1 : decode prog_12_method_1_code 1 = .ok (.invokespecial 1, 3) := by decide +kernel
theorem d1_4 : decode prog_12_method_1_code 4 = .ok (.aload_n 0, 1) := by decide +kernel
theorem d1_5 : decode prog_12_method_1_code 5 = .ok (.lload_n 1, 1) := by decide +kernel
theorem d1_6 : decode prog_12_method_1_code 6 = .ok (.putfield 7, 3) := by decide +kernel
theorem d1_9 : decode prog_12_method_1_code 9 = .ok (.return_, 1) := by decide +kernel
theorem pn_1 : plainName "com/example/umpteenth_copy/umpteenthcopy/engine/Fingerprint" = true := by first | (simp [plainName, overriddenIn]; done) | decide +kernel
theorem d3_0 : decode prog_12_method_6_code 0 = .ok (.aload_n 1, 1) := by decide +kernel
theorem d3_1 : decode prog_12_method_6_code 1 = .ok (.instanceof 8, 3) := by decide +kernel
theorem d3_4 : decode prog_12_method_6_code 4 = .ok (.ifCond .eq 24, 3) := by decide +kernel
theorem d3_7 : decode prog_12_method_6_code 7 = .ok (.aload_n 1, 1) := by decide +kernel
theorem d3_8 : decode prog_12_method_6_code 8 = .ok (.checkcast 8, 3) := by decide +kernel
theorem d3_11 : decode prog_12_method_6_code 11 = .ok (.astore_n 2, 1) := by decide +kernel
theorem d3_12 : decode prog_12_method_6_code 12 = .ok (.aload_n 2, 1) := by decide +kernel
theorem d3_13 : decode prog_12_method_6_code 13 = .ok (.getfield 7, 3) := by decide +kernel
theorem d3_16 : decode prog_12_method_6_code 16 = .ok (.aload_n 0, 1) := by decide +kernel
theorem d3_17 : decode prog_12_method_6_code 17 = .ok (.getfield 7, 3) := by decide +kernel
theorem d3_20 : decode prog_12_method_6_code 20 = .ok (.lcmp, 1) := by decide +kernel
theorem d3_21 : decode prog_12_method_6_code 21 = .ok (.ifCond .ne 7, 3) := by decide +kernel
theorem d3_24 : decode prog_12_method_6_code 24 = .ok (.iconst 1, 1) := by decide +kernel
theorem d3_25 : decode prog_12_method_6_code 25 = .ok (.goto 4, 3) := by decide +kernel
theorem d3_28 : decode prog_12_method_6_code 28 = .ok (.iconst 0, 1) := by decide +kernel
theorem d3_29 : decode prog_12_method_6_code 29 = .ok (.ireturn, 1) := by decide +kernel
theorem pn_3 : plainName "com/example/umpteenth_copy/umpteenthcopy/engine/Fingerprint" = true := by first | (simp [plainName, overriddenIn]; done) | decide +kernel
theorem d4_0 : decode jdk_35_method_24_code 0 = .ok (.sipush 128, 3) := by decide +kernel
theorem d4_3 : decode jdk_35_method_24_code 3 = .ok (.istore_n 2, 1) := by decide +kernel
theorem d4_4 : decode jdk_35_method_24_code 4 = .ok (.lload_n 0, 1) := by decide +kernel
theorem d4_5 : decode jdk_35_method_24_code 5 = .ok (.ldc2_w 230, 3) := by decide +kernel
theorem d4_8 : decode jdk_35_method_24_code 8 = .ok (.lcmp, 1) := by decide +kernel
theorem d4_9 : decode jdk_35_method_24_code 9 = .ok (.ifCond .lt 22, 3) := by decide +kernel
theorem d4_12 : decode jdk_35_method_24_code 12 = .ok (.lload_n 0, 1) := by decide +kernel
theorem d4_13 : decode jdk_35_method_24_code 13 = .ok (.ldc2_w 232, 3) := by decide +kernel
theorem d4_16 : decode jdk_35_method_24_code 16 = .ok (.lcmp, 1) := by decide +kernel
theorem d4_17 : decode jdk_35_method_24_code 17 = .ok (.ifCond .gt 14, 3) := by decide +kernel
theorem d4_20 : decode jdk_35_method_24_code 20 = .ok (.getstatic 234, 3) := by decide +kernel
theorem d4_23 : decode jdk_35_method_24_code 23 = .ok (.lload_n 0, 1) := by decide +kernel
theorem d4_24 : decode jdk_35_method_24_code 24 = .ok (.l2i, 1) := by decide +kernel
theorem d4_25 : decode jdk_35_method_24_code 25 = .ok (.sipush 128, 3) := by decide +kernel
theorem d4_28 : decode jdk_35_method_24_code 28 = .ok (.iadd, 1) := by decide +kernel
theorem d4_29 : decode jdk_35_method_24_code 29 = .ok (.aaload, 1) := by decide +kernel
theorem d4_30 : decode jdk_35_method_24_code 30 = .ok (.areturn, 1) := by decide +kernel
theorem d4_31 : decode jdk_35_method_24_code 31 = .ok (.new 1, 3) := by decide +kernel
theorem d4_34 : decode jdk_35_method_24_code 34 = .ok (.dup, 1) := by decide +kernel
theorem d4_35 : decode jdk_35_method_24_code 35 = .ok (.lload_n 0, 1) := by decide +kernel
theorem d4_36 : decode jdk_35_method_24_code 36 = .ok (.invokespecial 240, 3) := by decide +kernel
theorem d4_39 : decode jdk_35_method_24_code 39 = .ok (.areturn, 1) := by decide +kernel
theorem pn_4 : plainName "java/lang/Long" = true := by first | (simp [plainName, overriddenIn]; done) | decide +kernel
theorem d5_0 : decode jdk_35_method_26_code 0 = .ok (.aload_n 0, 1) := by decide +kernel
theorem d5_1 : decode jdk_35_method_26_code 1 = .ok (.invokespecial 270, 3) := by decide +kernel
theorem d5_4 : decode jdk_35_method_26_code 4 = .ok (.aload_n 0, 1) := by decide +kernel
theorem d5_5 : decode jdk_35_method_26_code 5 = .ok (.lload_n 1, 1) := by decide +kernel
theorem d5_6 : decode jdk_35_method_26_code 6 = .ok (.putfield 273, 3) := by decide +kernel
theorem d5_9 : decode jdk_35_method_26_code 9 = .ok (.return_, 1) := by decide +kernel
theorem pn_5 : plainName "java/lang/Long" = true := by first | (simp [plainName, overriddenIn]; done) | decide +kernel
theorem d6_0 : decode jdk_18_method_1_code 0 = .ok (.aload_n 0, 1) := by decide +kernel
theorem d6_1 : decode jdk_18_method_1_code 1 = .ok (.invokespecial 1, 3) := by decide +kernel
theorem d6_4 : decode jdk_18_method_1_code 4 = .ok (.return_, 1) := by decide +kernel
theorem pn_6 : plainName "java/lang/Number" = true := by first | (simp [plainName, overriddenIn]; done) | decide +kernel
theorem pn_0 : plainName "com/example/umpteenth_copy/umpteenthcopy/engine/FingerprintEqualsPinLaw" = true := by first | (simp [plainName, overriddenIn]; done) | decide +kernel
theorem ef_rm1 (m : MethodId) (x0 : Addr) (x1 : Int64)  : entryFrame m #[(.ref x0), (.long x1)] 3 = mkF m 0 #[.val (.ref x0), .val (.long x1), .second] [] := by first | (simp [entryFrame, mkF, argsToLocals, Value.category]; done) | rfl
set_option maxRecDepth 65536 in
set_option maxHeartbeats 40000000 in
theorem rm1 (l : Launch) (Z : State) (a0 : Array Value) (hw : ∀ d ∈ tables_1, d.before a0 Z = true) (ws : List Jvm.Cond) (a1 : Addr) (v0 : Int64) (h0 : Heap) (n0 : Nat) (Z0 : n0 ≤ h0.size) (F1 : Fld Z h0 a1 "com/example/umpteenth_copy/umpteenthcopy/engine/Fingerprint" "bits" "J" (.long (0 : Int64))) (E1 : Exa Z h0 a1 "com/example/umpteenth_copy/umpteenthcopy/engine/Fingerprint") (g1 : n0 ≤ a1) :
    MetFree l (⟨"com/example/umpteenth_copy/umpteenthcopy/engine/Fingerprint", "<init>", "(J)V"⟩ : MethodName) (head1 (Jvm.Cond.code (⟨"com/example/umpteenth_copy/umpteenthcopy/engine/Fingerprint", "<init>", "(J)V"⟩ : MethodName) prog_12_method_1_code 3 none :: ws) ({ frames := 1, cells := 0, slots := 0, locals := 12 } : Room)) (fun a U => a = #[(.ref a1), (.long v0)] ∧ Z.Warmed39 U.vm ∧ U.heap = h0) (fun _ _ _ _ _ => True) (fun _ U o U' => ∃ v L, o = .returned v ∧ Q1 Z a1 v0 h0 n0 v U'.heap L ∧ FrameEnd U o U' L ({ frames := 1, cells := 0, slots := 0, locals := 12 } : Room).cells ({ frames := 1, cells := 0, slots := 0, locals := 12 } : Room).slots) := by
  refine MetFree.of_bodySF (plainFor_of_name pn_1) hisR ?_
  intro p e s m args below meth c s₁ Bd hml0 hP hK
  obtain ⟨rfl, hZ, hh⟩ := hP
  have hx := Bd.exec
  have hby := Bd.bytes
  have hml : c.maxLocals = 3 := hml0
  have hown : s.vm.findClass "com/example/umpteenth_copy/umpteenthcopy/engine/Fingerprint" = some m.cls := findClass_of_methodNamed Bd.named
  have hnm := (name_of_methodNamed Bd.named Bd.method).1
  have X0 : Stand p l e ({ frames := 1, cells := 0, slots := 0, locals := 12 } : Room) s m #[(.ref a1), (.long v0)] below meth c s₁ [] 0 0 := Stand.of_body Bd
  have e0 : s₁.heap = h0 := by rw [← hh, Bd.state]; rfl
  have N0 := Fr.nil n0
  refine Ends.st (tb := p.tables) (e := e) (below := below) (S' := s₁.setTop (mkF m 0 #[.val (.ref a1), .val (.long v0), .second] [])) (fun t k => castTop (ef_rm1 m a1 v0) k) ?_
  refine Ends.st (S' := s₁.setTop (mkF m 1 #[.val (.ref a1), .val (.long v0), .second] [(.ref a1)])) (fun _ k => XS.aloadN X0.here hx rfl (hb hby d1_0) rfl rfl k) ?_
  obtain ⟨T1, X1, e1, st1⟩ := initO X0 hx hZ hown (hw _ (List.mem_of_getElem? (i := 6) rfl)) (hw _ (List.mem_of_getElem? (i := 7) rfl)) (hw _ (List.mem_of_getElem? (i := 8) rfl)) e0 (g := (mkF m 1 #[.val (.ref a1), .val (.long v0), .second] [(.ref a1)])) rfl (by rw [hml]; rfl) rfl (hb hby d1_1) (by decide) (W := 0) (by show 2 * 0 + _ ≤ _; exact Nat.le_of_eq rfl) (by decide)
  refine Ends.st (S' := T1.setTop (mkF m 4 #[.val (.ref a1), .val (.long v0), .second] [])) (fun _ k => st1 _ k) ?_
  refine Ends.st (S' := T1.setTop (mkF m 5 #[.val (.ref a1), .val (.long v0), .second] [(.ref a1)])) (fun _ k => XS.aloadN X1.here hx rfl (hb hby d1_4) rfl rfl k) ?_
  refine Ends.st (S' := T1.setTop (mkF m 6 #[.val (.ref a1), .val (.long v0), .second] [(.long v0), (.ref a1)])) (fun _ k => XS.lloadN X1.here hx rfl (hb hby d1_5) rfl k) ?_
  obtain ⟨T2, h2, X2, e2, W2, st2⟩ := putF X1 hx hZ hown (host := "") (Or.inl (hw _ (List.mem_of_getElem? (i := 9) rfl))) Via.refl e1 F1 E1 (Or.inr ⟨(hw _ (List.mem_of_getElem? (i := 10) rfl)), rfl, hnm⟩) (hw _ (List.mem_of_getElem? (i := 1) rfl)) (ty := .long) (by decide) rfl rfl (g := (mkF m 6 #[.val (.ref a1), .val (.long v0), .second] [(.long v0), (.ref a1)])) rfl rfl (hb hby d1_6)
  have f3 := E1.wr W2
  have f4 := Nat.le_trans Z0 (Keep.of_wr W2).1
  have f5 := (Keep.refl h0 [a1]).wr W2 (Or.inl (by simp))
  have Fw2 := F1.same W2
  have N2 := Fr.snoc X2 N0 g1
  refine Ends.st (S' := T2.setTop (mkF m 9 #[.val (.ref a1), .val (.long v0), .second] [])) (fun _ k => st2 _ k) ?_
  obtain ⟨fs, hr, hrun, hended, hW, hsame⟩ := X2.leave (v := none) (fun _ => rfl)
  exact ⟨_, _, X2.returnOut hx Bd.returns (hb hby d1_9) hr, hrun, hended, _, _, rfl, (by show Q1 Z a1 v0 h0 n0 _ T2.heap _; rw [e2]; exact ⟨rfl, N2, f5, Fw2⟩), ⟨_, rfl⟩, hW, hsame.mono (by decide) (by decide)⟩
theorem ef_rm3a (m : MethodId) (x0 : Addr) (x1 : Addr)  : entryFrame m #[(.ref x0), (.ref x1)] 3 = mkF m 0 #[.val (.ref x0), .val (.ref x1), .unset] [] := by first | (simp [entryFrame, mkF, argsToLocals, Value.category]; done) | rfl
set_option maxRecDepth 65536 in
set_option maxHeartbeats 40000000 in
theorem rm3a (l : Launch) (Z : State) (a0 : Array Value) (hw : ∀ d ∈ tables_1, d.before a0 Z = true) (ws : List Jvm.Cond) (a1 : Addr) (a2 : Addr) (v1 : Int64) (v2 : Int64) (h0 : Heap) (n0 : Nat) (Z0 : n0 ≤ h0.size) (F1 : Fld Z h0 a1 "com/example/umpteenth_copy/umpteenthcopy/engine/Fingerprint" "bits" "J" (.long v1)) (F2 : Fld Z h0 a2 "com/example/umpteenth_copy/umpteenthcopy/engine/Fingerprint" "bits" "J" (.long v2)) (E2 : Exa Z h0 a2 "com/example/umpteenth_copy/umpteenthcopy/engine/Fingerprint") :
    MetFree l (⟨"com/example/umpteenth_copy/umpteenthcopy/engine/Fingerprint", "equals", "(Ljava/lang/Object;)Z"⟩ : MethodName) (head1 (Jvm.Cond.code (⟨"com/example/umpteenth_copy/umpteenthcopy/engine/Fingerprint", "equals", "(Ljava/lang/Object;)Z"⟩ : MethodName) prog_12_method_6_code 3 (some .boolean) :: ws) ({ frames := 0, cells := 0, slots := 0, locals := 0 } : Room)) (fun a U => a = #[(.ref a1), (.ref a2)] ∧ Z.Warmed39 U.vm ∧ U.heap = h0) (fun _ _ _ _ _ => True) (fun _ U o U' => ∃ v L, o = .returned v ∧ Q3 Z (if v2 = v1 then 1 else 0) h0 n0 v U'.heap L ∧ FrameEnd U o U' L ({ frames := 0, cells := 0, slots := 0, locals := 0 } : Room).cells ({ frames := 0, cells := 0, slots := 0, locals := 0 } : Room).slots) := by
  refine MetFree.of_bodySF (plainFor_of_name pn_3) hisR ?_
  intro p e s m args below meth c s₁ Bd hml0 hP hK
  obtain ⟨rfl, hZ, hh⟩ := hP
  have hx := Bd.exec
  have hby := Bd.bytes
  have hml : c.maxLocals = 3 := hml0
  have hown : s.vm.findClass "com/example/umpteenth_copy/umpteenthcopy/engine/Fingerprint" = some m.cls := findClass_of_methodNamed Bd.named
  have hnm := (name_of_methodNamed Bd.named Bd.method).1
  have X0 : Stand p l e ({ frames := 0, cells := 0, slots := 0, locals := 0 } : Room) s m #[(.ref a1), (.ref a2)] below meth c s₁ [] 0 0 := Stand.of_body Bd
  have e0 : s₁.heap = h0 := by rw [← hh, Bd.state]; rfl
  have N0 := Fr.nil n0
  refine Ends.st (tb := p.tables) (e := e) (below := below) (S' := s₁.setTop (mkF m 0 #[.val (.ref a1), .val (.ref a2), .unset] [])) (fun t k => castTop (ef_rm3a m a1 a2) k) ?_
  refine Ends.st (S' := s₁.setTop (mkF m 1 #[.val (.ref a1), .val (.ref a2), .unset] [(.ref a2)])) (fun _ k => XS.aloadN X0.here hx rfl (hb hby d3_0) rfl rfl k) ?_
  obtain ⟨T1, X1, e1, st1⟩ := instY X0 hx hZ hown (hw _ (List.mem_of_getElem? (i := 16) rfl)) e0 (Ins.self E2) (g := (mkF m 1 #[.val (.ref a1), .val (.ref a2), .unset] [(.ref a2)])) rfl rfl (hb hby d3_1)
  refine Ends.st (S' := T1.setTop (mkF m 4 #[.val (.ref a1), .val (.ref a2), .unset] [(.int (1 : Int32))])) (fun _ k => st1 _ k) ?_
  refine Ends.st (S' := T1.setTop (mkF m 7 #[.val (.ref a1), .val (.ref a2), .unset] [])) (fun _ k => XS.ifNo X1.here hx rfl (hb hby d3_4) rfl ((if0 _ _).trans (feq (by decide : ¬ ((1 : Int32) = (0 : Int32)))).1) k) ?_
  refine Ends.st (S' := T1.setTop (mkF m 8 #[.val (.ref a1), .val (.ref a2), .unset] [(.ref a2)])) (fun _ k => XS.aloadN X1.here hx rfl (hb hby d3_7) rfl rfl k) ?_
  obtain ⟨T2, X2, e2, st2⟩ := castY X1 hx hZ hown (hw _ (List.mem_of_getElem? (i := 16) rfl)) e1 (Ins.self E2) (g := (mkF m 8 #[.val (.ref a1), .val (.ref a2), .unset] [(.ref a2)])) rfl rfl (hb hby d3_8)
  refine Ends.st (S' := T2.setTop (mkF m 11 #[.val (.ref a1), .val (.ref a2), .unset] [(.ref a2)])) (fun _ k => st2 _ k) ?_
  refine Ends.st (S' := T2.setTop (mkF m 12 #[.val (.ref a1), .val (.ref a2), .val (.ref a2)] [])) (fun _ k => XS.astoreN X2.here hx rfl (hb hby d3_11) rfl rfl (l' := #[.val (.ref a1), .val (.ref a2), .val (.ref a2)]) rfl k) ?_
  refine Ends.st (S' := T2.setTop (mkF m 13 #[.val (.ref a1), .val (.ref a2), .val (.ref a2)] [(.ref a2)])) (fun _ k => XS.aloadN X2.here hx rfl (hb hby d3_12) rfl rfl k) ?_
  obtain ⟨T3, X3, e3, st3⟩ := getF X2 hx hZ hown (host := "") (Or.inl (hw _ (List.mem_of_getElem? (i := 9) rfl))) Via.refl e2 (F2) (g := (mkF m 13 #[.val (.ref a1), .val (.ref a2), .val (.ref a2)] [(.ref a2)])) rfl rfl (hb hby d3_13)
  refine Ends.st (S' := T3.setTop (mkF m 16 #[.val (.ref a1), .val (.ref a2), .val (.ref a2)] [(.long v2)])) (fun _ k => st3 _ k) ?_
  refine Ends.st (S' := T3.setTop (mkF m 17 #[.val (.ref a1), .val (.ref a2), .val (.ref a2)] [(.ref a1), (.long v2)])) (fun _ k => XS.aloadN X3.here hx rfl (hb hby d3_16) rfl rfl k) ?_
  obtain ⟨T4, X4, e4, st4⟩ := getF X3 hx hZ hown (host := "") (Or.inl (hw _ (List.mem_of_getElem? (i := 9) rfl))) Via.refl e3 (F1) (g := (mkF m 17 #[.val (.ref a1), .val (.ref a2), .val (.ref a2)] [(.ref a1), (.long v2)])) rfl rfl (hb hby d3_17)
  refine Ends.st (S' := T4.setTop (mkF m 20 #[.val (.ref a1), .val (.ref a2), .val (.ref a2)] [(.long v1), (.long v2)])) (fun _ k => st4 _ k) ?_
  refine Ends.st (S' := T4.setTop (mkF m 21 #[.val (.ref a1), .val (.ref a2), .val (.ref a2)] [(.int (lcmpW v2 v1))])) (fun _ k => XS.lcmp X4.here hx rfl (hb hby d3_20) rfl k) ?_
  by_cases hc5 : (lcmpW v2 v1) = (0 : Int32)
  · refine Ends.st (S' := T4.setTop (mkF m 24 #[.val (.ref a1), .val (.ref a2), .val (.ref a2)] [])) (fun _ k => XS.ifNo X4.here hx rfl (hb hby d3_21) rfl ((if0 _ _).trans (teq hc5).2) k) ?_
    refine Ends.st (S' := T4.setTop (mkF m 25 #[.val (.ref a1), .val (.ref a2), .val (.ref a2)] [(.int (1 : Int32))])) (fun _ k => XS.iconst X4.here hx rfl (hb hby d3_24) k) ?_
    refine Ends.st (S' := T4.setTop (mkF m 29 #[.val (.ref a1), .val (.ref a2), .val (.ref a2)] [(.int (1 : Int32))])) (fun _ k => XS.goto X4.here hx rfl (pc0 := 25) (pc' := 29) rfl (hb hby d3_25) (by decide) (by decide) k) ?_
    obtain ⟨fs, hr, hrun, hended, hW, hsame⟩ := X4.leave (v := some (.int (1 : Int32))) (fun h => by rw [Bd.returns] at h; cases h)
    exact ⟨_, _, retN X4 hx (t := .boolean) Bd.returns (by simp) (hb hby d3_29) hr, hrun, hended, _, _, rfl, (by show Q3 Z (if v2 = v1 then 1 else 0) h0 n0 _ T4.heap _; rw [e4]; exact ⟨(by rw [lw_eq] at hc5; simp [hc5]), N0, rfl⟩), ⟨_, rfl⟩, hW, hsame.mono (by decide) (by decide)⟩
  · refine Ends.st (S' := T4.setTop (mkF m 28 #[.val (.ref a1), .val (.ref a2), .val (.ref a2)] [])) (fun _ k => XS.ifYes X4.here hx rfl (pc0 := 21) (pc' := 28) rfl (hb hby d3_21) rfl ((if0 _ _).trans (feq hc5).2) (by decide) (by decide) k) ?_
    refine Ends.st (S' := T4.setTop (mkF m 29 #[.val (.ref a1), .val (.ref a2), .val (.ref a2)] [(.int (0 : Int32))])) (fun _ k => XS.iconst X4.here hx rfl (hb hby d3_28) k) ?_
    obtain ⟨fs, hr, hrun, hended, hW, hsame⟩ := X4.leave (v := some (.int (0 : Int32))) (fun h => by rw [Bd.returns] at h; cases h)
    exact ⟨_, _, retN X4 hx (t := .boolean) Bd.returns (by simp) (hb hby d3_29) hr, hrun, hended, _, _, rfl, (by show Q3 Z (if v2 = v1 then 1 else 0) h0 n0 _ T4.heap _; rw [e4]; exact ⟨(by rw [lw_eq] at hc5; simp [hc5]), N0, rfl⟩), ⟨_, rfl⟩, hW, hsame.mono (by decide) (by decide)⟩
theorem ef_rm3b (m : MethodId) (x0 : Addr)  : entryFrame m #[(.ref x0), .null] 3 = mkF m 0 #[.val (.ref x0), .val .null, .unset] [] := by first | (simp [entryFrame, mkF, argsToLocals, Value.category]; done) | rfl
set_option maxRecDepth 65536 in
set_option maxHeartbeats 40000000 in
theorem rm3b (l : Launch) (Z : State) (a0 : Array Value) (hw : ∀ d ∈ tables_1, d.before a0 Z = true) (ws : List Jvm.Cond) (a1 : Addr) (h0 : Heap) (n0 : Nat) (Z0 : n0 ≤ h0.size) :
    MetFree l (⟨"com/example/umpteenth_copy/umpteenthcopy/engine/Fingerprint", "equals", "(Ljava/lang/Object;)Z"⟩ : MethodName) (head1 (Jvm.Cond.code (⟨"com/example/umpteenth_copy/umpteenthcopy/engine/Fingerprint", "equals", "(Ljava/lang/Object;)Z"⟩ : MethodName) prog_12_method_6_code 3 (some .boolean) :: ws) ({ frames := 0, cells := 0, slots := 0, locals := 0 } : Room)) (fun a U => a = #[(.ref a1), .null] ∧ Z.Warmed39 U.vm ∧ U.heap = h0) (fun _ _ _ _ _ => True) (fun _ U o U' => ∃ v L, o = .returned v ∧ Q3 Z 0 h0 n0 v U'.heap L ∧ FrameEnd U o U' L ({ frames := 0, cells := 0, slots := 0, locals := 0 } : Room).cells ({ frames := 0, cells := 0, slots := 0, locals := 0 } : Room).slots) := by
  refine MetFree.of_bodySF (plainFor_of_name pn_3) hisR ?_
  intro p e s m args below meth c s₁ Bd hml0 hP hK
  obtain ⟨rfl, hZ, hh⟩ := hP
  have hx := Bd.exec
  have hby := Bd.bytes
  have hml : c.maxLocals = 3 := hml0
  have hown : s.vm.findClass "com/example/umpteenth_copy/umpteenthcopy/engine/Fingerprint" = some m.cls := findClass_of_methodNamed Bd.named
  have hnm := (name_of_methodNamed Bd.named Bd.method).1
  have X0 : Stand p l e ({ frames := 0, cells := 0, slots := 0, locals := 0 } : Room) s m #[(.ref a1), .null] below meth c s₁ [] 0 0 := Stand.of_body Bd
  have e0 : s₁.heap = h0 := by rw [← hh, Bd.state]; rfl
  have N0 := Fr.nil n0
  refine Ends.st (tb := p.tables) (e := e) (below := below) (S' := s₁.setTop (mkF m 0 #[.val (.ref a1), .val .null, .unset] [])) (fun t k => castTop (ef_rm3b m a1) k) ?_
  refine Ends.st (S' := s₁.setTop (mkF m 1 #[.val (.ref a1), .val .null, .unset] [.null])) (fun _ k => XS.aloadN X0.here hx rfl (hb hby d3_0) rfl rfl k) ?_
  refine Ends.st (S' := s₁.setTop (mkF m 4 #[.val (.ref a1), .val .null, .unset] [(.int (0 : Int32))])) (fun _ k => X0.instanceofNull hx (g := (mkF m 1 #[.val (.ref a1), .val .null, .unset] [.null])) rfl rfl (hb hby d3_1) _ k) ?_
  refine Ends.st (S' := s₁.setTop (mkF m 28 #[.val (.ref a1), .val .null, .unset] [])) (fun _ k => XS.ifYes X0.here hx rfl (pc0 := 4) (pc' := 28) rfl (hb hby d3_4) rfl ((if0 _ _).trans (teq (by decide : (0 : Int32) = (0 : Int32))).1) (by decide) (by decide) k) ?_
  refine Ends.st (S' := s₁.setTop (mkF m 29 #[.val (.ref a1), .val .null, .unset] [(.int (0 : Int32))])) (fun _ k => XS.iconst X0.here hx rfl (hb hby d3_28) k) ?_
  obtain ⟨fs, hr, hrun, hended, hW, hsame⟩ := X0.leave (v := some (.int (0 : Int32))) (fun h => by rw [Bd.returns] at h; cases h)
  exact ⟨_, _, retN X0 hx (t := .boolean) Bd.returns (by simp) (hb hby d3_29) hr, hrun, hended, _, _, rfl, (by show Q3 Z 0 h0 n0 _ s₁.heap _; rw [e0]; exact ⟨rfl, N0, rfl⟩), ⟨_, rfl⟩, hW, hsame.mono (by decide) (by decide)⟩
theorem ef_rm3c (m : MethodId) (x0 : Addr) (x1 : Addr)  : entryFrame m #[(.ref x0), (.ref x1)] 3 = mkF m 0 #[.val (.ref x0), .val (.ref x1), .unset] [] := by first | (simp [entryFrame, mkF, argsToLocals, Value.category]; done) | rfl
set_option maxRecDepth 65536 in
set_option maxHeartbeats 40000000 in
theorem rm3c (l : Launch) (Z : State) (a0 : Array Value) (hw : ∀ d ∈ tables_1, d.before a0 Z = true) (ws : List Jvm.Cond) (a1 : Addr) (a2 : Addr) (h0 : Heap) (n0 : Nat) (Z0 : n0 ≤ h0.size) (E2 : Exa Z h0 a2 "java/lang/Long") :
    MetFree l (⟨"com/example/umpteenth_copy/umpteenthcopy/engine/Fingerprint", "equals", "(Ljava/lang/Object;)Z"⟩ : MethodName) (head1 (Jvm.Cond.code (⟨"com/example/umpteenth_copy/umpteenthcopy/engine/Fingerprint", "equals", "(Ljava/lang/Object;)Z"⟩ : MethodName) prog_12_method_6_code 3 (some .boolean) :: ws) ({ frames := 0, cells := 0, slots := 0, locals := 0 } : Room)) (fun a U => a = #[(.ref a1), (.ref a2)] ∧ Z.Warmed39 U.vm ∧ U.heap = h0) (fun _ _ _ _ _ => True) (fun _ U o U' => ∃ v L, o = .returned v ∧ Q3 Z 0 h0 n0 v U'.heap L ∧ FrameEnd U o U' L ({ frames := 0, cells := 0, slots := 0, locals := 0 } : Room).cells ({ frames := 0, cells := 0, slots := 0, locals := 0 } : Room).slots) := by
  refine MetFree.of_bodySF (plainFor_of_name pn_3) hisR ?_
  intro p e s m args below meth c s₁ Bd hml0 hP hK
  obtain ⟨rfl, hZ, hh⟩ := hP
  have hx := Bd.exec
  have hby := Bd.bytes
  have hml : c.maxLocals = 3 := hml0
  have hown : s.vm.findClass "com/example/umpteenth_copy/umpteenthcopy/engine/Fingerprint" = some m.cls := findClass_of_methodNamed Bd.named
  have hnm := (name_of_methodNamed Bd.named Bd.method).1
  have X0 : Stand p l e ({ frames := 0, cells := 0, slots := 0, locals := 0 } : Room) s m #[(.ref a1), (.ref a2)] below meth c s₁ [] 0 0 := Stand.of_body Bd
  have e0 : s₁.heap = h0 := by rw [← hh, Bd.state]; rfl
  have N0 := Fr.nil n0
  refine Ends.st (tb := p.tables) (e := e) (below := below) (S' := s₁.setTop (mkF m 0 #[.val (.ref a1), .val (.ref a2), .unset] [])) (fun t k => castTop (ef_rm3c m a1 a2) k) ?_
  refine Ends.st (S' := s₁.setTop (mkF m 1 #[.val (.ref a1), .val (.ref a2), .unset] [(.ref a2)])) (fun _ k => XS.aloadN X0.here hx rfl (hb hby d3_0) rfl rfl k) ?_
  obtain ⟨T1, X1, e1, st1⟩ := instNo X0 hx hZ hown (hw _ (List.mem_of_getElem? (i := 16) rfl)) e0 E2 (own_no (hw _ (List.mem_of_getElem? (i := 26) rfl)) (hw _ (List.mem_of_getElem? (i := 1) rfl)) (NS.step (hw _ (List.mem_of_getElem? (i := 26) rfl)) (NS.step (hw _ (List.mem_of_getElem? (i := 27) rfl)) (own_root (hw _ (List.mem_of_getElem? (i := 28) rfl)) (hw _ (List.mem_of_getElem? (i := 1) rfl)) (by decide)) (by decide)) (by decide)) (by decide)) (g := (mkF m 1 #[.val (.ref a1), .val (.ref a2), .unset] [(.ref a2)])) rfl rfl (hb hby d3_1)
  refine Ends.st (S' := T1.setTop (mkF m 4 #[.val (.ref a1), .val (.ref a2), .unset] [(.int (0 : Int32))])) (fun _ k => st1 _ k) ?_
  refine Ends.st (S' := T1.setTop (mkF m 28 #[.val (.ref a1), .val (.ref a2), .unset] [])) (fun _ k => XS.ifYes X1.here hx rfl (pc0 := 4) (pc' := 28) rfl (hb hby d3_4) rfl ((if0 _ _).trans (teq (by decide : (0 : Int32) = (0 : Int32))).1) (by decide) (by decide) k) ?_
  refine Ends.st (S' := T1.setTop (mkF m 29 #[.val (.ref a1), .val (.ref a2), .unset] [(.int (0 : Int32))])) (fun _ k => XS.iconst X1.here hx rfl (hb hby d3_28) k) ?_
  obtain ⟨fs, hr, hrun, hended, hW, hsame⟩ := X1.leave (v := some (.int (0 : Int32))) (fun h => by rw [Bd.returns] at h; cases h)
  exact ⟨_, _, retN X1 hx (t := .boolean) Bd.returns (by simp) (hb hby d3_29) hr, hrun, hended, _, _, rfl, (by show Q3 Z 0 h0 n0 _ T1.heap _; rw [e1]; exact ⟨rfl, N0, rfl⟩), ⟨_, rfl⟩, hW, hsame.mono (by decide) (by decide)⟩
theorem ef_rm6 (m : MethodId) (x0 : Addr)  : entryFrame m #[(.ref x0)] 1 = mkF m 0 #[.val (.ref x0)] [] := by first | (simp [entryFrame, mkF, argsToLocals, Value.category]; done) | rfl
set_option maxRecDepth 65536 in
set_option maxHeartbeats 40000000 in
theorem rm6 (l : Launch) (Z : State) (a0 : Array Value) (hw : ∀ d ∈ tables_1, d.before a0 Z = true) (ws : List Jvm.Cond) (a1 : Addr) (h0 : Heap) (n0 : Nat) (Z0 : n0 ≤ h0.size) :
    MetFree l (⟨"java/lang/Number", "<init>", "()V"⟩ : MethodName) (head1 (Jvm.Cond.code (⟨"java/lang/Number", "<init>", "()V"⟩ : MethodName) jdk_18_method_1_code 1 none :: ws) ({ frames := 1, cells := 0, slots := 0, locals := 12 } : Room)) (fun a U => a = #[(.ref a1)] ∧ Z.Warmed39 U.vm ∧ U.heap = h0) (fun _ _ _ _ _ => True) (fun _ U o U' => ∃ v L, o = .returned v ∧ Q6 Z  h0 n0 v U'.heap L ∧ FrameEnd U o U' L ({ frames := 1, cells := 0, slots := 0, locals := 12 } : Room).cells ({ frames := 1, cells := 0, slots := 0, locals := 12 } : Room).slots) := by
  refine MetFree.of_bodySF (plainFor_of_name pn_6) hisR ?_
  intro p e s m args below meth c s₁ Bd hml0 hP hK
  obtain ⟨rfl, hZ, hh⟩ := hP
  have hx := Bd.exec
  have hby := Bd.bytes
  have hml : c.maxLocals = 1 := hml0
  have hown : s.vm.findClass "java/lang/Number" = some m.cls := findClass_of_methodNamed Bd.named
  have hnm := (name_of_methodNamed Bd.named Bd.method).1
  have X0 : Stand p l e ({ frames := 1, cells := 0, slots := 0, locals := 12 } : Room) s m #[(.ref a1)] below meth c s₁ [] 0 0 := Stand.of_body Bd
  have e0 : s₁.heap = h0 := by rw [← hh, Bd.state]; rfl
  have N0 := Fr.nil n0
  refine Ends.st (tb := p.tables) (e := e) (below := below) (S' := s₁.setTop (mkF m 0 #[.val (.ref a1)] [])) (fun t k => castTop (ef_rm6 m a1) k) ?_
  refine Ends.st (S' := s₁.setTop (mkF m 1 #[.val (.ref a1)] [(.ref a1)])) (fun _ k => XS.aloadN X0.here hx rfl (hb hby d6_0) rfl rfl k) ?_
  obtain ⟨T1, X1, e1, st1⟩ := initO X0 hx hZ hown (hw _ (List.mem_of_getElem? (i := 41) rfl)) (hw _ (List.mem_of_getElem? (i := 7) rfl)) (hw _ (List.mem_of_getElem? (i := 8) rfl)) e0 (g := (mkF m 1 #[.val (.ref a1)] [(.ref a1)])) rfl (by rw [hml]; rfl) rfl (hb hby d6_1) (by decide) (W := 0) (by show 2 * 0 + _ ≤ _; exact Nat.le_of_eq rfl) (by decide)
  refine Ends.st (S' := T1.setTop (mkF m 4 #[.val (.ref a1)] [])) (fun _ k => st1 _ k) ?_
  obtain ⟨fs, hr, hrun, hended, hW, hsame⟩ := X1.leave (v := none) (fun _ => rfl)
  exact ⟨_, _, X1.returnOut hx Bd.returns (hb hby d6_4) hr, hrun, hended, _, _, rfl, (by show Q6 Z  h0 n0 _ T1.heap _; rw [e1]; exact ⟨rfl, N0, rfl⟩), ⟨_, rfl⟩, hW, hsame.mono (by decide) (by decide)⟩
theorem ef_rm5 (m : MethodId) (x0 : Addr) (x1 : Int64)  : entryFrame m #[(.ref x0), (.long x1)] 3 = mkF m 0 #[.val (.ref x0), .val (.long x1), .second] [] := by first | (simp [entryFrame, mkF, argsToLocals, Value.category]; done) | rfl
set_option maxRecDepth 65536 in
set_option maxHeartbeats 40000000 in
theorem rm5 (l : Launch) (Z : State) (a0 : Array Value) (hw : ∀ d ∈ tables_1, d.before a0 Z = true) (ws : List Jvm.Cond) (a1 : Addr) (v0 : Int64) (h0 : Heap) (n0 : Nat) (Z0 : n0 ≤ h0.size) (F1 : Fld Z h0 a1 "java/lang/Long" "value" "J" (.long (0 : Int64))) (E1 : Exa Z h0 a1 "java/lang/Long") (g1 : n0 ≤ a1) :
    MetFree l (⟨"java/lang/Long", "<init>", "(J)V"⟩ : MethodName) (head1 (Jvm.Cond.code (⟨"java/lang/Long", "<init>", "(J)V"⟩ : MethodName) jdk_35_method_26_code 3 none :: ws) ({ frames := 2, cells := 0, slots := 0, locals := 24 } : Room)) (fun a U => a = #[(.ref a1), (.long v0)] ∧ Z.Warmed39 U.vm ∧ U.heap = h0) (fun _ _ _ _ _ => True) (fun _ U o U' => ∃ v L, o = .returned v ∧ Q5 Z a1 h0 n0 v U'.heap L ∧ FrameEnd U o U' L ({ frames := 2, cells := 0, slots := 0, locals := 24 } : Room).cells ({ frames := 2, cells := 0, slots := 0, locals := 24 } : Room).slots) := by
  refine MetFree.of_bodySF (plainFor_of_name pn_5) hisR ?_
  intro p e s m args below meth c s₁ Bd hml0 hP hK
  obtain ⟨rfl, hZ, hh⟩ := hP
  have hx := Bd.exec
  have hby := Bd.bytes
  have hml : c.maxLocals = 3 := hml0
  have hown : s.vm.findClass "java/lang/Long" = some m.cls := findClass_of_methodNamed Bd.named
  have hnm := (name_of_methodNamed Bd.named Bd.method).1
  have X0 : Stand p l e ({ frames := 2, cells := 0, slots := 0, locals := 24 } : Room) s m #[(.ref a1), (.long v0)] below meth c s₁ [] 0 0 := Stand.of_body Bd
  have e0 : s₁.heap = h0 := by rw [← hh, Bd.state]; rfl
  have N0 := Fr.nil n0
  refine Ends.st (tb := p.tables) (e := e) (below := below) (S' := s₁.setTop (mkF m 0 #[.val (.ref a1), .val (.long v0), .second] [])) (fun t k => castTop (ef_rm5 m a1 v0) k) ?_
  refine Ends.st (S' := s₁.setTop (mkF m 1 #[.val (.ref a1), .val (.long v0), .second] [(.ref a1)])) (fun _ k => XS.aloadN X0.here hx rfl (hb hby d5_0) rfl rfl k) ?_
  obtain ⟨_, _, ⟨T1, L1, k1, n1⟩, -, X1, ⟨Lc1, hQ1, l1, y1, z1⟩, st1⟩ := X0.specialBack hx (y := (⟨"java/lang/Number", "<init>", "()V"⟩ : MethodName)) rfl hown (mvT hZ (hw _ (List.mem_of_getElem? (i := 35) rfl))) (mvT hZ (hw _ (List.mem_of_getElem? (i := 36) rfl))) (mvT hZ (hw _ (List.mem_of_getElem? (i := 40) rfl))) (by decide) (backOf (W := 0) (rm6 l Z a0 hw [] a1 h0 n0 Z0) hZ (hw _ (List.mem_of_getElem? (i := 40) rfl)) (hw _ (List.mem_of_getElem? (i := 39) rfl)) (by decide) (by decide)) (g := (mkF m 1 #[.val (.ref a1), .val (.long v0), .second] [(.ref a1)])) rfl (by rw [hml]; rfl) (Steps.refl _) (a := a1) (argsL := []) (rest := []) (lenOf pd_0 rfl) rfl (by show 2 * 0 + _ ≤ _; exact Nat.le_of_eq rfl) (hb hby d5_1) (fun _ _ => ⟨rfl, e0, (by decide : 0 + 0 ≤ _), (by decide : 0 + 0 ≤ _)⟩)
  dsimp only [Pt.U, Pt.locs, Pt.cells, Pt.slots] at X1 l1 y1 z1 st1 hQ1
  subst l1 y1 z1
  obtain ⟨rfl, N1q, e1⟩ := hQ1
  have N1 := Fr.app N0 N1q
  refine Ends.st (S' := T1.setTop (mkF m 4 #[.val (.ref a1), .val (.long v0), .second] [])) (fun _ k => st1.trans k) ?_
  refine Ends.st (S' := T1.setTop (mkF m 5 #[.val (.ref a1), .val (.long v0), .second] [(.ref a1)])) (fun _ k => XS.aloadN X1.here hx rfl (hb hby d5_4) rfl rfl k) ?_
  refine Ends.st (S' := T1.setTop (mkF m 6 #[.val (.ref a1), .val (.long v0), .second] [(.long v0), (.ref a1)])) (fun _ k => XS.lloadN X1.here hx rfl (hb hby d5_5) rfl k) ?_
  obtain ⟨T2, h2, X2, e2, W2, st2⟩ := putF X1 hx hZ hown (host := "") (Or.inl (hw _ (List.mem_of_getElem? (i := 42) rfl))) Via.refl e1 F1 E1 (Or.inr ⟨(hw _ (List.mem_of_getElem? (i := 43) rfl)), rfl, hnm⟩) (hw _ (List.mem_of_getElem? (i := 30) rfl)) (ty := .long) (by decide) rfl rfl (g := (mkF m 6 #[.val (.ref a1), .val (.long v0), .second] [(.long v0), (.ref a1)])) rfl rfl (hb hby d5_6)
  have f3 := E1.wr W2
  have f4 := Nat.le_trans Z0 (Keep.of_wr W2).1
  have f5 := (Keep.refl h0 [a1]).wr W2 (Or.inl (by simp))
  have Fw2 := F1.same W2
  have N2 := Fr.snoc X2 N1 g1
  refine Ends.st (S' := T2.setTop (mkF m 9 #[.val (.ref a1), .val (.long v0), .second] [])) (fun _ k => st2 _ k) ?_
  obtain ⟨fs, hr, hrun, hended, hW, hsame⟩ := X2.leave (v := none) (fun _ => rfl)
  exact ⟨_, _, X2.returnOut hx Bd.returns (hb hby d5_9) hr, hrun, hended, _, _, rfl, (by show Q5 Z a1 h0 n0 _ T2.heap _; rw [e2]; exact ⟨rfl, N2, f5⟩), ⟨_, rfl⟩, hW, hsame.mono (by decide) (by decide)⟩
theorem ef_rm4 (m : MethodId) (x0 : Int64)  : entryFrame m #[(.long x0)] 3 = mkF m 0 #[.val (.long x0), .second, .unset] [] := by first | (simp [entryFrame, mkF, argsToLocals, Value.category]; done) | rfl
set_option maxRecDepth 65536 in
set_option maxHeartbeats 40000000 in
theorem rm4 (l : Launch) (Z : State) (a0 : Array Value) (hw : ∀ d ∈ tables_1, d.before a0 Z = true) (ws : List Jvm.Cond) (v0 : Int64) (ca : Addr) (cl : Cell) (h0 : Heap) (n0 : Nat) (Z0 : n0 ≤ h0.size) (O0 : Old Z n0 h0) (SC : Sta Z Z.heap "java/lang/Long$LongCache" "cache" "[Ljava/lang/Long;" (.ref ca)) (AC : Arr Z Z.heap ca cl (.object "java/lang/Long")) (hsz : cl.slots.size = 256) (HC : ∀ i, i < 256 → ∃ y, cl.slots[i]? = some (.ref y) ∧ Exa Z Z.heap y "java/lang/Long") :
    MetFree l (⟨"java/lang/Long", "valueOf", "(J)Ljava/lang/Long;"⟩ : MethodName) (head1 (Jvm.Cond.code (⟨"java/lang/Long", "valueOf", "(J)Ljava/lang/Long;"⟩ : MethodName) jdk_35_method_24_code 3 (some (.object "java/lang/Long")) :: ws) ({ frames := 3, cells := 1, slots := 1, locals := 39 } : Room)) (fun a U => a = #[(.long v0)] ∧ Z.Warmed39 U.vm ∧ U.heap = h0) (fun _ _ _ _ _ => True) (fun _ U o U' => ∃ v L, o = .returned v ∧ Q4 Z  h0 n0 v U'.heap L ∧ FrameEnd U o U' L ({ frames := 3, cells := 1, slots := 1, locals := 39 } : Room).cells ({ frames := 3, cells := 1, slots := 1, locals := 39 } : Room).slots) := by
  refine MetFree.of_bodySF (plainFor_of_name pn_4) hisR ?_
  intro p e s m args below meth c s₁ Bd hml0 hP hK
  obtain ⟨rfl, hZ, hh⟩ := hP
  have hx := Bd.exec
  have hby := Bd.bytes
  have hml : c.maxLocals = 3 := hml0
  have hown : s.vm.findClass "java/lang/Long" = some m.cls := findClass_of_methodNamed Bd.named
  have hnm := (name_of_methodNamed Bd.named Bd.method).1
  have X0 : Stand p l e ({ frames := 3, cells := 1, slots := 1, locals := 39 } : Room) s m #[(.long v0)] below meth c s₁ [] 0 0 := Stand.of_body Bd
  have e0 : s₁.heap = h0 := by rw [← hh, Bd.state]; rfl
  have N0 := Fr.nil n0
  refine Ends.st (tb := p.tables) (e := e) (below := below) (S' := s₁.setTop (mkF m 0 #[.val (.long v0), .second, .unset] [])) (fun t k => castTop (ef_rm4 m v0) k) ?_
  refine Ends.st (S' := s₁.setTop (mkF m 3 #[.val (.long v0), .second, .unset] [(.int (128 : Int32))])) (fun _ k => XS.sipush X0.here hx rfl (hb hby d4_0) k) ?_
  refine Ends.st (S' := s₁.setTop (mkF m 4 #[.val (.long v0), .second, .val (.int (128 : Int32))] [])) (fun _ k => XS.istoreN X0.here hx rfl (hb hby d4_3) rfl (l' := #[.val (.long v0), .second, .val (.int (128 : Int32))]) rfl k) ?_
  refine Ends.st (S' := s₁.setTop (mkF m 5 #[.val (.long v0), .second, .val (.int (128 : Int32))] [(.long v0)])) (fun _ k => XS.lloadN X0.here hx rfl (hb hby d4_4) rfl k) ?_
  refine Ends.st (S' := s₁.setTop (mkF m 8 #[.val (.long v0), .second, .val (.int (128 : Int32))] [(.long (-128 : Int64)), (.long v0)])) (fun _ k => X0.ldc2Long hx hown (mvT hZ (hw _ (List.mem_of_getElem? (i := 22) rfl))) (g := (mkF m 5 #[.val (.long v0), .second, .val (.int (128 : Int32))] [(.long v0)])) rfl (hb hby d4_5) _ k) ?_
  refine Ends.st (S' := s₁.setTop (mkF m 9 #[.val (.long v0), .second, .val (.int (128 : Int32))] [(.int (lcmpW v0 (-128 : Int64)))])) (fun _ k => XS.lcmp X0.here hx rfl (hb hby d4_8) rfl k) ?_
  by_cases hc1 : (lcmpW v0 (-128 : Int64)) < (0 : Int32)
  · refine Ends.st (S' := s₁.setTop (mkF m 31 #[.val (.long v0), .second, .val (.int (128 : Int32))] [])) (fun _ k => XS.ifYes X0.here hx rfl (pc0 := 9) (pc' := 31) rfl (hb hby d4_9) rfl ((if0 _ _).trans (tlt hc1).1) (by decide) (by decide) k) ?_
    obtain ⟨T2, h2, X2, e2, E2, A2, D2, -, st2⟩ := newO X0 hx hZ hown (hw _ (List.mem_of_getElem? (i := 29) rfl)) (hw _ (List.mem_of_getElem? (i := 30) rfl)) (hw _ (List.mem_of_getElem? (i := 20) rfl)) e0 (g := (mkF m 31 #[.val (.long v0), .second, .val (.int (128 : Int32))] [])) rfl (hb hby d4_31) (by decide) (by decide)
    obtain ⟨b2, g2⟩ : ∃ z, z = h0.size := ⟨_, rfl⟩
    rw [← g2] at A2 D2 st2
    have g_b2 : n0 ≤ b2 := Nat.le_trans Z0 (Nat.le_of_eq g2.symm)
    have sz_b2 : h0.size ≤ b2 := Nat.le_trans (Keep.refl h0 []).1 (Nat.le_of_eq g2.symm)
    have f3 := Nat.le_trans Z0 E2.1
    have f4 := (Keep.refl h0 []).ext E2
    have F5 : Fld Z h2 b2 "java/lang/Long" "value" "J" (.long (0 : Int64)) := D2 (Or.inr (hw _ (List.mem_of_getElem? (i := 43) rfl))) (ty := .long) (by decide)
    refine Ends.st (S' := T2.setTop (mkF m 34 #[.val (.long v0), .second, .val (.int (128 : Int32))] [(.ref b2)])) (fun _ k => st2 _ k) ?_
    refine Ends.st (S' := T2.setTop (mkF m 35 #[.val (.long v0), .second, .val (.int (128 : Int32))] [(.ref b2), (.ref b2)])) (fun _ k => XS.dup X2.here hx rfl (hb hby d4_34) rfl rfl k) ?_
    refine Ends.st (S' := T2.setTop (mkF m 36 #[.val (.long v0), .second, .val (.int (128 : Int32))] [(.long v0), (.ref b2), (.ref b2)])) (fun _ k => XS.lloadN X2.here hx rfl (hb hby d4_35) rfl k) ?_
    obtain ⟨_, _, ⟨T6, L6, k6, n6⟩, -, X6, ⟨Lc6, hQ6, l6, y6, z6⟩, st6⟩ := X2.specialBack hx (y := (⟨"java/lang/Long", "<init>", "(J)V"⟩ : MethodName)) rfl hown (mvT hZ (hw _ (List.mem_of_getElem? (i := 31) rfl))) (mvT hZ (hw _ (List.mem_of_getElem? (i := 32) rfl))) (mvT hZ (hw _ (List.mem_of_getElem? (i := 34) rfl))) (by decide) (backOf (W := 1) (rm5 l Z a0 hw [] b2 v0 h2 n0 f3 F5 A2 g_b2) hZ (hw _ (List.mem_of_getElem? (i := 34) rfl)) (hw _ (List.mem_of_getElem? (i := 20) rfl)) (by decide) (by decide)) (g := (mkF m 36 #[.val (.long v0), .second, .val (.int (128 : Int32))] [(.long v0), (.ref b2), (.ref b2)])) rfl (by rw [hml]; rfl) (Steps.refl _) (a := b2) (argsL := [(.long v0)]) (rest := [(.ref b2)]) (lenOf pd_1 rfl) rfl (by show 2 * 0 + _ ≤ _; exact Nat.le_of_eq rfl) (hb hby d4_36) (fun _ _ => ⟨rfl, e2, (by decide : 0 + 1 + 0 ≤ _), (by decide : 0 + 1 + 0 ≤ _)⟩)
    dsimp only [Pt.U, Pt.locs, Pt.cells, Pt.slots] at X6 l6 y6 z6 st6 hQ6
    subst l6 y6 z6
    obtain ⟨rfl, N6q, K6⟩ := hQ6
    have N6 := Fr.app N0 N6q
    have f7 := Nat.le_trans f3 K6.1
    have f8 := f4.trans K6 (allS (Or.inr sz_b2) all0)
    have f9 := A2.keep K6
    refine Ends.st (S' := T6.setTop (mkF m 39 #[.val (.long v0), .second, .val (.int (128 : Int32))] [(.ref b2)])) (fun _ k => st6.trans k) ?_
    obtain ⟨fs, hr, hrun, hended, hW, hsame⟩ := X6.leave (v := some (.ref b2)) (fun h => by rw [Bd.returns] at h; cases h)
    exact ⟨_, _, retRef X6 hx Bd.returns rfl rfl (hb hby d4_39) hr, hrun, hended, _, _, rfl, (by show Q4 Z  h0 n0 _ T6.heap _; exact ⟨b2, rfl, N6, f8, f9⟩), ⟨_, rfl⟩, hW, hsame.mono (by decide) (by decide)⟩
  · refine Ends.st (S' := s₁.setTop (mkF m 12 #[.val (.long v0), .second, .val (.int (128 : Int32))] [])) (fun _ k => XS.ifNo X0.here hx rfl (hb hby d4_9) rfl ((if0 _ _).trans (flt hc1).1) k) ?_
    refine Ends.st (S' := s₁.setTop (mkF m 13 #[.val (.long v0), .second, .val (.int (128 : Int32))] [(.long v0)])) (fun _ k => XS.lloadN X0.here hx rfl (hb hby d4_12) rfl k) ?_
    refine Ends.st (S' := s₁.setTop (mkF m 16 #[.val (.long v0), .second, .val (.int (128 : Int32))] [(.long (127 : Int64)), (.long v0)])) (fun _ k => X0.ldc2Long hx hown (mvT hZ (hw _ (List.mem_of_getElem? (i := 23) rfl))) (g := (mkF m 13 #[.val (.long v0), .second, .val (.int (128 : Int32))] [(.long v0)])) rfl (hb hby d4_13) _ k) ?_
    refine Ends.st (S' := s₁.setTop (mkF m 17 #[.val (.long v0), .second, .val (.int (128 : Int32))] [(.int (lcmpW v0 (127 : Int64)))])) (fun _ k => XS.lcmp X0.here hx rfl (hb hby d4_16) rfl k) ?_
    by_cases hc10 : (0 : Int32) < (lcmpW v0 (127 : Int64))
    · refine Ends.st (S' := s₁.setTop (mkF m 31 #[.val (.long v0), .second, .val (.int (128 : Int32))] [])) (fun _ k => XS.ifYes X0.here hx rfl (pc0 := 17) (pc' := 31) rfl (hb hby d4_17) rfl ((if0 _ _).trans (tlt hc10).2.2.1) (by decide) (by decide) k) ?_
      obtain ⟨T11, h11, X11, e11, E11, A11, D11, -, st11⟩ := newO X0 hx hZ hown (hw _ (List.mem_of_getElem? (i := 29) rfl)) (hw _ (List.mem_of_getElem? (i := 30) rfl)) (hw _ (List.mem_of_getElem? (i := 20) rfl)) e0 (g := (mkF m 31 #[.val (.long v0), .second, .val (.int (128 : Int32))] [])) rfl (hb hby d4_31) (by decide) (by decide)
      obtain ⟨b11, g11⟩ : ∃ z, z = h0.size := ⟨_, rfl⟩
      rw [← g11] at A11 D11 st11
      have g_b11 : n0 ≤ b11 := Nat.le_trans Z0 (Nat.le_of_eq g11.symm)
      have sz_b11 : h0.size ≤ b11 := Nat.le_trans (Keep.refl h0 []).1 (Nat.le_of_eq g11.symm)
      have f12 := Nat.le_trans Z0 E11.1
      have f13 := (Keep.refl h0 []).ext E11
      have F14 : Fld Z h11 b11 "java/lang/Long" "value" "J" (.long (0 : Int64)) := D11 (Or.inr (hw _ (List.mem_of_getElem? (i := 43) rfl))) (ty := .long) (by decide)
      refine Ends.st (S' := T11.setTop (mkF m 34 #[.val (.long v0), .second, .val (.int (128 : Int32))] [(.ref b11)])) (fun _ k => st11 _ k) ?_
      refine Ends.st (S' := T11.setTop (mkF m 35 #[.val (.long v0), .second, .val (.int (128 : Int32))] [(.ref b11), (.ref b11)])) (fun _ k => XS.dup X11.here hx rfl (hb hby d4_34) rfl rfl k) ?_
      refine Ends.st (S' := T11.setTop (mkF m 36 #[.val (.long v0), .second, .val (.int (128 : Int32))] [(.long v0), (.ref b11), (.ref b11)])) (fun _ k => XS.lloadN X11.here hx rfl (hb hby d4_35) rfl k) ?_
      obtain ⟨_, _, ⟨T15, L15, k15, n15⟩, -, X15, ⟨Lc15, hQ15, l15, y15, z15⟩, st15⟩ := X11.specialBack hx (y := (⟨"java/lang/Long", "<init>", "(J)V"⟩ : MethodName)) rfl hown (mvT hZ (hw _ (List.mem_of_getElem? (i := 31) rfl))) (mvT hZ (hw _ (List.mem_of_getElem? (i := 32) rfl))) (mvT hZ (hw _ (List.mem_of_getElem? (i := 34) rfl))) (by decide) (backOf (W := 1) (rm5 l Z a0 hw [] b11 v0 h11 n0 f12 F14 A11 g_b11) hZ (hw _ (List.mem_of_getElem? (i := 34) rfl)) (hw _ (List.mem_of_getElem? (i := 20) rfl)) (by decide) (by decide)) (g := (mkF m 36 #[.val (.long v0), .second, .val (.int (128 : Int32))] [(.long v0), (.ref b11), (.ref b11)])) rfl (by rw [hml]; rfl) (Steps.refl _) (a := b11) (argsL := [(.long v0)]) (rest := [(.ref b11)]) (lenOf pd_1 rfl) rfl (by show 2 * 0 + _ ≤ _; exact Nat.le_of_eq rfl) (hb hby d4_36) (fun _ _ => ⟨rfl, e11, (by decide : 0 + 1 + 0 ≤ _), (by decide : 0 + 1 + 0 ≤ _)⟩)
      dsimp only [Pt.U, Pt.locs, Pt.cells, Pt.slots] at X15 l15 y15 z15 st15 hQ15
      subst l15 y15 z15
      obtain ⟨rfl, N15q, K15⟩ := hQ15
      have N15 := Fr.app N0 N15q
      have f16 := Nat.le_trans f12 K15.1
      have f17 := f13.trans K15 (allS (Or.inr sz_b11) all0)
      have f18 := A11.keep K15
      refine Ends.st (S' := T15.setTop (mkF m 39 #[.val (.long v0), .second, .val (.int (128 : Int32))] [(.ref b11)])) (fun _ k => st15.trans k) ?_
      obtain ⟨fs, hr, hrun, hended, hW, hsame⟩ := X15.leave (v := some (.ref b11)) (fun h => by rw [Bd.returns] at h; cases h)
      exact ⟨_, _, retRef X15 hx Bd.returns rfl rfl (hb hby d4_39) hr, hrun, hended, _, _, rfl, (by show Q4 Z  h0 n0 _ T15.heap _; exact ⟨b11, rfl, N15, f17, f18⟩), ⟨_, rfl⟩, hW, hsame.mono (by decide) (by decide)⟩
    · refine Ends.st (S' := s₁.setTop (mkF m 20 #[.val (.long v0), .second, .val (.int (128 : Int32))] [])) (fun _ k => XS.ifNo X0.here hx rfl (hb hby d4_17) rfl ((if0 _ _).trans (flt hc10).2.2.1) k) ?_
      obtain ⟨T19, X19, e19, st19⟩ := getS2 X0 hx hZ hown (host := "") (Or.inl (hw _ (List.mem_of_getElem? (i := 24) rfl))) Via.refl e0 (SC.ext O0.2) (g := (mkF m 20 #[.val (.long v0), .second, .val (.int (128 : Int32))] [])) rfl (hb hby d4_20)
      refine Ends.st (S' := T19.setTop (mkF m 23 #[.val (.long v0), .second, .val (.int (128 : Int32))] [(.ref ca)])) (fun _ k => st19 _ k) ?_
      refine Ends.st (S' := T19.setTop (mkF m 24 #[.val (.long v0), .second, .val (.int (128 : Int32))] [(.long v0), (.ref ca)])) (fun _ k => XS.lloadN X19.here hx rfl (hb hby d4_23) rfl k) ?_
      refine Ends.st (S' := T19.setTop (mkF m 25 #[.val (.long v0), .second, .val (.int (128 : Int32))] [(.int (v0.toInt32)), (.ref ca)])) (fun _ k => XS.l2i X19.here hx rfl (hb hby d4_24) rfl k) ?_
      refine Ends.st (S' := T19.setTop (mkF m 28 #[.val (.long v0), .second, .val (.int (128 : Int32))] [(.int (128 : Int32)), (.int (v0.toInt32)), (.ref ca)])) (fun _ k => XS.sipush X19.here hx rfl (hb hby d4_25) k) ?_
      refine Ends.st (S' := T19.setTop (mkF m 29 #[.val (.long v0), .second, .val (.int (128 : Int32))] [(.int ((v0.toInt32) + (128 : Int32))), (.ref ca)])) (fun _ k => XS.iadd X19.here hx rfl (hb hby d4_28) rfl k) ?_
      obtain ⟨y20, hin20, hat20, Ey20⟩ := own_at HC hsz v0 hc1 hc10
      refine Ends.st (S' := T19.setTop (mkF m 30 #[.val (.long v0), .second, .val (.int (128 : Int32))] [(.ref y20)])) (fun _ k => X19.aaload hx (j := ((v0.toInt32) + (128 : Int32))) (v := (.ref y20)) (by rw [e19]; exact (AC.ext O0.2).1) (State.isArrayOf_alike hZ.alike AC.2.1) rfl AC.2.2 hin20 hat20 (g := (mkF m 29 #[.val (.long v0), .second, .val (.int (128 : Int32))] [(.int ((v0.toInt32) + (128 : Int32))), (.ref ca)])) rfl rfl (hb hby d4_29) _ k) ?_
      obtain ⟨fs, hr, hrun, hended, hW, hsame⟩ := X19.leave (v := some (.ref y20)) (fun h => by rw [Bd.returns] at h; cases h)
      exact ⟨_, _, retRef X19 hx Bd.returns rfl rfl (hb hby d4_30) hr, hrun, hended, _, _, rfl, (by show Q4 Z  h0 n0 _ T19.heap _; rw [e19]; exact ⟨y20, rfl, N0, (Keep.refl h0 []), (Ey20.ext O0.2)⟩), ⟨_, rfl⟩, hW, hsame.mono (by decide) (by decide)⟩
theorem ef_rm0 (m : MethodId) (x0 : Int64) (x1 : Int64) (x2 : Int32) (x3 : Int32)  : entryFrame m #[(.long x0), (.long x1), (.int x2), (.int x3)] maxLocals = mkF m 0 #[.val (.long x0), .second, .val (.long x1), .second, .val (.int x2), .val (.int x3), .unset, .unset, .unset, .unset, .unset, .unset] [] := by first | (simp [entryFrame, mkF, argsToLocals, Value.category, maxLocals]; done) | rfl
set_option maxRecDepth 65536 in
set_option maxHeartbeats 40000000 in
theorem rm0 (l : Launch) (Z : State) (a0 : Array Value) (hw : ∀ d ∈ tables_1, d.before a0 Z = true) (ws : List Jvm.Cond) (v0 : Int64) (v1 : Int64) (v2 : Int32) (v3 : Int32) (ca : Addr) (cl : Cell) (h0 : Heap) (n0 : Nat) (Z0 : n0 ≤ h0.size) (O0 : Old Z n0 h0) (SC : Sta Z Z.heap "java/lang/Long$LongCache" "cache" "[Ljava/lang/Long;" (.ref ca)) (AC : Arr Z Z.heap ca cl (.object "java/lang/Long")) (hsz : cl.slots.size = 256) (HC : ∀ i, i < 256 → ∃ y, cl.slots[i]? = some (.ref y) ∧ Exa Z Z.heap y "java/lang/Long") :
    MetFree l x (head1 (Jvm.Cond.code x code maxLocals ret :: ws) room_1) (fun a U => a = #[(.long v0), (.long v1), (.int v2), (.int v3)] ∧ Z.Warmed39 U.vm ∧ U.heap = h0) (fun _ _ _ _ _ => True) (fun _ U o U' => ∃ v L, o = .returned v ∧ Q0 Z  h0 n0 v U'.heap L ∧ FrameEnd U o U' L room_1.cells room_1.slots) := by
  refine MetFree.of_bodySF (plainFor_of_name pn_0) hisR ?_
  intro p e s m args below meth c s₁ Bd hml0 hP hK
  obtain ⟨rfl, hZ, hh⟩ := hP
  have hx := Bd.exec
  have hby := Bd.bytes
  have hml : c.maxLocals = 12 := hml0
  have hown : s.vm.findClass "com/example/umpteenth_copy/umpteenthcopy/engine/FingerprintEqualsPinLaw" = some m.cls := findClass_of_methodNamed Bd.named
  have hnm := (name_of_methodNamed Bd.named Bd.method).1
  have X0 : Stand p l e room_1 s m #[(.long v0), (.long v1), (.int v2), (.int v3)] below meth c s₁ [] 0 0 := Stand.of_body Bd
  have e0 : s₁.heap = h0 := by rw [← hh, Bd.state]; rfl
  have N0 := Fr.nil n0
  refine Ends.st (tb := p.tables) (e := e) (below := below) (S' := s₁.setTop (mkF m 0 #[.val (.long v0), .second, .val (.long v1), .second, .val (.int v2), .val (.int v3), .unset, .unset, .unset, .unset, .unset, .unset] [])) (fun t k => castTop (ef_rm0 m v0 v1 v2 v3) k) ?_
  obtain ⟨T1, h1, X1, e1, E1, A1, D1, -, st1⟩ := newO X0 hx hZ hown (hw _ (List.mem_of_getElem? (i := 0) rfl)) (hw _ (List.mem_of_getElem? (i := 1) rfl)) (hw _ (List.mem_of_getElem? (i := 2) rfl)) e0 (g := (mkF m 0 #[.val (.long v0), .second, .val (.long v1), .second, .val (.int v2), .val (.int v3), .unset, .unset, .unset, .unset, .unset, .unset] [])) rfl (hb hby at_0) (by decide) (by decide)
  obtain ⟨b1, g1⟩ : ∃ z, z = h0.size := ⟨_, rfl⟩
  rw [← g1] at A1 D1 st1
  have g_b1 : n0 ≤ b1 := Nat.le_trans Z0 (Nat.le_of_eq g1.symm)
  have f2 := Nat.le_trans Z0 E1.1
  have f3 := O0.ext E1
  have F4 : Fld Z h1 b1 "com/example/umpteenth_copy/umpteenthcopy/engine/Fingerprint" "bits" "J" (.long (0 : Int64)) := D1 (Or.inr (hw _ (List.mem_of_getElem? (i := 10) rfl))) (ty := .long) (by decide)
  refine Ends.st (S' := T1.setTop (mkF m 3 #[.val (.long v0), .second, .val (.long v1), .second, .val (.int v2), .val (.int v3), .unset, .unset, .unset, .unset, .unset, .unset] [(.ref b1)])) (fun _ k => st1 _ k) ?_
  refine Ends.st (S' := T1.setTop (mkF m 4 #[.val (.long v0), .second, .val (.long v1), .second, .val (.int v2), .val (.int v3), .unset, .unset, .unset, .unset, .unset, .unset] [(.ref b1), (.ref b1)])) (fun _ k => XS.dup X1.here hx rfl (hb hby at_3) rfl rfl k) ?_
  refine Ends.st (S' := T1.setTop (mkF m 5 #[.val (.long v0), .second, .val (.long v1), .second, .val (.int v2), .val (.int v3), .unset, .unset, .unset, .unset, .unset, .unset] [(.long v0), (.ref b1), (.ref b1)])) (fun _ k => XS.lloadN X1.here hx rfl (hb hby at_4) rfl k) ?_
  obtain ⟨_, _, ⟨T5, L5, k5, n5⟩, -, X5, ⟨Lc5, hQ5, l5, y5, z5⟩, st5⟩ := X1.specialBack hx (y := (⟨"com/example/umpteenth_copy/umpteenthcopy/engine/Fingerprint", "<init>", "(J)V"⟩ : MethodName)) rfl hown (mvT hZ (hw _ (List.mem_of_getElem? (i := 3) rfl))) (mvT hZ (hw _ (List.mem_of_getElem? (i := 4) rfl))) (mvT hZ (hw _ (List.mem_of_getElem? (i := 5) rfl))) (by decide) (backOf (W := 1) (rm1 l Z a0 hw [] b1 v0 h1 n0 f2 F4 A1 g_b1) hZ (hw _ (List.mem_of_getElem? (i := 5) rfl)) (hw _ (List.mem_of_getElem? (i := 2) rfl)) (by decide) (by decide)) (g := (mkF m 5 #[.val (.long v0), .second, .val (.long v1), .second, .val (.int v2), .val (.int v3), .unset, .unset, .unset, .unset, .unset, .unset] [(.long v0), (.ref b1), (.ref b1)])) rfl (by rw [hml]; rfl) (Steps.refl _) (a := b1) (argsL := [(.long v0)]) (rest := [(.ref b1)]) (lenOf pd_1 rfl) rfl (by show 2 * 0 + _ ≤ _; exact Nat.le_of_eq rfl) (hb hby at_5) (fun _ _ => ⟨rfl, e1, (by decide : 0 + 1 + 0 ≤ _), (by decide : 0 + 1 + 0 ≤ _)⟩)
  dsimp only [Pt.U, Pt.locs, Pt.cells, Pt.slots] at X5 l5 y5 z5 st5 hQ5
  subst l5 y5 z5
  obtain ⟨rfl, N5q, K5, G5⟩ := hQ5
  have N5 := Fr.app N0 N5q
  have f6 := Nat.le_trans f2 K5.1
  have f7 := f3.keep K5 (allS g_b1 all0)
  have f8 := A1.keep K5
  refine Ends.st (S' := T5.setTop (mkF m 8 #[.val (.long v0), .second, .val (.long v1), .second, .val (.int v2), .val (.int v3), .unset, .unset, .unset, .unset, .unset, .unset] [(.ref b1)])) (fun _ k => st5.trans k) ?_
  refine Ends.st (S' := T5.setTop (mkF m 10 #[.val (.long v0), .second, .val (.long v1), .second, .val (.int v2), .val (.int v3), .val (.ref b1), .unset, .unset, .unset, .unset, .unset] [])) (fun _ k => XS.astore X5.here hx rfl (hb hby at_8) rfl rfl (l' := #[.val (.long v0), .second, .val (.long v1), .second, .val (.int v2), .val (.int v3), .val (.ref b1), .unset, .unset, .unset, .unset, .unset]) rfl k) ?_
  refine Ends.st (S' := T5.setTop (mkF m 12 #[.val (.long v0), .second, .val (.long v1), .second, .val (.int v2), .val (.int v3), .val (.ref b1), .unset, .unset, .unset, .unset, .unset] [(.int v2)])) (fun _ k => XS.iload X5.here hx rfl (hb hby at_10) rfl k) ?_
  refine Ends.st (S' := T5.setTop (mkF m 14 #[.val (.long v0), .second, .val (.long v1), .second, .val (.int v2), .val (.int v3), .val (.ref b1), .unset, .unset, .unset, .unset, .unset] [(.int (7 : Int32)), (.int v2)])) (fun _ k => XS.bipush X5.here hx rfl (hb hby at_12) k) ?_
  refine Ends.st (S' := T5.setTop (mkF m 15 #[.val (.long v0), .second, .val (.long v1), .second, .val (.int v2), .val (.int v3), .val (.ref b1), .unset, .unset, .unset, .unset, .unset] [(.int (v2 &&& (7 : Int32)))])) (fun _ k => XS.iand X5.here hx rfl (hb hby at_14) rfl k) ?_
  refine Ends.st (S' := T5.setTop (mkF m 17 #[.val (.long v0), .second, .val (.long v1), .second, .val (.int v2), .val (.int v3), .val (.ref b1), .val (.int (v2 &&& (7 : Int32))), .unset, .unset, .unset, .unset] [])) (fun _ k => XS.istore X5.here hx rfl (hb hby at_15) rfl (l' := #[.val (.long v0), .second, .val (.long v1), .second, .val (.int v2), .val (.int v3), .val (.ref b1), .val (.int (v2 &&& (7 : Int32))), .unset, .unset, .unset, .unset]) rfl k) ?_
  refine Ends.st (S' := T5.setTop (mkF m 19 #[.val (.long v0), .second, .val (.long v1), .second, .val (.int v2), .val (.int v3), .val (.ref b1), .val (.int (v2 &&& (7 : Int32))), .unset, .unset, .unset, .unset] [(.int (v2 &&& (7 : Int32)))])) (fun _ k => XS.iload X5.here hx rfl (hb hby at_17) rfl k) ?_
  by_cases hc9 : (v2 &&& (7 : Int32)) = (0 : Int32)
  · refine Ends.st (S' := T5.setTop (mkF m 22 #[.val (.long v0), .second, .val (.long v1), .second, .val (.int v2), .val (.int v3), .val (.ref b1), .val (.int (v2 &&& (7 : Int32))), .unset, .unset, .unset, .unset] [])) (fun _ k => XS.ifNo X5.here hx rfl (hb hby at_19) rfl ((if0 _ _).trans (teq hc9).2) k) ?_
    obtain ⟨T10, h10, X10, e10, E10, A10, D10, -, st10⟩ := newO X5 hx hZ hown (hw _ (List.mem_of_getElem? (i := 0) rfl)) (hw _ (List.mem_of_getElem? (i := 1) rfl)) (hw _ (List.mem_of_getElem? (i := 2) rfl)) rfl (g := (mkF m 22 #[.val (.long v0), .second, .val (.long v1), .second, .val (.int v2), .val (.int v3), .val (.ref b1), .val (.int (v2 &&& (7 : Int32))), .unset, .unset, .unset, .unset] [])) rfl (hb hby at_22) (by decide) (by decide)
    obtain ⟨b10, g10⟩ : ∃ z, z = T5.heap.size := ⟨_, rfl⟩
    rw [← g10] at A10 D10 st10
    have ne11 : b1 ≠ b10 := Nat.ne_of_lt (Nat.lt_of_lt_of_le f8.lt (Nat.le_of_eq g10.symm))
    have g_b10 : n0 ≤ b10 := Nat.le_trans f6 (Nat.le_of_eq g10.symm)
    have f12 := Nat.le_trans f6 E10.1
    have f13 := f7.ext E10
    have f14 := f8.ext E10
    have f15 := G5.ext E10
    have F16 : Fld Z h10 b10 "com/example/umpteenth_copy/umpteenthcopy/engine/Fingerprint" "bits" "J" (.long (0 : Int64)) := D10 (Or.inr (hw _ (List.mem_of_getElem? (i := 10) rfl))) (ty := .long) (by decide)
    refine Ends.st (S' := T10.setTop (mkF m 25 #[.val (.long v0), .second, .val (.long v1), .second, .val (.int v2), .val (.int v3), .val (.ref b1), .val (.int (v2 &&& (7 : Int32))), .unset, .unset, .unset, .unset] [(.ref b10)])) (fun _ k => st10 _ k) ?_
    refine Ends.st (S' := T10.setTop (mkF m 26 #[.val (.long v0), .second, .val (.long v1), .second, .val (.int v2), .val (.int v3), .val (.ref b1), .val (.int (v2 &&& (7 : Int32))), .unset, .unset, .unset, .unset] [(.ref b10), (.ref b10)])) (fun _ k => XS.dup X10.here hx rfl (hb hby at_25) rfl rfl k) ?_
    refine Ends.st (S' := T10.setTop (mkF m 27 #[.val (.long v0), .second, .val (.long v1), .second, .val (.int v2), .val (.int v3), .val (.ref b1), .val (.int (v2 &&& (7 : Int32))), .unset, .unset, .unset, .unset] [(.long v1), (.ref b10), (.ref b10)])) (fun _ k => XS.lloadN X10.here hx rfl (hb hby at_26) rfl k) ?_
    obtain ⟨_, _, ⟨T17, L17, k17, n17⟩, -, X17, ⟨Lc17, hQ17, l17, y17, z17⟩, st17⟩ := X10.specialBack hx (y := (⟨"com/example/umpteenth_copy/umpteenthcopy/engine/Fingerprint", "<init>", "(J)V"⟩ : MethodName)) rfl hown (mvT hZ (hw _ (List.mem_of_getElem? (i := 3) rfl))) (mvT hZ (hw _ (List.mem_of_getElem? (i := 4) rfl))) (mvT hZ (hw _ (List.mem_of_getElem? (i := 5) rfl))) (by decide) (backOf (W := 1) (rm1 l Z a0 hw [] b10 v1 h10 n0 f12 F16 A10 g_b10) hZ (hw _ (List.mem_of_getElem? (i := 5) rfl)) (hw _ (List.mem_of_getElem? (i := 2) rfl)) (by decide) (by decide)) (g := (mkF m 27 #[.val (.long v0), .second, .val (.long v1), .second, .val (.int v2), .val (.int v3), .val (.ref b1), .val (.int (v2 &&& (7 : Int32))), .unset, .unset, .unset, .unset] [(.long v1), (.ref b10), (.ref b10)])) rfl (by rw [hml]; rfl) (Steps.refl _) (a := b10) (argsL := [(.long v1)]) (rest := [(.ref b10)]) (lenOf pd_1 rfl) rfl (by show 2 * 0 + _ ≤ _; exact Nat.le_of_eq rfl) (hb hby at_27) (fun _ _ => ⟨rfl, e10, (by decide : 0 + 1 + 0 + 1 + 0 ≤ _), (by decide : 0 + 1 + 0 + 1 + 0 ≤ _)⟩)
    dsimp only [Pt.U, Pt.locs, Pt.cells, Pt.slots] at X17 l17 y17 z17 st17 hQ17
    subst l17 y17 z17
    obtain ⟨rfl, N17q, K17, G17⟩ := hQ17
    have N17 := Fr.app N5 N17q
    have f18 := Nat.le_trans f12 K17.1
    have f19 := f13.keep K17 (allS g_b10 all0)
    have f20 := f14.keep K17
    have f21 := f15.keep K17 (ninS ne11 nin0)
    have f22 := A10.keep K17
    refine Ends.st (S' := T17.setTop (mkF m 30 #[.val (.long v0), .second, .val (.long v1), .second, .val (.int v2), .val (.int v3), .val (.ref b1), .val (.int (v2 &&& (7 : Int32))), .unset, .unset, .unset, .unset] [(.ref b10)])) (fun _ k => st17.trans k) ?_
    refine Ends.st (S' := T17.setTop (mkF m 32 #[.val (.long v0), .second, .val (.long v1), .second, .val (.int v2), .val (.int v3), .val (.ref b1), .val (.int (v2 &&& (7 : Int32))), .val (.ref b10), .unset, .unset, .unset] [])) (fun _ k => XS.astore X17.here hx rfl (hb hby at_30) rfl rfl (l' := #[.val (.long v0), .second, .val (.long v1), .second, .val (.int v2), .val (.int v3), .val (.ref b1), .val (.int (v2 &&& (7 : Int32))), .val (.ref b10), .unset, .unset, .unset]) rfl k) ?_
    refine Ends.st (S' := T17.setTop (mkF m 33 #[.val (.long v0), .second, .val (.long v1), .second, .val (.int v2), .val (.int v3), .val (.ref b1), .val (.int (v2 &&& (7 : Int32))), .val (.ref b10), .unset, .unset, .unset] [(.long v0)])) (fun _ k => XS.lloadN X17.here hx rfl (hb hby at_32) rfl k) ?_
    refine Ends.st (S' := T17.setTop (mkF m 34 #[.val (.long v0), .second, .val (.long v1), .second, .val (.int v2), .val (.int v3), .val (.ref b1), .val (.int (v2 &&& (7 : Int32))), .val (.ref b10), .unset, .unset, .unset] [(.long v1), (.long v0)])) (fun _ k => XS.lloadN X17.here hx rfl (hb hby at_33) rfl k) ?_
    refine Ends.st (S' := T17.setTop (mkF m 35 #[.val (.long v0), .second, .val (.long v1), .second, .val (.int v2), .val (.int v3), .val (.ref b1), .val (.int (v2 &&& (7 : Int32))), .val (.ref b10), .unset, .unset, .unset] [(.int (lcmpW v0 v1))])) (fun _ k => XS.lcmp X17.here hx rfl (hb hby at_34) rfl k) ?_
    by_cases hc23 : (lcmpW v0 v1) = (0 : Int32)
    · refine Ends.st (S' := T17.setTop (mkF m 38 #[.val (.long v0), .second, .val (.long v1), .second, .val (.int v2), .val (.int v3), .val (.ref b1), .val (.int (v2 &&& (7 : Int32))), .val (.ref b10), .unset, .unset, .unset] [])) (fun _ k => XS.ifNo X17.here hx rfl (hb hby at_35) rfl ((if0 _ _).trans (teq hc23).2) k) ?_
      refine Ends.st (S' := T17.setTop (mkF m 39 #[.val (.long v0), .second, .val (.long v1), .second, .val (.int v2), .val (.int v3), .val (.ref b1), .val (.int (v2 &&& (7 : Int32))), .val (.ref b10), .unset, .unset, .unset] [(.int (1 : Int32))])) (fun _ k => XS.iconst X17.here hx rfl (hb hby at_38) k) ?_
      refine Ends.st (S' := T17.setTop (mkF m 43 #[.val (.long v0), .second, .val (.long v1), .second, .val (.int v2), .val (.int v3), .val (.ref b1), .val (.int (v2 &&& (7 : Int32))), .val (.ref b10), .unset, .unset, .unset] [(.int (1 : Int32))])) (fun _ k => XS.goto X17.here hx rfl (pc0 := 39) (pc' := 43) rfl (hb hby at_39) (by decide) (by decide) k) ?_
      refine Ends.st (S' := T17.setTop (mkF m 45 #[.val (.long v0), .second, .val (.long v1), .second, .val (.int v2), .val (.int v3), .val (.ref b1), .val (.int (v2 &&& (7 : Int32))), .val (.ref b10), .val (.int (1 : Int32)), .unset, .unset] [])) (fun _ k => XS.istore X17.here hx rfl (hb hby at_43) rfl (l' := #[.val (.long v0), .second, .val (.long v1), .second, .val (.int v2), .val (.int v3), .val (.ref b1), .val (.int (v2 &&& (7 : Int32))), .val (.ref b10), .val (.int (1 : Int32)), .unset, .unset]) rfl k) ?_
      refine Ends.st (S' := T17.setTop (mkF m 144 #[.val (.long v0), .second, .val (.long v1), .second, .val (.int v2), .val (.int v3), .val (.ref b1), .val (.int (v2 &&& (7 : Int32))), .val (.ref b10), .val (.int (1 : Int32)), .unset, .unset] [])) (fun _ k => XS.goto X17.here hx rfl (pc0 := 45) (pc' := 144) rfl (hb hby at_45) (by decide) (by decide) k) ?_
      refine Ends.st (S' := T17.setTop (mkF m 146 #[.val (.long v0), .second, .val (.long v1), .second, .val (.int v2), .val (.int v3), .val (.ref b1), .val (.int (v2 &&& (7 : Int32))), .val (.ref b10), .val (.int (1 : Int32)), .unset, .unset] [(.ref b1)])) (fun _ k => XS.aload X17.here hx rfl (hb hby at_144) rfl rfl k) ?_
      refine Ends.st (S' := T17.setTop (mkF m 148 #[.val (.long v0), .second, .val (.long v1), .second, .val (.int v2), .val (.int v3), .val (.ref b1), .val (.int (v2 &&& (7 : Int32))), .val (.ref b10), .val (.int (1 : Int32)), .unset, .unset] [(.ref b10), (.ref b1)])) (fun _ k => XS.aload X17.here hx rfl (hb hby at_146) rfl rfl k) ?_
      obtain ⟨cq24, kq24, q24a, q24b, q24c⟩ := isOf hZ rfl (f20)
      obtain ⟨_, _, ⟨T24, L24, k24, n24⟩, -, X24, ⟨Lc24, hQ24, l24, y24, z24⟩, st24⟩ := X17.virtualBack hx (y := (⟨"com/example/umpteenth_copy/umpteenthcopy/engine/Fingerprint", "equals", "(Ljava/lang/Object;)Z"⟩ : MethodName)) (z := (⟨"com/example/umpteenth_copy/umpteenthcopy/engine/Fingerprint", "equals", "(Ljava/lang/Object;)Z"⟩ : MethodName)) hown (mvT hZ (hw _ (List.mem_of_getElem? (i := 11) rfl))) (mvT hZ (hw _ (List.mem_of_getElem? (i := 12) rfl))) (notFace_of_selects (args := #[]) (mvT hZ (hw _ (List.mem_of_getElem? (i := 14) rfl)))) (mvT hZ (hw _ (List.mem_of_getElem? (i := 14) rfl))) (mvT hZ (hw _ (List.mem_of_getElem? (i := 13) rfl))) (by decide) (backOf (W := 0) (rm3a l Z a0 hw [] b1 b10 v0 v1 T17.heap n0 f18 f21 G17 f22) hZ (hw _ (List.mem_of_getElem? (i := 15) rfl)) (hw _ (List.mem_of_getElem? (i := 2) rfl)) (by decide) (by decide)) q24a q24c (g := (mkF m 148 #[.val (.long v0), .second, .val (.long v1), .second, .val (.int v2), .val (.int v3), .val (.ref b1), .val (.int (v2 &&& (7 : Int32))), .val (.ref b10), .val (.int (1 : Int32)), .unset, .unset] [(.ref b10), (.ref b1)])) rfl (by rw [hml]; rfl) (Steps.refl _) (argsL := [(.ref b10)]) (rest := []) (lenOf pd_2 rfl) rfl (by show 2 * 0 + _ ≤ _; exact Nat.le_of_eq rfl) (hb hby at_148) (fun _ _ => ⟨rfl, rfl, (by decide : 0 + 1 + 0 + 1 + 0 + 0 ≤ _), (by decide : 0 + 1 + 0 + 1 + 0 + 0 ≤ _)⟩)
      dsimp only [Pt.U, Pt.locs, Pt.cells, Pt.slots] at X24 l24 y24 z24 st24 hQ24
      subst l24 y24 z24
      obtain ⟨rfl, N24q, e24⟩ := hQ24
      have N24 := Fr.app N17 N24q
      refine Ends.st (S' := T24.setTop (mkF m 151 #[.val (.long v0), .second, .val (.long v1), .second, .val (.int v2), .val (.int v3), .val (.ref b1), .val (.int (v2 &&& (7 : Int32))), .val (.ref b10), .val (.int (1 : Int32)), .unset, .unset] [(.int (if v1 = v0 then 1 else 0))])) (fun _ k => st24.trans k) ?_
      refine Ends.st (S' := T24.setTop (mkF m 153 #[.val (.long v0), .second, .val (.long v1), .second, .val (.int v2), .val (.int v3), .val (.ref b1), .val (.int (v2 &&& (7 : Int32))), .val (.ref b10), .val (.int (1 : Int32)), .unset, .unset] [(.int (1 : Int32)), (.int (if v1 = v0 then 1 else 0))])) (fun _ k => XS.iload X24.here hx rfl (hb hby at_151) rfl k) ?_
      have hb25 : (if v1 = v0 then 1 else 0) = (1 : Int32) := if_pos ((lw_eq _ _).mp hc23).symm
      refine Ends.st (S' := T24.setTop (mkF m 156 #[.val (.long v0), .second, .val (.long v1), .second, .val (.int v2), .val (.int v3), .val (.ref b1), .val (.int (v2 &&& (7 : Int32))), .val (.ref b10), .val (.int (1 : Int32)), .unset, .unset] [])) (fun _ k => XS.icmpNo X24.here hx rfl (hb hby at_153) rfl (teq hb25).2 k) ?_
      refine Ends.st (S' := T24.setTop (mkF m 157 #[.val (.long v0), .second, .val (.long v1), .second, .val (.int v2), .val (.int v3), .val (.ref b1), .val (.int (v2 &&& (7 : Int32))), .val (.ref b10), .val (.int (1 : Int32)), .unset, .unset] [(.int (1 : Int32))])) (fun _ k => XS.iconst X24.here hx rfl (hb hby at_156) k) ?_
      refine Ends.st (S' := T24.setTop (mkF m 161 #[.val (.long v0), .second, .val (.long v1), .second, .val (.int v2), .val (.int v3), .val (.ref b1), .val (.int (v2 &&& (7 : Int32))), .val (.ref b10), .val (.int (1 : Int32)), .unset, .unset] [(.int (1 : Int32))])) (fun _ k => XS.goto X24.here hx rfl (pc0 := 157) (pc' := 161) rfl (hb hby at_157) (by decide) (by decide) k) ?_
      obtain ⟨fs, hr, hrun, hended, hW, hsame⟩ := X24.leave (v := some (.int (1 : Int32))) (fun h => by rw [Bd.returns] at h; cases h)
      exact ⟨_, _, retN X24 hx (t := .boolean) Bd.returns (by simp) (hb hby at_161) hr, hrun, hended, _, _, rfl, (by show Q0 Z  h0 n0 _ T24.heap _; rw [e24]; exact ⟨rfl, N24⟩), ⟨_, rfl⟩, hW, hsame.mono (by decide) (by decide)⟩
    · refine Ends.st (S' := T17.setTop (mkF m 42 #[.val (.long v0), .second, .val (.long v1), .second, .val (.int v2), .val (.int v3), .val (.ref b1), .val (.int (v2 &&& (7 : Int32))), .val (.ref b10), .unset, .unset, .unset] [])) (fun _ k => XS.ifYes X17.here hx rfl (pc0 := 35) (pc' := 42) rfl (hb hby at_35) rfl ((if0 _ _).trans (feq hc23).2) (by decide) (by decide) k) ?_
      refine Ends.st (S' := T17.setTop (mkF m 43 #[.val (.long v0), .second, .val (.long v1), .second, .val (.int v2), .val (.int v3), .val (.ref b1), .val (.int (v2 &&& (7 : Int32))), .val (.ref b10), .unset, .unset, .unset] [(.int (0 : Int32))])) (fun _ k => XS.iconst X17.here hx rfl (hb hby at_42) k) ?_
      refine Ends.st (S' := T17.setTop (mkF m 45 #[.val (.long v0), .second, .val (.long v1), .second, .val (.int v2), .val (.int v3), .val (.ref b1), .val (.int (v2 &&& (7 : Int32))), .val (.ref b10), .val (.int (0 : Int32)), .unset, .unset] [])) (fun _ k => XS.istore X17.here hx rfl (hb hby at_43) rfl (l' := #[.val (.long v0), .second, .val (.long v1), .second, .val (.int v2), .val (.int v3), .val (.ref b1), .val (.int (v2 &&& (7 : Int32))), .val (.ref b10), .val (.int (0 : Int32)), .unset, .unset]) rfl k) ?_
      refine Ends.st (S' := T17.setTop (mkF m 144 #[.val (.long v0), .second, .val (.long v1), .second, .val (.int v2), .val (.int v3), .val (.ref b1), .val (.int (v2 &&& (7 : Int32))), .val (.ref b10), .val (.int (0 : Int32)), .unset, .unset] [])) (fun _ k => XS.goto X17.here hx rfl (pc0 := 45) (pc' := 144) rfl (hb hby at_45) (by decide) (by decide) k) ?_
      refine Ends.st (S' := T17.setTop (mkF m 146 #[.val (.long v0), .second, .val (.long v1), .second, .val (.int v2), .val (.int v3), .val (.ref b1), .val (.int (v2 &&& (7 : Int32))), .val (.ref b10), .val (.int (0 : Int32)), .unset, .unset] [(.ref b1)])) (fun _ k => XS.aload X17.here hx rfl (hb hby at_144) rfl rfl k) ?_
      refine Ends.st (S' := T17.setTop (mkF m 148 #[.val (.long v0), .second, .val (.long v1), .second, .val (.int v2), .val (.int v3), .val (.ref b1), .val (.int (v2 &&& (7 : Int32))), .val (.ref b10), .val (.int (0 : Int32)), .unset, .unset] [(.ref b10), (.ref b1)])) (fun _ k => XS.aload X17.here hx rfl (hb hby at_146) rfl rfl k) ?_
      obtain ⟨cq26, kq26, q26a, q26b, q26c⟩ := isOf hZ rfl (f20)
      obtain ⟨_, _, ⟨T26, L26, k26, n26⟩, -, X26, ⟨Lc26, hQ26, l26, y26, z26⟩, st26⟩ := X17.virtualBack hx (y := (⟨"com/example/umpteenth_copy/umpteenthcopy/engine/Fingerprint", "equals", "(Ljava/lang/Object;)Z"⟩ : MethodName)) (z := (⟨"com/example/umpteenth_copy/umpteenthcopy/engine/Fingerprint", "equals", "(Ljava/lang/Object;)Z"⟩ : MethodName)) hown (mvT hZ (hw _ (List.mem_of_getElem? (i := 11) rfl))) (mvT hZ (hw _ (List.mem_of_getElem? (i := 12) rfl))) (notFace_of_selects (args := #[]) (mvT hZ (hw _ (List.mem_of_getElem? (i := 14) rfl)))) (mvT hZ (hw _ (List.mem_of_getElem? (i := 14) rfl))) (mvT hZ (hw _ (List.mem_of_getElem? (i := 13) rfl))) (by decide) (backOf (W := 0) (rm3a l Z a0 hw [] b1 b10 v0 v1 T17.heap n0 f18 f21 G17 f22) hZ (hw _ (List.mem_of_getElem? (i := 15) rfl)) (hw _ (List.mem_of_getElem? (i := 2) rfl)) (by decide) (by decide)) q26a q26c (g := (mkF m 148 #[.val (.long v0), .second, .val (.long v1), .second, .val (.int v2), .val (.int v3), .val (.ref b1), .val (.int (v2 &&& (7 : Int32))), .val (.ref b10), .val (.int (0 : Int32)), .unset, .unset] [(.ref b10), (.ref b1)])) rfl (by rw [hml]; rfl) (Steps.refl _) (argsL := [(.ref b10)]) (rest := []) (lenOf pd_2 rfl) rfl (by show 2 * 0 + _ ≤ _; exact Nat.le_of_eq rfl) (hb hby at_148) (fun _ _ => ⟨rfl, rfl, (by decide : 0 + 1 + 0 + 1 + 0 + 0 ≤ _), (by decide : 0 + 1 + 0 + 1 + 0 + 0 ≤ _)⟩)
      dsimp only [Pt.U, Pt.locs, Pt.cells, Pt.slots] at X26 l26 y26 z26 st26 hQ26
      subst l26 y26 z26
      obtain ⟨rfl, N26q, e26⟩ := hQ26
      have N26 := Fr.app N17 N26q
      refine Ends.st (S' := T26.setTop (mkF m 151 #[.val (.long v0), .second, .val (.long v1), .second, .val (.int v2), .val (.int v3), .val (.ref b1), .val (.int (v2 &&& (7 : Int32))), .val (.ref b10), .val (.int (0 : Int32)), .unset, .unset] [(.int (if v1 = v0 then 1 else 0))])) (fun _ k => st26.trans k) ?_
      refine Ends.st (S' := T26.setTop (mkF m 153 #[.val (.long v0), .second, .val (.long v1), .second, .val (.int v2), .val (.int v3), .val (.ref b1), .val (.int (v2 &&& (7 : Int32))), .val (.ref b10), .val (.int (0 : Int32)), .unset, .unset] [(.int (0 : Int32)), (.int (if v1 = v0 then 1 else 0))])) (fun _ k => XS.iload X26.here hx rfl (hb hby at_151) rfl k) ?_
      have hb27 : (if v1 = v0 then 1 else 0) = (0 : Int32) := if_neg (fun z => hc23 ((lw_eq _ _).mpr z.symm))
      refine Ends.st (S' := T26.setTop (mkF m 156 #[.val (.long v0), .second, .val (.long v1), .second, .val (.int v2), .val (.int v3), .val (.ref b1), .val (.int (v2 &&& (7 : Int32))), .val (.ref b10), .val (.int (0 : Int32)), .unset, .unset] [])) (fun _ k => XS.icmpNo X26.here hx rfl (hb hby at_153) rfl (teq hb27).2 k) ?_
      refine Ends.st (S' := T26.setTop (mkF m 157 #[.val (.long v0), .second, .val (.long v1), .second, .val (.int v2), .val (.int v3), .val (.ref b1), .val (.int (v2 &&& (7 : Int32))), .val (.ref b10), .val (.int (0 : Int32)), .unset, .unset] [(.int (1 : Int32))])) (fun _ k => XS.iconst X26.here hx rfl (hb hby at_156) k) ?_
      refine Ends.st (S' := T26.setTop (mkF m 161 #[.val (.long v0), .second, .val (.long v1), .second, .val (.int v2), .val (.int v3), .val (.ref b1), .val (.int (v2 &&& (7 : Int32))), .val (.ref b10), .val (.int (0 : Int32)), .unset, .unset] [(.int (1 : Int32))])) (fun _ k => XS.goto X26.here hx rfl (pc0 := 157) (pc' := 161) rfl (hb hby at_157) (by decide) (by decide) k) ?_
      obtain ⟨fs, hr, hrun, hended, hW, hsame⟩ := X26.leave (v := some (.int (1 : Int32))) (fun h => by rw [Bd.returns] at h; cases h)
      exact ⟨_, _, retN X26 hx (t := .boolean) Bd.returns (by simp) (hb hby at_161) hr, hrun, hended, _, _, rfl, (by show Q0 Z  h0 n0 _ T26.heap _; rw [e26]; exact ⟨rfl, N26⟩), ⟨_, rfl⟩, hW, hsame.mono (by decide) (by decide)⟩
  · refine Ends.st (S' := T5.setTop (mkF m 48 #[.val (.long v0), .second, .val (.long v1), .second, .val (.int v2), .val (.int v3), .val (.ref b1), .val (.int (v2 &&& (7 : Int32))), .unset, .unset, .unset, .unset] [])) (fun _ k => XS.ifYes X5.here hx rfl (pc0 := 19) (pc' := 48) rfl (hb hby at_19) rfl ((if0 _ _).trans (feq hc9).2) (by decide) (by decide) k) ?_
    refine Ends.st (S' := T5.setTop (mkF m 50 #[.val (.long v0), .second, .val (.long v1), .second, .val (.int v2), .val (.int v3), .val (.ref b1), .val (.int (v2 &&& (7 : Int32))), .unset, .unset, .unset, .unset] [(.int (v2 &&& (7 : Int32)))])) (fun _ k => XS.iload X5.here hx rfl (hb hby at_48) rfl k) ?_
    refine Ends.st (S' := T5.setTop (mkF m 51 #[.val (.long v0), .second, .val (.long v1), .second, .val (.int v2), .val (.int v3), .val (.ref b1), .val (.int (v2 &&& (7 : Int32))), .unset, .unset, .unset, .unset] [(.int (1 : Int32)), (.int (v2 &&& (7 : Int32)))])) (fun _ k => XS.iconst X5.here hx rfl (hb hby at_50) k) ?_
    by_cases hc28 : (v2 &&& (7 : Int32)) = (1 : Int32)
    · refine Ends.st (S' := T5.setTop (mkF m 54 #[.val (.long v0), .second, .val (.long v1), .second, .val (.int v2), .val (.int v3), .val (.ref b1), .val (.int (v2 &&& (7 : Int32))), .unset, .unset, .unset, .unset] [])) (fun _ k => XS.icmpNo X5.here hx rfl (hb hby at_51) rfl (teq hc28).2 k) ?_
      obtain ⟨T29, h29, X29, e29, E29, A29, D29, -, st29⟩ := newO X5 hx hZ hown (hw _ (List.mem_of_getElem? (i := 0) rfl)) (hw _ (List.mem_of_getElem? (i := 1) rfl)) (hw _ (List.mem_of_getElem? (i := 2) rfl)) rfl (g := (mkF m 54 #[.val (.long v0), .second, .val (.long v1), .second, .val (.int v2), .val (.int v3), .val (.ref b1), .val (.int (v2 &&& (7 : Int32))), .unset, .unset, .unset, .unset] [])) rfl (hb hby at_54) (by decide) (by decide)
      obtain ⟨b29, g29⟩ : ∃ z, z = T5.heap.size := ⟨_, rfl⟩
      rw [← g29] at A29 D29 st29
      have ne30 : b1 ≠ b29 := Nat.ne_of_lt (Nat.lt_of_lt_of_le f8.lt (Nat.le_of_eq g29.symm))
      have g_b29 : n0 ≤ b29 := Nat.le_trans f6 (Nat.le_of_eq g29.symm)
      have f31 := Nat.le_trans f6 E29.1
      have f32 := f7.ext E29
      have f33 := f8.ext E29
      have f34 := G5.ext E29
      have F35 : Fld Z h29 b29 "com/example/umpteenth_copy/umpteenthcopy/engine/Fingerprint" "bits" "J" (.long (0 : Int64)) := D29 (Or.inr (hw _ (List.mem_of_getElem? (i := 10) rfl))) (ty := .long) (by decide)
      refine Ends.st (S' := T29.setTop (mkF m 57 #[.val (.long v0), .second, .val (.long v1), .second, .val (.int v2), .val (.int v3), .val (.ref b1), .val (.int (v2 &&& (7 : Int32))), .unset, .unset, .unset, .unset] [(.ref b29)])) (fun _ k => st29 _ k) ?_
      refine Ends.st (S' := T29.setTop (mkF m 58 #[.val (.long v0), .second, .val (.long v1), .second, .val (.int v2), .val (.int v3), .val (.ref b1), .val (.int (v2 &&& (7 : Int32))), .unset, .unset, .unset, .unset] [(.ref b29), (.ref b29)])) (fun _ k => XS.dup X29.here hx rfl (hb hby at_57) rfl rfl k) ?_
      refine Ends.st (S' := T29.setTop (mkF m 59 #[.val (.long v0), .second, .val (.long v1), .second, .val (.int v2), .val (.int v3), .val (.ref b1), .val (.int (v2 &&& (7 : Int32))), .unset, .unset, .unset, .unset] [(.long v0), (.ref b29), (.ref b29)])) (fun _ k => XS.lloadN X29.here hx rfl (hb hby at_58) rfl k) ?_
      obtain ⟨_, _, ⟨T36, L36, k36, n36⟩, -, X36, ⟨Lc36, hQ36, l36, y36, z36⟩, st36⟩ := X29.specialBack hx (y := (⟨"com/example/umpteenth_copy/umpteenthcopy/engine/Fingerprint", "<init>", "(J)V"⟩ : MethodName)) rfl hown (mvT hZ (hw _ (List.mem_of_getElem? (i := 3) rfl))) (mvT hZ (hw _ (List.mem_of_getElem? (i := 4) rfl))) (mvT hZ (hw _ (List.mem_of_getElem? (i := 5) rfl))) (by decide) (backOf (W := 1) (rm1 l Z a0 hw [] b29 v0 h29 n0 f31 F35 A29 g_b29) hZ (hw _ (List.mem_of_getElem? (i := 5) rfl)) (hw _ (List.mem_of_getElem? (i := 2) rfl)) (by decide) (by decide)) (g := (mkF m 59 #[.val (.long v0), .second, .val (.long v1), .second, .val (.int v2), .val (.int v3), .val (.ref b1), .val (.int (v2 &&& (7 : Int32))), .unset, .unset, .unset, .unset] [(.long v0), (.ref b29), (.ref b29)])) rfl (by rw [hml]; rfl) (Steps.refl _) (a := b29) (argsL := [(.long v0)]) (rest := [(.ref b29)]) (lenOf pd_1 rfl) rfl (by show 2 * 0 + _ ≤ _; exact Nat.le_of_eq rfl) (hb hby at_59) (fun _ _ => ⟨rfl, e29, (by decide : 0 + 1 + 0 + 1 + 0 ≤ _), (by decide : 0 + 1 + 0 + 1 + 0 ≤ _)⟩)
      dsimp only [Pt.U, Pt.locs, Pt.cells, Pt.slots] at X36 l36 y36 z36 st36 hQ36
      subst l36 y36 z36
      obtain ⟨rfl, N36q, K36, G36⟩ := hQ36
      have N36 := Fr.app N5 N36q
      have f37 := Nat.le_trans f31 K36.1
      have f38 := f32.keep K36 (allS g_b29 all0)
      have f39 := f33.keep K36
      have f40 := f34.keep K36 (ninS ne30 nin0)
      have f41 := A29.keep K36
      refine Ends.st (S' := T36.setTop (mkF m 62 #[.val (.long v0), .second, .val (.long v1), .second, .val (.int v2), .val (.int v3), .val (.ref b1), .val (.int (v2 &&& (7 : Int32))), .unset, .unset, .unset, .unset] [(.ref b29)])) (fun _ k => st36.trans k) ?_
      refine Ends.st (S' := T36.setTop (mkF m 64 #[.val (.long v0), .second, .val (.long v1), .second, .val (.int v2), .val (.int v3), .val (.ref b1), .val (.int (v2 &&& (7 : Int32))), .val (.ref b29), .unset, .unset, .unset] [])) (fun _ k => XS.astore X36.here hx rfl (hb hby at_62) rfl rfl (l' := #[.val (.long v0), .second, .val (.long v1), .second, .val (.int v2), .val (.int v3), .val (.ref b1), .val (.int (v2 &&& (7 : Int32))), .val (.ref b29), .unset, .unset, .unset]) rfl k) ?_
      refine Ends.st (S' := T36.setTop (mkF m 65 #[.val (.long v0), .second, .val (.long v1), .second, .val (.int v2), .val (.int v3), .val (.ref b1), .val (.int (v2 &&& (7 : Int32))), .val (.ref b29), .unset, .unset, .unset] [(.int (1 : Int32))])) (fun _ k => XS.iconst X36.here hx rfl (hb hby at_64) k) ?_
      refine Ends.st (S' := T36.setTop (mkF m 67 #[.val (.long v0), .second, .val (.long v1), .second, .val (.int v2), .val (.int v3), .val (.ref b1), .val (.int (v2 &&& (7 : Int32))), .val (.ref b29), .val (.int (1 : Int32)), .unset, .unset] [])) (fun _ k => XS.istore X36.here hx rfl (hb hby at_65) rfl (l' := #[.val (.long v0), .second, .val (.long v1), .second, .val (.int v2), .val (.int v3), .val (.ref b1), .val (.int (v2 &&& (7 : Int32))), .val (.ref b29), .val (.int (1 : Int32)), .unset, .unset]) rfl k) ?_
      refine Ends.st (S' := T36.setTop (mkF m 144 #[.val (.long v0), .second, .val (.long v1), .second, .val (.int v2), .val (.int v3), .val (.ref b1), .val (.int (v2 &&& (7 : Int32))), .val (.ref b29), .val (.int (1 : Int32)), .unset, .unset] [])) (fun _ k => XS.goto X36.here hx rfl (pc0 := 67) (pc' := 144) rfl (hb hby at_67) (by decide) (by decide) k) ?_
      refine Ends.st (S' := T36.setTop (mkF m 146 #[.val (.long v0), .second, .val (.long v1), .second, .val (.int v2), .val (.int v3), .val (.ref b1), .val (.int (v2 &&& (7 : Int32))), .val (.ref b29), .val (.int (1 : Int32)), .unset, .unset] [(.ref b1)])) (fun _ k => XS.aload X36.here hx rfl (hb hby at_144) rfl rfl k) ?_
      refine Ends.st (S' := T36.setTop (mkF m 148 #[.val (.long v0), .second, .val (.long v1), .second, .val (.int v2), .val (.int v3), .val (.ref b1), .val (.int (v2 &&& (7 : Int32))), .val (.ref b29), .val (.int (1 : Int32)), .unset, .unset] [(.ref b29), (.ref b1)])) (fun _ k => XS.aload X36.here hx rfl (hb hby at_146) rfl rfl k) ?_
      obtain ⟨cq42, kq42, q42a, q42b, q42c⟩ := isOf hZ rfl (f39)
      obtain ⟨_, _, ⟨T42, L42, k42, n42⟩, -, X42, ⟨Lc42, hQ42, l42, y42, z42⟩, st42⟩ := X36.virtualBack hx (y := (⟨"com/example/umpteenth_copy/umpteenthcopy/engine/Fingerprint", "equals", "(Ljava/lang/Object;)Z"⟩ : MethodName)) (z := (⟨"com/example/umpteenth_copy/umpteenthcopy/engine/Fingerprint", "equals", "(Ljava/lang/Object;)Z"⟩ : MethodName)) hown (mvT hZ (hw _ (List.mem_of_getElem? (i := 11) rfl))) (mvT hZ (hw _ (List.mem_of_getElem? (i := 12) rfl))) (notFace_of_selects (args := #[]) (mvT hZ (hw _ (List.mem_of_getElem? (i := 14) rfl)))) (mvT hZ (hw _ (List.mem_of_getElem? (i := 14) rfl))) (mvT hZ (hw _ (List.mem_of_getElem? (i := 13) rfl))) (by decide) (backOf (W := 0) (rm3a l Z a0 hw [] b1 b29 v0 v0 T36.heap n0 f37 f40 G36 f41) hZ (hw _ (List.mem_of_getElem? (i := 15) rfl)) (hw _ (List.mem_of_getElem? (i := 2) rfl)) (by decide) (by decide)) q42a q42c (g := (mkF m 148 #[.val (.long v0), .second, .val (.long v1), .second, .val (.int v2), .val (.int v3), .val (.ref b1), .val (.int (v2 &&& (7 : Int32))), .val (.ref b29), .val (.int (1 : Int32)), .unset, .unset] [(.ref b29), (.ref b1)])) rfl (by rw [hml]; rfl) (Steps.refl _) (argsL := [(.ref b29)]) (rest := []) (lenOf pd_2 rfl) rfl (by show 2 * 0 + _ ≤ _; exact Nat.le_of_eq rfl) (hb hby at_148) (fun _ _ => ⟨rfl, rfl, (by decide : 0 + 1 + 0 + 1 + 0 + 0 ≤ _), (by decide : 0 + 1 + 0 + 1 + 0 + 0 ≤ _)⟩)
      dsimp only [Pt.U, Pt.locs, Pt.cells, Pt.slots] at X42 l42 y42 z42 st42 hQ42
      subst l42 y42 z42
      obtain ⟨rfl, N42q, e42⟩ := hQ42
      have N42 := Fr.app N36 N42q
      refine Ends.st (S' := T42.setTop (mkF m 151 #[.val (.long v0), .second, .val (.long v1), .second, .val (.int v2), .val (.int v3), .val (.ref b1), .val (.int (v2 &&& (7 : Int32))), .val (.ref b29), .val (.int (1 : Int32)), .unset, .unset] [(.int (if v0 = v0 then 1 else 0))])) (fun _ k => st42.trans k) ?_
      refine Ends.st (S' := T42.setTop (mkF m 153 #[.val (.long v0), .second, .val (.long v1), .second, .val (.int v2), .val (.int v3), .val (.ref b1), .val (.int (v2 &&& (7 : Int32))), .val (.ref b29), .val (.int (1 : Int32)), .unset, .unset] [(.int (1 : Int32)), (.int (if v0 = v0 then 1 else 0))])) (fun _ k => XS.iload X42.here hx rfl (hb hby at_151) rfl k) ?_
      have hb43 : (if v0 = v0 then 1 else 0) = (1 : Int32) := if_pos rfl
      refine Ends.st (S' := T42.setTop (mkF m 156 #[.val (.long v0), .second, .val (.long v1), .second, .val (.int v2), .val (.int v3), .val (.ref b1), .val (.int (v2 &&& (7 : Int32))), .val (.ref b29), .val (.int (1 : Int32)), .unset, .unset] [])) (fun _ k => XS.icmpNo X42.here hx rfl (hb hby at_153) rfl (teq hb43).2 k) ?_
      refine Ends.st (S' := T42.setTop (mkF m 157 #[.val (.long v0), .second, .val (.long v1), .second, .val (.int v2), .val (.int v3), .val (.ref b1), .val (.int (v2 &&& (7 : Int32))), .val (.ref b29), .val (.int (1 : Int32)), .unset, .unset] [(.int (1 : Int32))])) (fun _ k => XS.iconst X42.here hx rfl (hb hby at_156) k) ?_
      refine Ends.st (S' := T42.setTop (mkF m 161 #[.val (.long v0), .second, .val (.long v1), .second, .val (.int v2), .val (.int v3), .val (.ref b1), .val (.int (v2 &&& (7 : Int32))), .val (.ref b29), .val (.int (1 : Int32)), .unset, .unset] [(.int (1 : Int32))])) (fun _ k => XS.goto X42.here hx rfl (pc0 := 157) (pc' := 161) rfl (hb hby at_157) (by decide) (by decide) k) ?_
      obtain ⟨fs, hr, hrun, hended, hW, hsame⟩ := X42.leave (v := some (.int (1 : Int32))) (fun h => by rw [Bd.returns] at h; cases h)
      exact ⟨_, _, retN X42 hx (t := .boolean) Bd.returns (by simp) (hb hby at_161) hr, hrun, hended, _, _, rfl, (by show Q0 Z  h0 n0 _ T42.heap _; rw [e42]; exact ⟨rfl, N42⟩), ⟨_, rfl⟩, hW, hsame.mono (by decide) (by decide)⟩
    · refine Ends.st (S' := T5.setTop (mkF m 70 #[.val (.long v0), .second, .val (.long v1), .second, .val (.int v2), .val (.int v3), .val (.ref b1), .val (.int (v2 &&& (7 : Int32))), .unset, .unset, .unset, .unset] [])) (fun _ k => XS.icmpYes X5.here hx rfl (pc0 := 51) (pc' := 70) rfl (hb hby at_51) rfl (feq hc28).2 (by decide) (by decide) k) ?_
      refine Ends.st (S' := T5.setTop (mkF m 72 #[.val (.long v0), .second, .val (.long v1), .second, .val (.int v2), .val (.int v3), .val (.ref b1), .val (.int (v2 &&& (7 : Int32))), .unset, .unset, .unset, .unset] [(.int (v2 &&& (7 : Int32)))])) (fun _ k => XS.iload X5.here hx rfl (hb hby at_70) rfl k) ?_
      refine Ends.st (S' := T5.setTop (mkF m 73 #[.val (.long v0), .second, .val (.long v1), .second, .val (.int v2), .val (.int v3), .val (.ref b1), .val (.int (v2 &&& (7 : Int32))), .unset, .unset, .unset, .unset] [(.int (2 : Int32)), (.int (v2 &&& (7 : Int32)))])) (fun _ k => XS.iconst X5.here hx rfl (hb hby at_72) k) ?_
      by_cases hc44 : (v2 &&& (7 : Int32)) = (2 : Int32)
      · refine Ends.st (S' := T5.setTop (mkF m 76 #[.val (.long v0), .second, .val (.long v1), .second, .val (.int v2), .val (.int v3), .val (.ref b1), .val (.int (v2 &&& (7 : Int32))), .unset, .unset, .unset, .unset] [])) (fun _ k => XS.icmpNo X5.here hx rfl (hb hby at_73) rfl (teq hc44).2 k) ?_
        refine Ends.st (S' := T5.setTop (mkF m 77 #[.val (.long v0), .second, .val (.long v1), .second, .val (.int v2), .val (.int v3), .val (.ref b1), .val (.int (v2 &&& (7 : Int32))), .unset, .unset, .unset, .unset] [(.long v0)])) (fun _ k => XS.lloadN X5.here hx rfl (hb hby at_76) rfl k) ?_
        refine Ends.st (S' := T5.setTop (mkF m 78 #[.val (.long v0), .second, .val (.long v1), .second, .val (.int v2), .val (.int v3), .val (.ref b1), .val (.int (v2 &&& (7 : Int32))), .unset, .unset, .unset, .unset] [(.long (1 : Int64)), (.long v0)])) (fun _ k => XS.lconst X5.here hx rfl (hb hby at_77) k) ?_
        refine Ends.st (S' := T5.setTop (mkF m 80 #[.val (.long v0), .second, .val (.long v1), .second, .val (.int v2), .val (.int v3), .val (.ref b1), .val (.int (v2 &&& (7 : Int32))), .unset, .unset, .unset, .unset] [(.int v3), (.long (1 : Int64)), (.long v0)])) (fun _ k => XS.iload X5.here hx rfl (hb hby at_78) rfl k) ?_
        refine Ends.st (S' := T5.setTop (mkF m 82 #[.val (.long v0), .second, .val (.long v1), .second, .val (.int v2), .val (.int v3), .val (.ref b1), .val (.int (v2 &&& (7 : Int32))), .unset, .unset, .unset, .unset] [(.int (63 : Int32)), (.int v3), (.long (1 : Int64)), (.long v0)])) (fun _ k => XS.bipush X5.here hx rfl (hb hby at_80) k) ?_
        refine Ends.st (S' := T5.setTop (mkF m 83 #[.val (.long v0), .second, .val (.long v1), .second, .val (.int v2), .val (.int v3), .val (.ref b1), .val (.int (v2 &&& (7 : Int32))), .unset, .unset, .unset, .unset] [(.int (v3 &&& (63 : Int32))), (.long (1 : Int64)), (.long v0)])) (fun _ k => XS.iand X5.here hx rfl (hb hby at_82) rfl k) ?_
        refine Ends.st (S' := T5.setTop (mkF m 84 #[.val (.long v0), .second, .val (.long v1), .second, .val (.int v2), .val (.int v3), .val (.ref b1), .val (.int (v2 &&& (7 : Int32))), .unset, .unset, .unset, .unset] [(.long ((1 : Int64) <<< ((v3 &&& (63 : Int32)) &&& 0x3f).toInt64)), (.long v0)])) (fun _ k => XS.lshl X5.here hx rfl (hb hby at_83) rfl k) ?_
        refine Ends.st (S' := T5.setTop (mkF m 85 #[.val (.long v0), .second, .val (.long v1), .second, .val (.int v2), .val (.int v3), .val (.ref b1), .val (.int (v2 &&& (7 : Int32))), .unset, .unset, .unset, .unset] [(.long (v0 ^^^ ((1 : Int64) <<< ((v3 &&& (63 : Int32)) &&& 0x3f).toInt64)))])) (fun _ k => XS.lxor X5.here hx rfl (hb hby at_84) rfl k) ?_
        refine Ends.st (S' := T5.setTop (mkF m 87 #[.val (.long v0), .second, .val (.long v1), .second, .val (.int v2), .val (.int v3), .val (.ref b1), .val (.int (v2 &&& (7 : Int32))), .unset, .unset, .val (.long (v0 ^^^ ((1 : Int64) <<< ((v3 &&& (63 : Int32)) &&& 0x3f).toInt64))), .second] [])) (fun _ k => XS.lstore X5.here hx rfl (hb hby at_85) rfl (l' := #[.val (.long v0), .second, .val (.long v1), .second, .val (.int v2), .val (.int v3), .val (.ref b1), .val (.int (v2 &&& (7 : Int32))), .unset, .unset, .val (.long (v0 ^^^ ((1 : Int64) <<< ((v3 &&& (63 : Int32)) &&& 0x3f).toInt64))), .second]) rfl k) ?_
        obtain ⟨T45, h45, X45, e45, E45, A45, D45, -, st45⟩ := newO X5 hx hZ hown (hw _ (List.mem_of_getElem? (i := 0) rfl)) (hw _ (List.mem_of_getElem? (i := 1) rfl)) (hw _ (List.mem_of_getElem? (i := 2) rfl)) rfl (g := (mkF m 87 #[.val (.long v0), .second, .val (.long v1), .second, .val (.int v2), .val (.int v3), .val (.ref b1), .val (.int (v2 &&& (7 : Int32))), .unset, .unset, .val (.long (v0 ^^^ ((1 : Int64) <<< ((v3 &&& (63 : Int32)) &&& 0x3f).toInt64))), .second] [])) rfl (hb hby at_87) (by decide) (by decide)
        obtain ⟨b45, g45⟩ : ∃ z, z = T5.heap.size := ⟨_, rfl⟩
        rw [← g45] at A45 D45 st45
        have ne46 : b1 ≠ b45 := Nat.ne_of_lt (Nat.lt_of_lt_of_le f8.lt (Nat.le_of_eq g45.symm))
        have g_b45 : n0 ≤ b45 := Nat.le_trans f6 (Nat.le_of_eq g45.symm)
        have f47 := Nat.le_trans f6 E45.1
        have f48 := f7.ext E45
        have f49 := f8.ext E45
        have f50 := G5.ext E45
        have F51 : Fld Z h45 b45 "com/example/umpteenth_copy/umpteenthcopy/engine/Fingerprint" "bits" "J" (.long (0 : Int64)) := D45 (Or.inr (hw _ (List.mem_of_getElem? (i := 10) rfl))) (ty := .long) (by decide)
        refine Ends.st (S' := T45.setTop (mkF m 90 #[.val (.long v0), .second, .val (.long v1), .second, .val (.int v2), .val (.int v3), .val (.ref b1), .val (.int (v2 &&& (7 : Int32))), .unset, .unset, .val (.long (v0 ^^^ ((1 : Int64) <<< ((v3 &&& (63 : Int32)) &&& 0x3f).toInt64))), .second] [(.ref b45)])) (fun _ k => st45 _ k) ?_
        refine Ends.st (S' := T45.setTop (mkF m 91 #[.val (.long v0), .second, .val (.long v1), .second, .val (.int v2), .val (.int v3), .val (.ref b1), .val (.int (v2 &&& (7 : Int32))), .unset, .unset, .val (.long (v0 ^^^ ((1 : Int64) <<< ((v3 &&& (63 : Int32)) &&& 0x3f).toInt64))), .second] [(.ref b45), (.ref b45)])) (fun _ k => XS.dup X45.here hx rfl (hb hby at_90) rfl rfl k) ?_
        refine Ends.st (S' := T45.setTop (mkF m 93 #[.val (.long v0), .second, .val (.long v1), .second, .val (.int v2), .val (.int v3), .val (.ref b1), .val (.int (v2 &&& (7 : Int32))), .unset, .unset, .val (.long (v0 ^^^ ((1 : Int64) <<< ((v3 &&& (63 : Int32)) &&& 0x3f).toInt64))), .second] [(.long (v0 ^^^ ((1 : Int64) <<< ((v3 &&& (63 : Int32)) &&& 0x3f).toInt64))), (.ref b45), (.ref b45)])) (fun _ k => XS.lload X45.here hx rfl (hb hby at_91) rfl k) ?_
        obtain ⟨_, _, ⟨T52, L52, k52, n52⟩, -, X52, ⟨Lc52, hQ52, l52, y52, z52⟩, st52⟩ := X45.specialBack hx (y := (⟨"com/example/umpteenth_copy/umpteenthcopy/engine/Fingerprint", "<init>", "(J)V"⟩ : MethodName)) rfl hown (mvT hZ (hw _ (List.mem_of_getElem? (i := 3) rfl))) (mvT hZ (hw _ (List.mem_of_getElem? (i := 4) rfl))) (mvT hZ (hw _ (List.mem_of_getElem? (i := 5) rfl))) (by decide) (backOf (W := 1) (rm1 l Z a0 hw [] b45 (v0 ^^^ ((1 : Int64) <<< ((v3 &&& (63 : Int32)) &&& 0x3f).toInt64)) h45 n0 f47 F51 A45 g_b45) hZ (hw _ (List.mem_of_getElem? (i := 5) rfl)) (hw _ (List.mem_of_getElem? (i := 2) rfl)) (by decide) (by decide)) (g := (mkF m 93 #[.val (.long v0), .second, .val (.long v1), .second, .val (.int v2), .val (.int v3), .val (.ref b1), .val (.int (v2 &&& (7 : Int32))), .unset, .unset, .val (.long (v0 ^^^ ((1 : Int64) <<< ((v3 &&& (63 : Int32)) &&& 0x3f).toInt64))), .second] [(.long (v0 ^^^ ((1 : Int64) <<< ((v3 &&& (63 : Int32)) &&& 0x3f).toInt64))), (.ref b45), (.ref b45)])) rfl (by rw [hml]; rfl) (Steps.refl _) (a := b45) (argsL := [(.long (v0 ^^^ ((1 : Int64) <<< ((v3 &&& (63 : Int32)) &&& 0x3f).toInt64)))]) (rest := [(.ref b45)]) (lenOf pd_1 rfl) rfl (by show 2 * 0 + _ ≤ _; exact Nat.le_of_eq rfl) (hb hby at_93) (fun _ _ => ⟨rfl, e45, (by decide : 0 + 1 + 0 + 1 + 0 ≤ _), (by decide : 0 + 1 + 0 + 1 + 0 ≤ _)⟩)
        dsimp only [Pt.U, Pt.locs, Pt.cells, Pt.slots] at X52 l52 y52 z52 st52 hQ52
        subst l52 y52 z52
        obtain ⟨rfl, N52q, K52, G52⟩ := hQ52
        have N52 := Fr.app N5 N52q
        have f53 := Nat.le_trans f47 K52.1
        have f54 := f48.keep K52 (allS g_b45 all0)
        have f55 := f49.keep K52
        have f56 := f50.keep K52 (ninS ne46 nin0)
        have f57 := A45.keep K52
        refine Ends.st (S' := T52.setTop (mkF m 96 #[.val (.long v0), .second, .val (.long v1), .second, .val (.int v2), .val (.int v3), .val (.ref b1), .val (.int (v2 &&& (7 : Int32))), .unset, .unset, .val (.long (v0 ^^^ ((1 : Int64) <<< ((v3 &&& (63 : Int32)) &&& 0x3f).toInt64))), .second] [(.ref b45)])) (fun _ k => st52.trans k) ?_
        refine Ends.st (S' := T52.setTop (mkF m 98 #[.val (.long v0), .second, .val (.long v1), .second, .val (.int v2), .val (.int v3), .val (.ref b1), .val (.int (v2 &&& (7 : Int32))), .val (.ref b45), .unset, .val (.long (v0 ^^^ ((1 : Int64) <<< ((v3 &&& (63 : Int32)) &&& 0x3f).toInt64))), .second] [])) (fun _ k => XS.astore X52.here hx rfl (hb hby at_96) rfl rfl (l' := #[.val (.long v0), .second, .val (.long v1), .second, .val (.int v2), .val (.int v3), .val (.ref b1), .val (.int (v2 &&& (7 : Int32))), .val (.ref b45), .unset, .val (.long (v0 ^^^ ((1 : Int64) <<< ((v3 &&& (63 : Int32)) &&& 0x3f).toInt64))), .second]) rfl k) ?_
        refine Ends.st (S' := T52.setTop (mkF m 99 #[.val (.long v0), .second, .val (.long v1), .second, .val (.int v2), .val (.int v3), .val (.ref b1), .val (.int (v2 &&& (7 : Int32))), .val (.ref b45), .unset, .val (.long (v0 ^^^ ((1 : Int64) <<< ((v3 &&& (63 : Int32)) &&& 0x3f).toInt64))), .second] [(.int (0 : Int32))])) (fun _ k => XS.iconst X52.here hx rfl (hb hby at_98) k) ?_
        refine Ends.st (S' := T52.setTop (mkF m 101 #[.val (.long v0), .second, .val (.long v1), .second, .val (.int v2), .val (.int v3), .val (.ref b1), .val (.int (v2 &&& (7 : Int32))), .val (.ref b45), .val (.int (0 : Int32)), .val (.long (v0 ^^^ ((1 : Int64) <<< ((v3 &&& (63 : Int32)) &&& 0x3f).toInt64))), .second] [])) (fun _ k => XS.istore X52.here hx rfl (hb hby at_99) rfl (l' := #[.val (.long v0), .second, .val (.long v1), .second, .val (.int v2), .val (.int v3), .val (.ref b1), .val (.int (v2 &&& (7 : Int32))), .val (.ref b45), .val (.int (0 : Int32)), .val (.long (v0 ^^^ ((1 : Int64) <<< ((v3 &&& (63 : Int32)) &&& 0x3f).toInt64))), .second]) rfl k) ?_
        refine Ends.st (S' := T52.setTop (mkF m 144 #[.val (.long v0), .second, .val (.long v1), .second, .val (.int v2), .val (.int v3), .val (.ref b1), .val (.int (v2 &&& (7 : Int32))), .val (.ref b45), .val (.int (0 : Int32)), .val (.long (v0 ^^^ ((1 : Int64) <<< ((v3 &&& (63 : Int32)) &&& 0x3f).toInt64))), .second] [])) (fun _ k => XS.goto X52.here hx rfl (pc0 := 101) (pc' := 144) rfl (hb hby at_101) (by decide) (by decide) k) ?_
        refine Ends.st (S' := T52.setTop (mkF m 146 #[.val (.long v0), .second, .val (.long v1), .second, .val (.int v2), .val (.int v3), .val (.ref b1), .val (.int (v2 &&& (7 : Int32))), .val (.ref b45), .val (.int (0 : Int32)), .val (.long (v0 ^^^ ((1 : Int64) <<< ((v3 &&& (63 : Int32)) &&& 0x3f).toInt64))), .second] [(.ref b1)])) (fun _ k => XS.aload X52.here hx rfl (hb hby at_144) rfl rfl k) ?_
        refine Ends.st (S' := T52.setTop (mkF m 148 #[.val (.long v0), .second, .val (.long v1), .second, .val (.int v2), .val (.int v3), .val (.ref b1), .val (.int (v2 &&& (7 : Int32))), .val (.ref b45), .val (.int (0 : Int32)), .val (.long (v0 ^^^ ((1 : Int64) <<< ((v3 &&& (63 : Int32)) &&& 0x3f).toInt64))), .second] [(.ref b45), (.ref b1)])) (fun _ k => XS.aload X52.here hx rfl (hb hby at_146) rfl rfl k) ?_
        obtain ⟨cq58, kq58, q58a, q58b, q58c⟩ := isOf hZ rfl (f55)
        obtain ⟨_, _, ⟨T58, L58, k58, n58⟩, -, X58, ⟨Lc58, hQ58, l58, y58, z58⟩, st58⟩ := X52.virtualBack hx (y := (⟨"com/example/umpteenth_copy/umpteenthcopy/engine/Fingerprint", "equals", "(Ljava/lang/Object;)Z"⟩ : MethodName)) (z := (⟨"com/example/umpteenth_copy/umpteenthcopy/engine/Fingerprint", "equals", "(Ljava/lang/Object;)Z"⟩ : MethodName)) hown (mvT hZ (hw _ (List.mem_of_getElem? (i := 11) rfl))) (mvT hZ (hw _ (List.mem_of_getElem? (i := 12) rfl))) (notFace_of_selects (args := #[]) (mvT hZ (hw _ (List.mem_of_getElem? (i := 14) rfl)))) (mvT hZ (hw _ (List.mem_of_getElem? (i := 14) rfl))) (mvT hZ (hw _ (List.mem_of_getElem? (i := 13) rfl))) (by decide) (backOf (W := 0) (rm3a l Z a0 hw [] b1 b45 v0 (v0 ^^^ ((1 : Int64) <<< ((v3 &&& (63 : Int32)) &&& 0x3f).toInt64)) T52.heap n0 f53 f56 G52 f57) hZ (hw _ (List.mem_of_getElem? (i := 15) rfl)) (hw _ (List.mem_of_getElem? (i := 2) rfl)) (by decide) (by decide)) q58a q58c (g := (mkF m 148 #[.val (.long v0), .second, .val (.long v1), .second, .val (.int v2), .val (.int v3), .val (.ref b1), .val (.int (v2 &&& (7 : Int32))), .val (.ref b45), .val (.int (0 : Int32)), .val (.long (v0 ^^^ ((1 : Int64) <<< ((v3 &&& (63 : Int32)) &&& 0x3f).toInt64))), .second] [(.ref b45), (.ref b1)])) rfl (by rw [hml]; rfl) (Steps.refl _) (argsL := [(.ref b45)]) (rest := []) (lenOf pd_2 rfl) rfl (by show 2 * 0 + _ ≤ _; exact Nat.le_of_eq rfl) (hb hby at_148) (fun _ _ => ⟨rfl, rfl, (by decide : 0 + 1 + 0 + 1 + 0 + 0 ≤ _), (by decide : 0 + 1 + 0 + 1 + 0 + 0 ≤ _)⟩)
        dsimp only [Pt.U, Pt.locs, Pt.cells, Pt.slots] at X58 l58 y58 z58 st58 hQ58
        subst l58 y58 z58
        obtain ⟨rfl, N58q, e58⟩ := hQ58
        have N58 := Fr.app N52 N58q
        refine Ends.st (S' := T58.setTop (mkF m 151 #[.val (.long v0), .second, .val (.long v1), .second, .val (.int v2), .val (.int v3), .val (.ref b1), .val (.int (v2 &&& (7 : Int32))), .val (.ref b45), .val (.int (0 : Int32)), .val (.long (v0 ^^^ ((1 : Int64) <<< ((v3 &&& (63 : Int32)) &&& 0x3f).toInt64))), .second] [(.int (if (v0 ^^^ ((1 : Int64) <<< ((v3 &&& (63 : Int32)) &&& 0x3f).toInt64)) = v0 then 1 else 0))])) (fun _ k => st58.trans k) ?_
        refine Ends.st (S' := T58.setTop (mkF m 153 #[.val (.long v0), .second, .val (.long v1), .second, .val (.int v2), .val (.int v3), .val (.ref b1), .val (.int (v2 &&& (7 : Int32))), .val (.ref b45), .val (.int (0 : Int32)), .val (.long (v0 ^^^ ((1 : Int64) <<< ((v3 &&& (63 : Int32)) &&& 0x3f).toInt64))), .second] [(.int (0 : Int32)), (.int (if (v0 ^^^ ((1 : Int64) <<< ((v3 &&& (63 : Int32)) &&& 0x3f).toInt64)) = v0 then 1 else 0))])) (fun _ k => XS.iload X58.here hx rfl (hb hby at_151) rfl k) ?_
        have hb59 : (if (v0 ^^^ ((1 : Int64) <<< ((v3 &&& (63 : Int32)) &&& 0x3f).toInt64)) = v0 then 1 else 0) = (0 : Int32) := if_neg (own_flip _ _)
        refine Ends.st (S' := T58.setTop (mkF m 156 #[.val (.long v0), .second, .val (.long v1), .second, .val (.int v2), .val (.int v3), .val (.ref b1), .val (.int (v2 &&& (7 : Int32))), .val (.ref b45), .val (.int (0 : Int32)), .val (.long (v0 ^^^ ((1 : Int64) <<< ((v3 &&& (63 : Int32)) &&& 0x3f).toInt64))), .second] [])) (fun _ k => XS.icmpNo X58.here hx rfl (hb hby at_153) rfl (teq hb59).2 k) ?_
        refine Ends.st (S' := T58.setTop (mkF m 157 #[.val (.long v0), .second, .val (.long v1), .second, .val (.int v2), .val (.int v3), .val (.ref b1), .val (.int (v2 &&& (7 : Int32))), .val (.ref b45), .val (.int (0 : Int32)), .val (.long (v0 ^^^ ((1 : Int64) <<< ((v3 &&& (63 : Int32)) &&& 0x3f).toInt64))), .second] [(.int (1 : Int32))])) (fun _ k => XS.iconst X58.here hx rfl (hb hby at_156) k) ?_
        refine Ends.st (S' := T58.setTop (mkF m 161 #[.val (.long v0), .second, .val (.long v1), .second, .val (.int v2), .val (.int v3), .val (.ref b1), .val (.int (v2 &&& (7 : Int32))), .val (.ref b45), .val (.int (0 : Int32)), .val (.long (v0 ^^^ ((1 : Int64) <<< ((v3 &&& (63 : Int32)) &&& 0x3f).toInt64))), .second] [(.int (1 : Int32))])) (fun _ k => XS.goto X58.here hx rfl (pc0 := 157) (pc' := 161) rfl (hb hby at_157) (by decide) (by decide) k) ?_
        obtain ⟨fs, hr, hrun, hended, hW, hsame⟩ := X58.leave (v := some (.int (1 : Int32))) (fun h => by rw [Bd.returns] at h; cases h)
        exact ⟨_, _, retN X58 hx (t := .boolean) Bd.returns (by simp) (hb hby at_161) hr, hrun, hended, _, _, rfl, (by show Q0 Z  h0 n0 _ T58.heap _; rw [e58]; exact ⟨rfl, N58⟩), ⟨_, rfl⟩, hW, hsame.mono (by decide) (by decide)⟩
      · refine Ends.st (S' := T5.setTop (mkF m 104 #[.val (.long v0), .second, .val (.long v1), .second, .val (.int v2), .val (.int v3), .val (.ref b1), .val (.int (v2 &&& (7 : Int32))), .unset, .unset, .unset, .unset] [])) (fun _ k => XS.icmpYes X5.here hx rfl (pc0 := 73) (pc' := 104) rfl (hb hby at_73) rfl (feq hc44).2 (by decide) (by decide) k) ?_
        refine Ends.st (S' := T5.setTop (mkF m 106 #[.val (.long v0), .second, .val (.long v1), .second, .val (.int v2), .val (.int v3), .val (.ref b1), .val (.int (v2 &&& (7 : Int32))), .unset, .unset, .unset, .unset] [(.int (v2 &&& (7 : Int32)))])) (fun _ k => XS.iload X5.here hx rfl (hb hby at_104) rfl k) ?_
        refine Ends.st (S' := T5.setTop (mkF m 107 #[.val (.long v0), .second, .val (.long v1), .second, .val (.int v2), .val (.int v3), .val (.ref b1), .val (.int (v2 &&& (7 : Int32))), .unset, .unset, .unset, .unset] [(.int (3 : Int32)), (.int (v2 &&& (7 : Int32)))])) (fun _ k => XS.iconst X5.here hx rfl (hb hby at_106) k) ?_
        by_cases hc60 : (v2 &&& (7 : Int32)) = (3 : Int32)
        · refine Ends.st (S' := T5.setTop (mkF m 110 #[.val (.long v0), .second, .val (.long v1), .second, .val (.int v2), .val (.int v3), .val (.ref b1), .val (.int (v2 &&& (7 : Int32))), .unset, .unset, .unset, .unset] [])) (fun _ k => XS.icmpNo X5.here hx rfl (hb hby at_107) rfl (teq hc60).2 k) ?_
          refine Ends.st (S' := T5.setTop (mkF m 111 #[.val (.long v0), .second, .val (.long v1), .second, .val (.int v2), .val (.int v3), .val (.ref b1), .val (.int (v2 &&& (7 : Int32))), .unset, .unset, .unset, .unset] [.null])) (fun _ k => XS.aconstNull X5.here hx rfl (hb hby at_110) k) ?_
          refine Ends.st (S' := T5.setTop (mkF m 113 #[.val (.long v0), .second, .val (.long v1), .second, .val (.int v2), .val (.int v3), .val (.ref b1), .val (.int (v2 &&& (7 : Int32))), .val .null, .unset, .unset, .unset] [])) (fun _ k => XS.astore X5.here hx rfl (hb hby at_111) rfl rfl (l' := #[.val (.long v0), .second, .val (.long v1), .second, .val (.int v2), .val (.int v3), .val (.ref b1), .val (.int (v2 &&& (7 : Int32))), .val .null, .unset, .unset, .unset]) rfl k) ?_
          refine Ends.st (S' := T5.setTop (mkF m 114 #[.val (.long v0), .second, .val (.long v1), .second, .val (.int v2), .val (.int v3), .val (.ref b1), .val (.int (v2 &&& (7 : Int32))), .val .null, .unset, .unset, .unset] [(.int (0 : Int32))])) (fun _ k => XS.iconst X5.here hx rfl (hb hby at_113) k) ?_
          refine Ends.st (S' := T5.setTop (mkF m 116 #[.val (.long v0), .second, .val (.long v1), .second, .val (.int v2), .val (.int v3), .val (.ref b1), .val (.int (v2 &&& (7 : Int32))), .val .null, .val (.int (0 : Int32)), .unset, .unset] [])) (fun _ k => XS.istore X5.here hx rfl (hb hby at_114) rfl (l' := #[.val (.long v0), .second, .val (.long v1), .second, .val (.int v2), .val (.int v3), .val (.ref b1), .val (.int (v2 &&& (7 : Int32))), .val .null, .val (.int (0 : Int32)), .unset, .unset]) rfl k) ?_
          refine Ends.st (S' := T5.setTop (mkF m 144 #[.val (.long v0), .second, .val (.long v1), .second, .val (.int v2), .val (.int v3), .val (.ref b1), .val (.int (v2 &&& (7 : Int32))), .val .null, .val (.int (0 : Int32)), .unset, .unset] [])) (fun _ k => XS.goto X5.here hx rfl (pc0 := 116) (pc' := 144) rfl (hb hby at_116) (by decide) (by decide) k) ?_
          refine Ends.st (S' := T5.setTop (mkF m 146 #[.val (.long v0), .second, .val (.long v1), .second, .val (.int v2), .val (.int v3), .val (.ref b1), .val (.int (v2 &&& (7 : Int32))), .val .null, .val (.int (0 : Int32)), .unset, .unset] [(.ref b1)])) (fun _ k => XS.aload X5.here hx rfl (hb hby at_144) rfl rfl k) ?_
          refine Ends.st (S' := T5.setTop (mkF m 148 #[.val (.long v0), .second, .val (.long v1), .second, .val (.int v2), .val (.int v3), .val (.ref b1), .val (.int (v2 &&& (7 : Int32))), .val .null, .val (.int (0 : Int32)), .unset, .unset] [.null, (.ref b1)])) (fun _ k => XS.aload X5.here hx rfl (hb hby at_146) rfl rfl k) ?_
          obtain ⟨cq61, kq61, q61a, q61b, q61c⟩ := isOf hZ rfl (f8)
          obtain ⟨_, _, ⟨T61, L61, k61, n61⟩, -, X61, ⟨Lc61, hQ61, l61, y61, z61⟩, st61⟩ := X5.virtualBack hx (y := (⟨"com/example/umpteenth_copy/umpteenthcopy/engine/Fingerprint", "equals", "(Ljava/lang/Object;)Z"⟩ : MethodName)) (z := (⟨"com/example/umpteenth_copy/umpteenthcopy/engine/Fingerprint", "equals", "(Ljava/lang/Object;)Z"⟩ : MethodName)) hown (mvT hZ (hw _ (List.mem_of_getElem? (i := 11) rfl))) (mvT hZ (hw _ (List.mem_of_getElem? (i := 12) rfl))) (notFace_of_selects (args := #[]) (mvT hZ (hw _ (List.mem_of_getElem? (i := 14) rfl)))) (mvT hZ (hw _ (List.mem_of_getElem? (i := 14) rfl))) (mvT hZ (hw _ (List.mem_of_getElem? (i := 13) rfl))) (by decide) (backOf (W := 0) (rm3b l Z a0 hw [] b1 T5.heap n0 f6) hZ (hw _ (List.mem_of_getElem? (i := 15) rfl)) (hw _ (List.mem_of_getElem? (i := 2) rfl)) (by decide) (by decide)) q61a q61c (g := (mkF m 148 #[.val (.long v0), .second, .val (.long v1), .second, .val (.int v2), .val (.int v3), .val (.ref b1), .val (.int (v2 &&& (7 : Int32))), .val .null, .val (.int (0 : Int32)), .unset, .unset] [.null, (.ref b1)])) rfl (by rw [hml]; rfl) (Steps.refl _) (argsL := [.null]) (rest := []) (lenOf pd_2 rfl) rfl (by show 2 * 0 + _ ≤ _; exact Nat.le_of_eq rfl) (hb hby at_148) (fun _ _ => ⟨rfl, rfl, (by decide : 0 + 1 + 0 + 0 ≤ _), (by decide : 0 + 1 + 0 + 0 ≤ _)⟩)
          dsimp only [Pt.U, Pt.locs, Pt.cells, Pt.slots] at X61 l61 y61 z61 st61 hQ61
          subst l61 y61 z61
          obtain ⟨rfl, N61q, e61⟩ := hQ61
          have N61 := Fr.app N5 N61q
          refine Ends.st (S' := T61.setTop (mkF m 151 #[.val (.long v0), .second, .val (.long v1), .second, .val (.int v2), .val (.int v3), .val (.ref b1), .val (.int (v2 &&& (7 : Int32))), .val .null, .val (.int (0 : Int32)), .unset, .unset] [(.int (0 : Int32))])) (fun _ k => st61.trans k) ?_
          refine Ends.st (S' := T61.setTop (mkF m 153 #[.val (.long v0), .second, .val (.long v1), .second, .val (.int v2), .val (.int v3), .val (.ref b1), .val (.int (v2 &&& (7 : Int32))), .val .null, .val (.int (0 : Int32)), .unset, .unset] [(.int (0 : Int32)), (.int (0 : Int32))])) (fun _ k => XS.iload X61.here hx rfl (hb hby at_151) rfl k) ?_
          refine Ends.st (S' := T61.setTop (mkF m 156 #[.val (.long v0), .second, .val (.long v1), .second, .val (.int v2), .val (.int v3), .val (.ref b1), .val (.int (v2 &&& (7 : Int32))), .val .null, .val (.int (0 : Int32)), .unset, .unset] [])) (fun _ k => XS.icmpNo X61.here hx rfl (hb hby at_153) rfl (teq (by decide : (0 : Int32) = (0 : Int32))).2 k) ?_
          refine Ends.st (S' := T61.setTop (mkF m 157 #[.val (.long v0), .second, .val (.long v1), .second, .val (.int v2), .val (.int v3), .val (.ref b1), .val (.int (v2 &&& (7 : Int32))), .val .null, .val (.int (0 : Int32)), .unset, .unset] [(.int (1 : Int32))])) (fun _ k => XS.iconst X61.here hx rfl (hb hby at_156) k) ?_
          refine Ends.st (S' := T61.setTop (mkF m 161 #[.val (.long v0), .second, .val (.long v1), .second, .val (.int v2), .val (.int v3), .val (.ref b1), .val (.int (v2 &&& (7 : Int32))), .val .null, .val (.int (0 : Int32)), .unset, .unset] [(.int (1 : Int32))])) (fun _ k => XS.goto X61.here hx rfl (pc0 := 157) (pc' := 161) rfl (hb hby at_157) (by decide) (by decide) k) ?_
          obtain ⟨fs, hr, hrun, hended, hW, hsame⟩ := X61.leave (v := some (.int (1 : Int32))) (fun h => by rw [Bd.returns] at h; cases h)
          exact ⟨_, _, retN X61 hx (t := .boolean) Bd.returns (by simp) (hb hby at_161) hr, hrun, hended, _, _, rfl, (by show Q0 Z  h0 n0 _ T61.heap _; rw [e61]; exact ⟨rfl, N61⟩), ⟨_, rfl⟩, hW, hsame.mono (by decide) (by decide)⟩
        · refine Ends.st (S' := T5.setTop (mkF m 119 #[.val (.long v0), .second, .val (.long v1), .second, .val (.int v2), .val (.int v3), .val (.ref b1), .val (.int (v2 &&& (7 : Int32))), .unset, .unset, .unset, .unset] [])) (fun _ k => XS.icmpYes X5.here hx rfl (pc0 := 107) (pc' := 119) rfl (hb hby at_107) rfl (feq hc60).2 (by decide) (by decide) k) ?_
          refine Ends.st (S' := T5.setTop (mkF m 121 #[.val (.long v0), .second, .val (.long v1), .second, .val (.int v2), .val (.int v3), .val (.ref b1), .val (.int (v2 &&& (7 : Int32))), .unset, .unset, .unset, .unset] [(.int (v2 &&& (7 : Int32)))])) (fun _ k => XS.iload X5.here hx rfl (hb hby at_119) rfl k) ?_
          refine Ends.st (S' := T5.setTop (mkF m 122 #[.val (.long v0), .second, .val (.long v1), .second, .val (.int v2), .val (.int v3), .val (.ref b1), .val (.int (v2 &&& (7 : Int32))), .unset, .unset, .unset, .unset] [(.int (4 : Int32)), (.int (v2 &&& (7 : Int32)))])) (fun _ k => XS.iconst X5.here hx rfl (hb hby at_121) k) ?_
          by_cases hc62 : (v2 &&& (7 : Int32)) = (4 : Int32)
          · refine Ends.st (S' := T5.setTop (mkF m 125 #[.val (.long v0), .second, .val (.long v1), .second, .val (.int v2), .val (.int v3), .val (.ref b1), .val (.int (v2 &&& (7 : Int32))), .unset, .unset, .unset, .unset] [])) (fun _ k => XS.icmpNo X5.here hx rfl (hb hby at_122) rfl (teq hc62).2 k) ?_
            refine Ends.st (S' := T5.setTop (mkF m 126 #[.val (.long v0), .second, .val (.long v1), .second, .val (.int v2), .val (.int v3), .val (.ref b1), .val (.int (v2 &&& (7 : Int32))), .unset, .unset, .unset, .unset] [(.long v0)])) (fun _ k => XS.lloadN X5.here hx rfl (hb hby at_125) rfl k) ?_
            obtain ⟨_, _, ⟨T63, L63, k63, n63⟩, -, X63, ⟨Lc63, hQ63, l63, y63, z63⟩, st63⟩ := Jvm.LawKit.callS X5 hx (y := (⟨"java/lang/Long", "valueOf", "(J)Ljava/lang/Long;"⟩ : MethodName)) hown (mvT hZ (hw _ (List.mem_of_getElem? (i := 18) rfl))) (mvT hZ (hw _ (List.mem_of_getElem? (i := 19) rfl))) (mvT hZ (hw _ (List.mem_of_getElem? (i := 20) rfl))) (mvT hZ (hw _ (List.mem_of_getElem? (i := 21) rfl))) (by decide) (backOf (W := 0) (rm4 l Z a0 hw [] v0 ca cl T5.heap n0 f6 f7 SC AC hsz HC) hZ (hw _ (List.mem_of_getElem? (i := 21) rfl)) (hw _ (List.mem_of_getElem? (i := 20) rfl)) (by decide) (by decide)) (g := (mkF m 126 #[.val (.long v0), .second, .val (.long v1), .second, .val (.int v2), .val (.int v3), .val (.ref b1), .val (.int (v2 &&& (7 : Int32))), .unset, .unset, .unset, .unset] [(.long v0)])) rfl (by rw [hml]; rfl) (argsL := [(.long v0)]) (rest := []) (lenOf pd_3 rfl) rfl (by show 2 * 0 + _ ≤ _; exact Nat.le_of_eq rfl) (hb hby at_126) (fun _ _ => ⟨rfl, rfl, (by decide : 0 + 1 + 0 + 1 ≤ _), (by decide : 0 + 1 + 0 + 1 ≤ _)⟩)
            dsimp only [Pt.U, Pt.locs, Pt.cells, Pt.slots] at X63 l63 y63 z63 st63 hQ63
            subst l63 y63 z63
            obtain ⟨b63, rfl, N63q, K63, G63⟩ := hQ63
            have N63 := Fr.app N5 N63q
            have f64 := Nat.le_trans f6 K63.1
            have f65 := f7.keep K63 all0
            have f66 := f8.keep K63
            have f67 := G5.keep K63 nin0
            refine Ends.st (S' := T63.setTop (mkF m 129 #[.val (.long v0), .second, .val (.long v1), .second, .val (.int v2), .val (.int v3), .val (.ref b1), .val (.int (v2 &&& (7 : Int32))), .unset, .unset, .unset, .unset] [(.ref b63)])) (fun _ k => st63 _ k) ?_
            refine Ends.st (S' := T63.setTop (mkF m 131 #[.val (.long v0), .second, .val (.long v1), .second, .val (.int v2), .val (.int v3), .val (.ref b1), .val (.int (v2 &&& (7 : Int32))), .val (.ref b63), .unset, .unset, .unset] [])) (fun _ k => XS.astore X63.here hx rfl (hb hby at_129) rfl rfl (l' := #[.val (.long v0), .second, .val (.long v1), .second, .val (.int v2), .val (.int v3), .val (.ref b1), .val (.int (v2 &&& (7 : Int32))), .val (.ref b63), .unset, .unset, .unset]) rfl k) ?_
            refine Ends.st (S' := T63.setTop (mkF m 132 #[.val (.long v0), .second, .val (.long v1), .second, .val (.int v2), .val (.int v3), .val (.ref b1), .val (.int (v2 &&& (7 : Int32))), .val (.ref b63), .unset, .unset, .unset] [(.int (0 : Int32))])) (fun _ k => XS.iconst X63.here hx rfl (hb hby at_131) k) ?_
            refine Ends.st (S' := T63.setTop (mkF m 134 #[.val (.long v0), .second, .val (.long v1), .second, .val (.int v2), .val (.int v3), .val (.ref b1), .val (.int (v2 &&& (7 : Int32))), .val (.ref b63), .val (.int (0 : Int32)), .unset, .unset] [])) (fun _ k => XS.istore X63.here hx rfl (hb hby at_132) rfl (l' := #[.val (.long v0), .second, .val (.long v1), .second, .val (.int v2), .val (.int v3), .val (.ref b1), .val (.int (v2 &&& (7 : Int32))), .val (.ref b63), .val (.int (0 : Int32)), .unset, .unset]) rfl k) ?_
            refine Ends.st (S' := T63.setTop (mkF m 144 #[.val (.long v0), .second, .val (.long v1), .second, .val (.int v2), .val (.int v3), .val (.ref b1), .val (.int (v2 &&& (7 : Int32))), .val (.ref b63), .val (.int (0 : Int32)), .unset, .unset] [])) (fun _ k => XS.goto X63.here hx rfl (pc0 := 134) (pc' := 144) rfl (hb hby at_134) (by decide) (by decide) k) ?_
            refine Ends.st (S' := T63.setTop (mkF m 146 #[.val (.long v0), .second, .val (.long v1), .second, .val (.int v2), .val (.int v3), .val (.ref b1), .val (.int (v2 &&& (7 : Int32))), .val (.ref b63), .val (.int (0 : Int32)), .unset, .unset] [(.ref b1)])) (fun _ k => XS.aload X63.here hx rfl (hb hby at_144) rfl rfl k) ?_
            refine Ends.st (S' := T63.setTop (mkF m 148 #[.val (.long v0), .second, .val (.long v1), .second, .val (.int v2), .val (.int v3), .val (.ref b1), .val (.int (v2 &&& (7 : Int32))), .val (.ref b63), .val (.int (0 : Int32)), .unset, .unset] [(.ref b63), (.ref b1)])) (fun _ k => XS.aload X63.here hx rfl (hb hby at_146) rfl rfl k) ?_
            obtain ⟨cq68, kq68, q68a, q68b, q68c⟩ := isOf hZ rfl (f66)
            obtain ⟨_, _, ⟨T68, L68, k68, n68⟩, -, X68, ⟨Lc68, hQ68, l68, y68, z68⟩, st68⟩ := X63.virtualBack hx (y := (⟨"com/example/umpteenth_copy/umpteenthcopy/engine/Fingerprint", "equals", "(Ljava/lang/Object;)Z"⟩ : MethodName)) (z := (⟨"com/example/umpteenth_copy/umpteenthcopy/engine/Fingerprint", "equals", "(Ljava/lang/Object;)Z"⟩ : MethodName)) hown (mvT hZ (hw _ (List.mem_of_getElem? (i := 11) rfl))) (mvT hZ (hw _ (List.mem_of_getElem? (i := 12) rfl))) (notFace_of_selects (args := #[]) (mvT hZ (hw _ (List.mem_of_getElem? (i := 14) rfl)))) (mvT hZ (hw _ (List.mem_of_getElem? (i := 14) rfl))) (mvT hZ (hw _ (List.mem_of_getElem? (i := 13) rfl))) (by decide) (backOf (W := 0) (rm3c l Z a0 hw [] b1 b63 T63.heap n0 f64 G63) hZ (hw _ (List.mem_of_getElem? (i := 15) rfl)) (hw _ (List.mem_of_getElem? (i := 2) rfl)) (by decide) (by decide)) q68a q68c (g := (mkF m 148 #[.val (.long v0), .second, .val (.long v1), .second, .val (.int v2), .val (.int v3), .val (.ref b1), .val (.int (v2 &&& (7 : Int32))), .val (.ref b63), .val (.int (0 : Int32)), .unset, .unset] [(.ref b63), (.ref b1)])) rfl (by rw [hml]; rfl) (Steps.refl _) (argsL := [(.ref b63)]) (rest := []) (lenOf pd_2 rfl) rfl (by show 2 * 0 + _ ≤ _; exact Nat.le_of_eq rfl) (hb hby at_148) (fun _ _ => ⟨rfl, rfl, (by decide : 0 + 1 + 0 + 1 + 0 ≤ _), (by decide : 0 + 1 + 0 + 1 + 0 ≤ _)⟩)
            dsimp only [Pt.U, Pt.locs, Pt.cells, Pt.slots] at X68 l68 y68 z68 st68 hQ68
            subst l68 y68 z68
            obtain ⟨rfl, N68q, e68⟩ := hQ68
            have N68 := Fr.app N63 N68q
            refine Ends.st (S' := T68.setTop (mkF m 151 #[.val (.long v0), .second, .val (.long v1), .second, .val (.int v2), .val (.int v3), .val (.ref b1), .val (.int (v2 &&& (7 : Int32))), .val (.ref b63), .val (.int (0 : Int32)), .unset, .unset] [(.int (0 : Int32))])) (fun _ k => st68.trans k) ?_
            refine Ends.st (S' := T68.setTop (mkF m 153 #[.val (.long v0), .second, .val (.long v1), .second, .val (.int v2), .val (.int v3), .val (.ref b1), .val (.int (v2 &&& (7 : Int32))), .val (.ref b63), .val (.int (0 : Int32)), .unset, .unset] [(.int (0 : Int32)), (.int (0 : Int32))])) (fun _ k => XS.iload X68.here hx rfl (hb hby at_151) rfl k) ?_
            refine Ends.st (S' := T68.setTop (mkF m 156 #[.val (.long v0), .second, .val (.long v1), .second, .val (.int v2), .val (.int v3), .val (.ref b1), .val (.int (v2 &&& (7 : Int32))), .val (.ref b63), .val (.int (0 : Int32)), .unset, .unset] [])) (fun _ k => XS.icmpNo X68.here hx rfl (hb hby at_153) rfl (teq (by decide : (0 : Int32) = (0 : Int32))).2 k) ?_
            refine Ends.st (S' := T68.setTop (mkF m 157 #[.val (.long v0), .second, .val (.long v1), .second, .val (.int v2), .val (.int v3), .val (.ref b1), .val (.int (v2 &&& (7 : Int32))), .val (.ref b63), .val (.int (0 : Int32)), .unset, .unset] [(.int (1 : Int32))])) (fun _ k => XS.iconst X68.here hx rfl (hb hby at_156) k) ?_
            refine Ends.st (S' := T68.setTop (mkF m 161 #[.val (.long v0), .second, .val (.long v1), .second, .val (.int v2), .val (.int v3), .val (.ref b1), .val (.int (v2 &&& (7 : Int32))), .val (.ref b63), .val (.int (0 : Int32)), .unset, .unset] [(.int (1 : Int32))])) (fun _ k => XS.goto X68.here hx rfl (pc0 := 157) (pc' := 161) rfl (hb hby at_157) (by decide) (by decide) k) ?_
            obtain ⟨fs, hr, hrun, hended, hW, hsame⟩ := X68.leave (v := some (.int (1 : Int32))) (fun h => by rw [Bd.returns] at h; cases h)
            exact ⟨_, _, retN X68 hx (t := .boolean) Bd.returns (by simp) (hb hby at_161) hr, hrun, hended, _, _, rfl, (by show Q0 Z  h0 n0 _ T68.heap _; rw [e68]; exact ⟨rfl, N68⟩), ⟨_, rfl⟩, hW, hsame.mono (by decide) (by decide)⟩
          · refine Ends.st (S' := T5.setTop (mkF m 137 #[.val (.long v0), .second, .val (.long v1), .second, .val (.int v2), .val (.int v3), .val (.ref b1), .val (.int (v2 &&& (7 : Int32))), .unset, .unset, .unset, .unset] [])) (fun _ k => XS.icmpYes X5.here hx rfl (pc0 := 122) (pc' := 137) rfl (hb hby at_122) rfl (feq hc62).2 (by decide) (by decide) k) ?_
            refine Ends.st (S' := T5.setTop (mkF m 139 #[.val (.long v0), .second, .val (.long v1), .second, .val (.int v2), .val (.int v3), .val (.ref b1), .val (.int (v2 &&& (7 : Int32))), .unset, .unset, .unset, .unset] [(.ref b1)])) (fun _ k => XS.aload X5.here hx rfl (hb hby at_137) rfl rfl k) ?_
            refine Ends.st (S' := T5.setTop (mkF m 141 #[.val (.long v0), .second, .val (.long v1), .second, .val (.int v2), .val (.int v3), .val (.ref b1), .val (.int (v2 &&& (7 : Int32))), .val (.ref b1), .unset, .unset, .unset] [])) (fun _ k => XS.astore X5.here hx rfl (hb hby at_139) rfl rfl (l' := #[.val (.long v0), .second, .val (.long v1), .second, .val (.int v2), .val (.int v3), .val (.ref b1), .val (.int (v2 &&& (7 : Int32))), .val (.ref b1), .unset, .unset, .unset]) rfl k) ?_
            refine Ends.st (S' := T5.setTop (mkF m 142 #[.val (.long v0), .second, .val (.long v1), .second, .val (.int v2), .val (.int v3), .val (.ref b1), .val (.int (v2 &&& (7 : Int32))), .val (.ref b1), .unset, .unset, .unset] [(.int (1 : Int32))])) (fun _ k => XS.iconst X5.here hx rfl (hb hby at_141) k) ?_
            refine Ends.st (S' := T5.setTop (mkF m 144 #[.val (.long v0), .second, .val (.long v1), .second, .val (.int v2), .val (.int v3), .val (.ref b1), .val (.int (v2 &&& (7 : Int32))), .val (.ref b1), .val (.int (1 : Int32)), .unset, .unset] [])) (fun _ k => XS.istore X5.here hx rfl (hb hby at_142) rfl (l' := #[.val (.long v0), .second, .val (.long v1), .second, .val (.int v2), .val (.int v3), .val (.ref b1), .val (.int (v2 &&& (7 : Int32))), .val (.ref b1), .val (.int (1 : Int32)), .unset, .unset]) rfl k) ?_
            refine Ends.st (S' := T5.setTop (mkF m 146 #[.val (.long v0), .second, .val (.long v1), .second, .val (.int v2), .val (.int v3), .val (.ref b1), .val (.int (v2 &&& (7 : Int32))), .val (.ref b1), .val (.int (1 : Int32)), .unset, .unset] [(.ref b1)])) (fun _ k => XS.aload X5.here hx rfl (hb hby at_144) rfl rfl k) ?_
            refine Ends.st (S' := T5.setTop (mkF m 148 #[.val (.long v0), .second, .val (.long v1), .second, .val (.int v2), .val (.int v3), .val (.ref b1), .val (.int (v2 &&& (7 : Int32))), .val (.ref b1), .val (.int (1 : Int32)), .unset, .unset] [(.ref b1), (.ref b1)])) (fun _ k => XS.aload X5.here hx rfl (hb hby at_146) rfl rfl k) ?_
            obtain ⟨cq69, kq69, q69a, q69b, q69c⟩ := isOf hZ rfl (f8)
            obtain ⟨_, _, ⟨T69, L69, k69, n69⟩, -, X69, ⟨Lc69, hQ69, l69, y69, z69⟩, st69⟩ := X5.virtualBack hx (y := (⟨"com/example/umpteenth_copy/umpteenthcopy/engine/Fingerprint", "equals", "(Ljava/lang/Object;)Z"⟩ : MethodName)) (z := (⟨"com/example/umpteenth_copy/umpteenthcopy/engine/Fingerprint", "equals", "(Ljava/lang/Object;)Z"⟩ : MethodName)) hown (mvT hZ (hw _ (List.mem_of_getElem? (i := 11) rfl))) (mvT hZ (hw _ (List.mem_of_getElem? (i := 12) rfl))) (notFace_of_selects (args := #[]) (mvT hZ (hw _ (List.mem_of_getElem? (i := 14) rfl)))) (mvT hZ (hw _ (List.mem_of_getElem? (i := 14) rfl))) (mvT hZ (hw _ (List.mem_of_getElem? (i := 13) rfl))) (by decide) (backOf (W := 0) (rm3a l Z a0 hw [] b1 b1 v0 v0 T5.heap n0 f6 G5 G5 f8) hZ (hw _ (List.mem_of_getElem? (i := 15) rfl)) (hw _ (List.mem_of_getElem? (i := 2) rfl)) (by decide) (by decide)) q69a q69c (g := (mkF m 148 #[.val (.long v0), .second, .val (.long v1), .second, .val (.int v2), .val (.int v3), .val (.ref b1), .val (.int (v2 &&& (7 : Int32))), .val (.ref b1), .val (.int (1 : Int32)), .unset, .unset] [(.ref b1), (.ref b1)])) rfl (by rw [hml]; rfl) (Steps.refl _) (argsL := [(.ref b1)]) (rest := []) (lenOf pd_2 rfl) rfl (by show 2 * 0 + _ ≤ _; exact Nat.le_of_eq rfl) (hb hby at_148) (fun _ _ => ⟨rfl, rfl, (by decide : 0 + 1 + 0 + 0 ≤ _), (by decide : 0 + 1 + 0 + 0 ≤ _)⟩)
            dsimp only [Pt.U, Pt.locs, Pt.cells, Pt.slots] at X69 l69 y69 z69 st69 hQ69
            subst l69 y69 z69
            obtain ⟨rfl, N69q, e69⟩ := hQ69
            have N69 := Fr.app N5 N69q
            refine Ends.st (S' := T69.setTop (mkF m 151 #[.val (.long v0), .second, .val (.long v1), .second, .val (.int v2), .val (.int v3), .val (.ref b1), .val (.int (v2 &&& (7 : Int32))), .val (.ref b1), .val (.int (1 : Int32)), .unset, .unset] [(.int (if v0 = v0 then 1 else 0))])) (fun _ k => st69.trans k) ?_
            refine Ends.st (S' := T69.setTop (mkF m 153 #[.val (.long v0), .second, .val (.long v1), .second, .val (.int v2), .val (.int v3), .val (.ref b1), .val (.int (v2 &&& (7 : Int32))), .val (.ref b1), .val (.int (1 : Int32)), .unset, .unset] [(.int (1 : Int32)), (.int (if v0 = v0 then 1 else 0))])) (fun _ k => XS.iload X69.here hx rfl (hb hby at_151) rfl k) ?_
            have hb70 : (if v0 = v0 then 1 else 0) = (1 : Int32) := if_pos rfl
            refine Ends.st (S' := T69.setTop (mkF m 156 #[.val (.long v0), .second, .val (.long v1), .second, .val (.int v2), .val (.int v3), .val (.ref b1), .val (.int (v2 &&& (7 : Int32))), .val (.ref b1), .val (.int (1 : Int32)), .unset, .unset] [])) (fun _ k => XS.icmpNo X69.here hx rfl (hb hby at_153) rfl (teq hb70).2 k) ?_
            refine Ends.st (S' := T69.setTop (mkF m 157 #[.val (.long v0), .second, .val (.long v1), .second, .val (.int v2), .val (.int v3), .val (.ref b1), .val (.int (v2 &&& (7 : Int32))), .val (.ref b1), .val (.int (1 : Int32)), .unset, .unset] [(.int (1 : Int32))])) (fun _ k => XS.iconst X69.here hx rfl (hb hby at_156) k) ?_
            refine Ends.st (S' := T69.setTop (mkF m 161 #[.val (.long v0), .second, .val (.long v1), .second, .val (.int v2), .val (.int v3), .val (.ref b1), .val (.int (v2 &&& (7 : Int32))), .val (.ref b1), .val (.int (1 : Int32)), .unset, .unset] [(.int (1 : Int32))])) (fun _ k => XS.goto X69.here hx rfl (pc0 := 157) (pc' := 161) rfl (hb hby at_157) (by decide) (by decide) k) ?_
            obtain ⟨fs, hr, hrun, hended, hW, hsame⟩ := X69.leave (v := some (.int (1 : Int32))) (fun h => by rw [Bd.returns] at h; cases h)
            exact ⟨_, _, retN X69 hx (t := .boolean) Bd.returns (by simp) (hb hby at_161) hr, hrun, hended, _, _, rfl, (by show Q0 Z  h0 n0 _ T69.heap _; rw [e69]; exact ⟨rfl, N69⟩), ⟨_, rfl⟩, hW, hsame.mono (by decide) (by decide)⟩
set_option maxRecDepth 65536 in
set_option maxHeartbeats 40000000 in
theorem comes_1 {Post : Tables → Env → Array Value → State → Outcome → State → Prop} (hpost : ∀ tb e args s v u, (limb_1_1.after args s (.returned v) u = true ∧ limb_1_2.after args s (.returned v) u = true ∧ True) → FrameEnd s (.returned v) u (Jvm.fieldLocs frame_1_writes args s ++ Jvm.arrayLocs frame_1_arrays args s ++ Jvm.staticLocs frame_1_statics s) 16 128 → Post tb e args s (.returned v) u) :
    ArmFor flags0 classFile x code maxLocals ret World_1 tables_1 room_1 Calls_1 rest_1 Pre_1 Post := by
  intro l hfl _ _ p e ha hc hk s m args below hf hA hF happ hP
  obtain ⟨hcalls, hrest, hpre⟩ := hP
  obtain ⟨-, -, -, hnamed, -, -, -, hat⟩ := (Spec.applies_iff hf).mp happ
  obtain ⟨hg, hn⟩ := and_e (Cond.before_iff.mp (show (Jvm.Cond.and given_1 narrow_1).before args s = true from hpre))
  obtain ⟨gc, gr0⟩ := and_e hg
  obtain ⟨ga0, gr1⟩ := and_e gr0
  obtain ⟨ga1, gr2⟩ := and_e gr1
  obtain ⟨ga2, gr3⟩ := and_e gr2
  obtain ⟨w0, w1, w2, w3, rfl⟩ : ∃ w0 w1 w2 w3 : Value, args = #[w0, w1, w2, w3] := by
    have hs : args.size = 4 := by simpa [Cond.value, given_1] using gc
    obtain ⟨L⟩ := args
    match L, hs with
    | [w0, w1, w2, w3], _ => exact ⟨w0, w1, w2, w3, rfl⟩
  have hw := fun d (hd : d ∈ tables_1) => atoms_spec (ws := Jvm.Cond.code x code maxLocals ret :: tables_1) hat d (List.mem_cons_of_mem _ hd)
  have hfit : Fit s := fun {y c} hc i hi => by
    obtain ⟨ha, rfl⟩ := Array.getElem?_eq_some_iff.mp hc
    have q := List.all_eq_true.mp ((Array.all_eq_true_iff_forall_mem.mp hF) _ (Array.getElem_mem ha)) i (List.mem_range.mpr hi)
    simpa [Array.getElem?_eq_getElem hi] using q
  obtain ⟨i0, ei0⟩ := isL_v ga0
  obtain rfl : w0 = (.long i0) := Option.some.inj ei0
  obtain ⟨i1, ei1⟩ := isL_v ga1
  obtain rfl : w1 = (.long i1) := Option.some.inj ei1
  obtain ⟨i2, ei2⟩ := is_v ga2
  obtain rfl : w2 = (.int i2) := Option.some.inj ei2
  obtain ⟨i3, ei3⟩ := is_v gr3
  obtain rfl : w3 = (.int i3) := Option.some.inj ei3
  obtain ⟨hsets, hown0⟩ := atoms_of _ (rest_1_c_eq ▸ (show rest_1_c.before _ s = true from hrest))
  obtain ⟨ca, eca⟩ := arr_v (Cond.before_iff.mp (hsets _ (List.mem_of_getElem? (i := 2) rfl)))
  obtain ⟨cl, AC⟩ := Arr.start eca (Cond.before_iff.mp (hsets _ (List.mem_of_getElem? (i := 2) rfl)))
  have hl := own_len eca AC (Cond.before_iff.mp (hsets _ (List.mem_of_getElem? (i := 4) rfl)))
  have hsz : cl.slots.size = 256 := own_size hl
  have HC0 := own_places (fun idx => eca) AC hl.1 (Cond.before_iff.mp (hsets _ (List.mem_of_getElem? (i := 5) rfl)))
  have HC : ∀ i, i < 256 → ∃ y, cl.slots[i]? = some (.ref y) ∧ Exa s s.heap y "java/lang/Long" := fun i hi => by
    obtain ⟨y, q1, q2, -⟩ := HC0 i (by rw [hsz]; exact hi)
    exact ⟨y, q1, q2⟩
  obtain ⟨n, o, h1, h2, h3, _, L, rfl, ⟨rfl, N⟩, hq⟩ := rm0 l s _ hw tables_1 i0 i1 i2 i3 ca cl s.heap s.heap.size (Nat.le_refl _) (Old.start s) (Sta.start eca (Or.inl (hsets _ (List.mem_of_getElem? (i := 1) rfl)))) AC hsz HC p e ha hc hk s m _ below hf ((Spec.applies_iff_loose hf).mp happ).1 ⟨rfl, State.Warmed39.refl s, rfl⟩ trivial
  refine ⟨n, _, h1, h2, h3, hpost _ _ _ _ _ _ ⟨Cond.after_iff.mpr rfl, Cond.after_iff.mpr (eq_i res_at (Term.int_eval (1)) rfl), trivial⟩ ⟨hq.1, hq.2.1, (hq.2.2.sift fun y hy => Or.inr (N y hy)).mono (by decide) (by decide)⟩⟩
theorem main_1_1 : Claimed_1_1 := comes_1 fun _ _ _ _ _ _ h hF => ⟨h.1, hF⟩
theorem main_1_2 : Claimed_1_2 := comes_1 fun _ _ _ _ _ _ h hF => ⟨h.2.1, hF⟩
end Jvm.Pilot.@@N@@
namespace Jvm.Pilot.@@N@@
open Jvm Jvm.ClassFile Sem Op Lib Jvm.Free Jvm.Stand Jvm.Pilot.@@N@@.Jvm.D
/-! MADE BY PROGRAM (witnessworld.py) out of the Statement's table words and the real class files: 16 classes; the members and pool entries that the words name. The judged class is class 1, her method 1. -/
namespace start1
open Jvm.ClassFile
def u (s : String) : CpInfo := .utf8 (stringToUtf16 s)
/-- a pool by its gaps: so many unusable entries, then the entry; so many at the end -/
def gap : Nat → List CpInfo → List CpInfo
  | 0, r => r
  | n + 1, r => .unusable :: gap n r
def poolList (es : List (Nat × CpInfo)) (last : Nat) : List CpInfo := es.foldr (fun e r => gap e.1 (e.2 :: r)) (gap last [])
def pool (es : List (Nat × CpInfo)) (last : Nat) : Array CpInfo := ⟨poolList es last⟩
def fileOf (pool : Array CpInfo) (this : Nat) (attrs : Array Attribute := #[]) (ms : Array MethodInfo := #[]) (fl : Nat := 33) (sup : Nat := 0) (ifs : Array Nat := #[]) (fds : Array FieldInfo := #[]) : ClassFile where
  minorVersion := 0
  majorVersion := 65
  constantPool := pool
  accessFlags := fl
  thisClass := this
  superClass := sup
  interfaces := ifs
  fields := fds
  methods := ms
  attributes := attrs
def plain (name : String) (sup : Option ClassId) : Class where
  name := name
  kind := .ordinary
  loader := none
  accessFlags := 33
  super := sup
  interfaces := #[]
  cf := none
  fields := #[]
  methods := #[]
  instanceTypes := #[]
  staticTypes := #[]
  resolved := #[]
  callSites := []
  init := .initialized
  statics := none
  mirror := none

def pool0 : Array CpInfo := pool [(5, u "<init>"), (0, u "()V"), (1, .class_ 10), (1, u "java/lang/Object")] 113

def k0c0 : Code := { maxStack := 0, maxLocals := 1, code := object_method_1_code, exceptionTable := #[], attributes := #[] }
def k0m0 : Method := { name := "<init>", desc := "()V", sig := { parameters := [], returnType := none }, accessFlags := 1, code := some k0c0 }
/-- java/lang/Object -/
def k0 : Class := { plain "java/lang/Object" none with
  accessFlags := 33
  interfaces := #[]
  cf := some (fileOf pool0 8 #[] #[{ accessFlags := 1, nameIndex := 5, descriptorIndex := 6, attributes := #[] }] 33 0 #[] #[])
  fields := #[]
  methods := #[k0m0]
  instanceTypes := #[]
  staticTypes := #[]
  resolved := Array.replicate 124 none
  statics := none }

def pool1 : Array CpInfo := pool [(2, .class_ 4), (1, u "java/lang/Object"), (0, u "<init>"), (0, u "()V"), (0, .class_ 8), (0, u "com/example/umpteenth_copy/umpteenthcopy/engine/Fingerprint"), (0, .methodref 7 10), (0, .nameAndType 5 11), (0, u "(J)V"), (0, .methodref 13 14), (0, .class_ 15), (0, .nameAndType 16 17), (0, u "java/lang/Long"), (0, u "valueOf"), (0, u "(J)Ljava/lang/Long;"), (0, .methodref 7 19), (0, .nameAndType 20 21), (0, u "equals"), (0, u "(Ljava/lang/Object;)Z"), (0, .class_ 23), (0, u "com/example/umpteenth_copy/umpteenthcopy/engine/FingerprintEqualsPinLaw"), (2, u "law"), (0, u "(JJII)Z")] 3

def k1m0 : Method := { name := "<init>", desc := "()V", sig := { parameters := [], returnType := none }, accessFlags := 1, code := none }
def k1c1 : Code := { maxStack := 6, maxLocals := 12, code := code, exceptionTable := #[], attributes := #[] }
def k1m1 : Method := { name := "law", desc := "(JJII)Z", sig := { parameters := [.long, .long, .int, .int], returnType := some .boolean }, accessFlags := 9, code := some k1c1 }
/-- com/example/umpteenth_copy/umpteenthcopy/engine/FingerprintEqualsPinLaw -/
def k1 : Class := { plain "com/example/umpteenth_copy/umpteenthcopy/engine/FingerprintEqualsPinLaw" (some 0) with
  accessFlags := 49
  interfaces := #[]
  cf := some (fileOf pool1 22 #[] #[{ accessFlags := 1, nameIndex := 5, descriptorIndex := 6, attributes := #[] }, { accessFlags := 9, nameIndex := 26, descriptorIndex := 27, attributes := #[] }] 49 2 #[] #[])
  fields := #[]
  methods := #[k1m0, k1m1]
  instanceTypes := #[]
  staticTypes := #[]
  resolved := Array.replicate 31 none
  statics := none }

def pool2 : Array CpInfo := pool [(1, .methodref 2 3), (0, .class_ 4), (0, .nameAndType 5 6), (0, u "java/lang/Object"), (0, u "<init>"), (0, u "()V"), (0, .fieldref 8 9), (0, .class_ 10), (0, .nameAndType 11 12), (0, u "com/example/umpteenth_copy/umpteenthcopy/engine/Fingerprint"), (0, u "bits"), (0, u "J"), (38, u "(J)V"), (17, u "HEX_DIGITS"), (0, u "I"), (12, u "equals"), (0, u "(Ljava/lang/Object;)Z")] 19

def k2c0 : Code := { maxStack := 3, maxLocals := 3, code := prog_12_method_1_code, exceptionTable := #[], attributes := #[] }
def k2m0 : Method := { name := "<init>", desc := "(J)V", sig := { parameters := [.long], returnType := none }, accessFlags := 1, code := some k2c0 }
def k2c1 : Code := { maxStack := 4, maxLocals := 3, code := prog_12_method_6_code, exceptionTable := #[], attributes := #[] }
def k2m1 : Method := { name := "equals", desc := "(Ljava/lang/Object;)Z", sig := { parameters := [(.object "java/lang/Object")], returnType := some .boolean }, accessFlags := 1, code := some k2c1 }
/-- com/example/umpteenth_copy/umpteenthcopy/engine/Fingerprint -/
def k2 : Class := { plain "com/example/umpteenth_copy/umpteenthcopy/engine/Fingerprint" (some 0) with
  accessFlags := 33
  interfaces := #[]
  cf := some (fileOf pool2 8 #[] #[{ accessFlags := 1, nameIndex := 5, descriptorIndex := 51, attributes := #[] }, { accessFlags := 1, nameIndex := 83, descriptorIndex := 84, attributes := #[] }] 33 2 #[] #[{ accessFlags := 25, nameIndex := 69, descriptorIndex := 70, attributes := #[] }, { accessFlags := 18, nameIndex := 11, descriptorIndex := 12, attributes := #[] }])
  fields := #[{ name := "HEX_DIGITS", type := .int, accessFlags := 25, slot := 0, constantValue := 0 }, { name := "bits", type := .long, accessFlags := 18, slot := 0, constantValue := 0 }]
  methods := #[k2m0, k2m1]
  instanceTypes := #[.long]
  staticTypes := #[.int]
  resolved := Array.replicate 104 none
  statics := none }

def pool3 : Array CpInfo := pool [(1, .class_ 2), (0, u "java/io/Serializable"), (0, .class_ 4), (0, u "java/lang/Object")] 2

/-- java/io/Serializable -/
def k3 : Class := { plain "java/io/Serializable" (some 0) with
  accessFlags := 1537
  interfaces := #[]
  cf := some (fileOf pool3 1 #[] #[] 1537 3 #[] #[])
  fields := #[]
  methods := #[]
  instanceTypes := #[]
  staticTypes := #[]
  resolved := Array.replicate 7 none
  statics := none }

def pool4 : Array CpInfo := pool [(1, .methodref 2 3), (0, .class_ 4), (0, .nameAndType 5 6), (0, u "java/lang/Object"), (0, u "<init>"), (0, u "()V"), (1, .class_ 10), (1, u "java/lang/Number"), (2, .class_ 14), (0, u "java/io/Serializable"), (0, u "serialVersionUID"), (0, u "J")] 20

def k4c0 : Code := { maxStack := 1, maxLocals := 1, code := jdk_18_method_1_code, exceptionTable := #[], attributes := #[] }
def k4m0 : Method := { name := "<init>", desc := "()V", sig := { parameters := [], returnType := none }, accessFlags := 1, code := some k4c0 }
/-- java/lang/Number -/
def k4 : Class := { plain "java/lang/Number" (some 0) with
  accessFlags := 1057
  interfaces := #[3]
  cf := some (fileOf pool4 8 #[] #[{ accessFlags := 1, nameIndex := 5, descriptorIndex := 6, attributes := #[] }] 1057 2 #[13] #[{ accessFlags := 26, nameIndex := 15, descriptorIndex := 16, attributes := #[] }])
  fields := #[{ name := "serialVersionUID", type := .long, accessFlags := 26, slot := 0, constantValue := 0 }]
  methods := #[k4m0]
  instanceTypes := #[]
  staticTypes := #[.long]
  resolved := Array.replicate 37 none
  statics := none }

def pool5 : Array CpInfo := pool [(1, .class_ 2), (0, u "java/lang/Comparable"), (0, .class_ 4), (0, u "java/lang/Object")] 7

/-- java/lang/Comparable -/
def k5 : Class := { plain "java/lang/Comparable" (some 0) with
  accessFlags := 1537
  interfaces := #[]
  cf := some (fileOf pool5 1 #[] #[] 1537 3 #[] #[])
  fields := #[]
  methods := #[]
  instanceTypes := #[]
  staticTypes := #[]
  resolved := Array.replicate 12 none
  statics := none }

def pool6 : Array CpInfo := pool [(1, .class_ 2), (0, u "java/lang/constant/Constable"), (0, .class_ 4), (0, u "java/lang/Object")] 6

/-- java/lang/constant/Constable -/
def k6 : Class := { plain "java/lang/constant/Constable" (some 0) with
  accessFlags := 1537
  interfaces := #[]
  cf := some (fileOf pool6 1 #[] #[] 1537 3 #[] #[])
  fields := #[]
  methods := #[]
  instanceTypes := #[]
  staticTypes := #[]
  resolved := Array.replicate 11 none
  statics := none }

def pool7 : Array CpInfo := pool [(1, .class_ 2), (0, u "java/lang/constant/ConstantDesc"), (0, .class_ 4), (0, u "java/lang/Object")] 32

/-- java/lang/constant/ConstantDesc -/
def k7 : Class := { plain "java/lang/constant/ConstantDesc" (some 0) with
  accessFlags := 1537
  interfaces := #[]
  cf := some (fileOf pool7 1 #[] #[] 1537 3 #[] #[])
  fields := #[]
  methods := #[]
  instanceTypes := #[]
  staticTypes := #[]
  resolved := Array.replicate 37 none
  statics := none }

def pool8 : Array CpInfo := pool [(1, .class_ 2), (0, u "java/lang/Long"), (55, .nameAndType 59 60), (0, u "<init>"), (0, u "()V"), (24, u "valueOf"), (143, u "(J)Ljava/lang/Long;"), (0, .long 18446744073709551488), (1, .long 127), (1, .fieldref 235 236), (0, .class_ 237), (0, .nameAndType 238 239), (0, u "java/lang/Long$LongCache"), (0, u "cache"), (0, u "[Ljava/lang/Long;"), (0, .methodref 1 241), (0, .nameAndType 59 242), (0, u "(J)V"), (27, .methodref 271 58), (0, .class_ 272), (0, u "java/lang/Number"), (0, .fieldref 1 274), (0, .nameAndType 275 276), (0, u "value"), (0, u "J"), (84, u "TYPE"), (0, u "Ljava/lang/Class;"), (0, .class_ 364), (0, u "java/lang/Comparable"), (0, .class_ 366), (0, u "java/lang/constant/Constable"), (0, .class_ 368), (0, u "java/lang/constant/ConstantDesc"), (0, u "MIN_VALUE"), (1, u "MAX_VALUE"), (4, u "SIZE"), (0, u "I"), (1, u "BYTES"), (1, u "serialVersionUID")] 142

def k8c0 : Code := { maxStack := 4, maxLocals := 3, code := jdk_35_method_24_code, exceptionTable := #[], attributes := #[] }
def k8m0 : Method := { name := "valueOf", desc := "(J)Ljava/lang/Long;", sig := { parameters := [.long], returnType := some (.object "java/lang/Long") }, accessFlags := 9, code := some k8c0 }
def k8c1 : Code := { maxStack := 3, maxLocals := 3, code := jdk_35_method_26_code, exceptionTable := #[], attributes := #[] }
def k8m1 : Method := { name := "<init>", desc := "(J)V", sig := { parameters := [.long], returnType := none }, accessFlags := 1, code := some k8c1 }
/-- java/lang/Long -/
def k8 : Class := { plain "java/lang/Long" (some 4) with
  accessFlags := 49
  interfaces := #[5, 6, 7]
  cf := some (fileOf pool8 1 #[.nestMembers #[235]] #[{ accessFlags := 9, nameIndex := 85, descriptorIndex := 229, attributes := #[] }, { accessFlags := 1, nameIndex := 59, descriptorIndex := 242, attributes := #[] }] 49 271 #[363, 365, 367] #[{ accessFlags := 25, nameIndex := 369, descriptorIndex := 276, attributes := #[] }, { accessFlags := 25, nameIndex := 371, descriptorIndex := 276, attributes := #[] }, { accessFlags := 25, nameIndex := 361, descriptorIndex := 362, attributes := #[] }, { accessFlags := 18, nameIndex := 275, descriptorIndex := 276, attributes := #[] }, { accessFlags := 25, nameIndex := 376, descriptorIndex := 377, attributes := #[] }, { accessFlags := 25, nameIndex := 379, descriptorIndex := 377, attributes := #[] }, { accessFlags := 26, nameIndex := 381, descriptorIndex := 276, attributes := #[] }])
  fields := #[{ name := "MIN_VALUE", type := .long, accessFlags := 25, slot := 0, constantValue := 0 }, { name := "MAX_VALUE", type := .long, accessFlags := 25, slot := 1, constantValue := 0 }, { name := "TYPE", type := (.object "java/lang/Class"), accessFlags := 25, slot := 2, constantValue := 0 }, { name := "value", type := .long, accessFlags := 18, slot := 0, constantValue := 0 }, { name := "SIZE", type := .int, accessFlags := 25, slot := 3, constantValue := 0 }, { name := "BYTES", type := .int, accessFlags := 25, slot := 4, constantValue := 0 }, { name := "serialVersionUID", type := .long, accessFlags := 26, slot := 5, constantValue := 0 }]
  methods := #[k8m0, k8m1]
  instanceTypes := #[.long]
  staticTypes := #[.long, .long, (.object "java/lang/Class"), .int, .int, .long]
  resolved := Array.replicate 524 none
  statics := none }

def pool9 : Array CpInfo := pool [(2, .class_ 4), (1, u "java/lang/Object"), (0, u "<init>"), (0, u "()V"), (0, .class_ 8), (0, u "java/lang/Long"), (7, .class_ 18), (1, u "java/lang/Long$LongCache"), (0, u "$assertionsDisabled"), (0, u "Z"), (8, u "archivedCache"), (0, u "[Ljava/lang/Long;"), (7, u "cache")] 24

def k9m0 : Method := { name := "<init>", desc := "()V", sig := { parameters := [], returnType := none }, accessFlags := 2, code := none }
/-- java/lang/Long$LongCache -/
def k9 : Class := { plain "java/lang/Long$LongCache" (some 0) with
  accessFlags := 48
  interfaces := #[]
  cf := some (fileOf pool9 16 #[.nestHost 7] #[{ accessFlags := 2, nameIndex := 5, descriptorIndex := 6, attributes := #[] }] 48 2 #[] #[{ accessFlags := 24, nameIndex := 38, descriptorIndex := 30, attributes := #[] }, { accessFlags := 8, nameIndex := 29, descriptorIndex := 30, attributes := #[] }, { accessFlags := 4120, nameIndex := 19, descriptorIndex := 20, attributes := #[] }])
  fields := #[{ name := "cache", type := (.array (.object "java/lang/Long")), accessFlags := 24, slot := 0, constantValue := 0 }, { name := "archivedCache", type := (.array (.object "java/lang/Long")), accessFlags := 8, slot := 1, constantValue := 0 }, { name := "$assertionsDisabled", type := .boolean, accessFlags := 4120, slot := 2, constantValue := 0 }]
  methods := #[k9m0]
  instanceTypes := #[]
  staticTypes := #[(.array (.object "java/lang/Long")), (.array (.object "java/lang/Long")), .boolean]
  resolved := Array.replicate 63 none
  statics := some 0 }

def pool10 : Array CpInfo := pool [(1, u "java/lang/Cloneable"), (0, .class_ 1), (0, u "java/lang/Object"), (0, .class_ 3)] 3

/-- java/lang/Cloneable -/
def k10 : Class := { plain "java/lang/Cloneable" (some 0) with
  accessFlags := 1537
  interfaces := #[]
  cf := some (fileOf pool10 2 #[] #[] 1537 4 #[] #[])
  fields := #[]
  methods := #[]
  instanceTypes := #[]
  staticTypes := #[]
  resolved := Array.replicate 8 none
  statics := none }

/-- the primitive byte -/
def k11 : Class := { plain "byte" none with kind := .primitive 'B', accessFlags := 0x411 }
/-- [B -/
def k12 : Class := { plain "[B" (some 0) with kind := .array 11 .byte, interfaces := #[10, 3], accessFlags := 1041 }

/-- the primitive int -/
def k13 : Class := { plain "int" none with kind := .primitive 'I', accessFlags := 0x411 }
/-- [I -/
def k14 : Class := { plain "[I" (some 0) with kind := .array 13 .int, interfaces := #[10, 3], accessFlags := 1041 }

/-- [Ljava/lang/Long; -/
def k15 : Class := { plain "[Ljava/lang/Long;" (some 0) with kind := .array 8 (.object "java/lang/Long"), interfaces := #[10, 3], accessFlags := 1041 }

def heap : Heap := #[{ cls := 9, slots := #[.ref 1, .null, .int 0], vm := .statics 9 },
  { cls := 15, slots := #[.ref 2, .ref 3, .ref 4, .ref 5, .ref 6, .ref 7, .ref 8, .ref 9, .ref 10, .ref 11, .ref 12, .ref 13, .ref 14, .ref 15, .ref 16, .ref 17, .ref 18, .ref 19, .ref 20, .ref 21, .ref 22, .ref 23, .ref 24, .ref 25, .ref 26, .ref 27, .ref 28, .ref 29, .ref 30, .ref 31, .ref 32, .ref 33, .ref 34, .ref 35, .ref 36, .ref 37, .ref 38, .ref 39, .ref 40, .ref 41, .ref 42, .ref 43, .ref 44, .ref 45, .ref 46, .ref 47, .ref 48, .ref 49, .ref 50, .ref 51, .ref 52, .ref 53, .ref 54, .ref 55, .ref 56, .ref 57, .ref 58, .ref 59, .ref 60, .ref 61, .ref 62, .ref 63, .ref 64, .ref 65, .ref 66, .ref 67, .ref 68, .ref 69, .ref 70, .ref 71, .ref 72, .ref 73, .ref 74, .ref 75, .ref 76, .ref 77, .ref 78, .ref 79, .ref 80, .ref 81, .ref 82, .ref 83, .ref 84, .ref 85, .ref 86, .ref 87, .ref 88, .ref 89, .ref 90, .ref 91, .ref 92, .ref 93, .ref 94, .ref 95, .ref 96, .ref 97, .ref 98, .ref 99, .ref 100, .ref 101, .ref 102, .ref 103, .ref 104, .ref 105, .ref 106, .ref 107, .ref 108, .ref 109, .ref 110, .ref 111, .ref 112, .ref 113, .ref 114, .ref 115, .ref 116, .ref 117, .ref 118, .ref 119, .ref 120, .ref 121, .ref 122, .ref 123, .ref 124, .ref 125, .ref 126, .ref 127, .ref 128, .ref 129, .ref 130, .ref 131, .ref 132, .ref 133, .ref 134, .ref 135, .ref 136, .ref 137, .ref 138, .ref 139, .ref 140, .ref 141, .ref 142, .ref 143, .ref 144, .ref 145, .ref 146, .ref 147, .ref 148, .ref 149, .ref 150, .ref 151, .ref 152, .ref 153, .ref 154, .ref 155, .ref 156, .ref 157, .ref 158, .ref 159, .ref 160, .ref 161, .ref 162, .ref 163, .ref 164, .ref 165, .ref 166, .ref 167, .ref 168, .ref 169, .ref 170, .ref 171, .ref 172, .ref 173, .ref 174, .ref 175, .ref 176, .ref 177, .ref 178, .ref 179, .ref 180, .ref 181, .ref 182, .ref 183, .ref 184, .ref 185, .ref 186, .ref 187, .ref 188, .ref 189, .ref 190, .ref 191, .ref 192, .ref 193, .ref 194, .ref 195, .ref 196, .ref 197, .ref 198, .ref 199, .ref 200, .ref 201, .ref 202, .ref 203, .ref 204, .ref 205, .ref 206, .ref 207, .ref 208, .ref 209, .ref 210, .ref 211, .ref 212, .ref 213, .ref 214, .ref 215, .ref 216, .ref 217, .ref 218, .ref 219, .ref 220, .ref 221, .ref 222, .ref 223, .ref 224, .ref 225, .ref 226, .ref 227, .ref 228, .ref 229, .ref 230, .ref 231, .ref 232, .ref 233, .ref 234, .ref 235, .ref 236, .ref 237, .ref 238, .ref 239, .ref 240, .ref 241, .ref 242, .ref 243, .ref 244, .ref 245, .ref 246, .ref 247, .ref 248, .ref 249, .ref 250, .ref 251, .ref 252, .ref 253, .ref 254, .ref 255, .ref 256, .ref 257], vm := .none },
  { cls := 8, slots := #[.long (-128)], vm := .none },
  { cls := 8, slots := #[.long (-127)], vm := .none },
  { cls := 8, slots := #[.long (-126)], vm := .none },
  { cls := 8, slots := #[.long (-125)], vm := .none },
  { cls := 8, slots := #[.long (-124)], vm := .none },
  { cls := 8, slots := #[.long (-123)], vm := .none },
  { cls := 8, slots := #[.long (-122)], vm := .none },
  { cls := 8, slots := #[.long (-121)], vm := .none },
  { cls := 8, slots := #[.long (-120)], vm := .none },
  { cls := 8, slots := #[.long (-119)], vm := .none },
  { cls := 8, slots := #[.long (-118)], vm := .none },
  { cls := 8, slots := #[.long (-117)], vm := .none },
  { cls := 8, slots := #[.long (-116)], vm := .none },
  { cls := 8, slots := #[.long (-115)], vm := .none },
  { cls := 8, slots := #[.long (-114)], vm := .none },
  { cls := 8, slots := #[.long (-113)], vm := .none },
  { cls := 8, slots := #[.long (-112)], vm := .none },
  { cls := 8, slots := #[.long (-111)], vm := .none },
  { cls := 8, slots := #[.long (-110)], vm := .none },
  { cls := 8, slots := #[.long (-109)], vm := .none },
  { cls := 8, slots := #[.long (-108)], vm := .none },
  { cls := 8, slots := #[.long (-107)], vm := .none },
  { cls := 8, slots := #[.long (-106)], vm := .none },
  { cls := 8, slots := #[.long (-105)], vm := .none },
  { cls := 8, slots := #[.long (-104)], vm := .none },
  { cls := 8, slots := #[.long (-103)], vm := .none },
  { cls := 8, slots := #[.long (-102)], vm := .none },
  { cls := 8, slots := #[.long (-101)], vm := .none },
  { cls := 8, slots := #[.long (-100)], vm := .none },
  { cls := 8, slots := #[.long (-99)], vm := .none },
  { cls := 8, slots := #[.long (-98)], vm := .none },
  { cls := 8, slots := #[.long (-97)], vm := .none },
  { cls := 8, slots := #[.long (-96)], vm := .none },
  { cls := 8, slots := #[.long (-95)], vm := .none },
  { cls := 8, slots := #[.long (-94)], vm := .none },
  { cls := 8, slots := #[.long (-93)], vm := .none },
  { cls := 8, slots := #[.long (-92)], vm := .none },
  { cls := 8, slots := #[.long (-91)], vm := .none },
  { cls := 8, slots := #[.long (-90)], vm := .none },
  { cls := 8, slots := #[.long (-89)], vm := .none },
  { cls := 8, slots := #[.long (-88)], vm := .none },
  { cls := 8, slots := #[.long (-87)], vm := .none },
  { cls := 8, slots := #[.long (-86)], vm := .none },
  { cls := 8, slots := #[.long (-85)], vm := .none },
  { cls := 8, slots := #[.long (-84)], vm := .none },
  { cls := 8, slots := #[.long (-83)], vm := .none },
  { cls := 8, slots := #[.long (-82)], vm := .none },
  { cls := 8, slots := #[.long (-81)], vm := .none },
  { cls := 8, slots := #[.long (-80)], vm := .none },
  { cls := 8, slots := #[.long (-79)], vm := .none },
  { cls := 8, slots := #[.long (-78)], vm := .none },
  { cls := 8, slots := #[.long (-77)], vm := .none },
  { cls := 8, slots := #[.long (-76)], vm := .none },
  { cls := 8, slots := #[.long (-75)], vm := .none },
  { cls := 8, slots := #[.long (-74)], vm := .none },
  { cls := 8, slots := #[.long (-73)], vm := .none },
  { cls := 8, slots := #[.long (-72)], vm := .none },
  { cls := 8, slots := #[.long (-71)], vm := .none },
  { cls := 8, slots := #[.long (-70)], vm := .none },
  { cls := 8, slots := #[.long (-69)], vm := .none },
  { cls := 8, slots := #[.long (-68)], vm := .none },
  { cls := 8, slots := #[.long (-67)], vm := .none },
  { cls := 8, slots := #[.long (-66)], vm := .none },
  { cls := 8, slots := #[.long (-65)], vm := .none },
  { cls := 8, slots := #[.long (-64)], vm := .none },
  { cls := 8, slots := #[.long (-63)], vm := .none },
  { cls := 8, slots := #[.long (-62)], vm := .none },
  { cls := 8, slots := #[.long (-61)], vm := .none },
  { cls := 8, slots := #[.long (-60)], vm := .none },
  { cls := 8, slots := #[.long (-59)], vm := .none },
  { cls := 8, slots := #[.long (-58)], vm := .none },
  { cls := 8, slots := #[.long (-57)], vm := .none },
  { cls := 8, slots := #[.long (-56)], vm := .none },
  { cls := 8, slots := #[.long (-55)], vm := .none },
  { cls := 8, slots := #[.long (-54)], vm := .none },
  { cls := 8, slots := #[.long (-53)], vm := .none },
  { cls := 8, slots := #[.long (-52)], vm := .none },
  { cls := 8, slots := #[.long (-51)], vm := .none },
  { cls := 8, slots := #[.long (-50)], vm := .none },
  { cls := 8, slots := #[.long (-49)], vm := .none },
  { cls := 8, slots := #[.long (-48)], vm := .none },
  { cls := 8, slots := #[.long (-47)], vm := .none },
  { cls := 8, slots := #[.long (-46)], vm := .none },
  { cls := 8, slots := #[.long (-45)], vm := .none },
  { cls := 8, slots := #[.long (-44)], vm := .none },
  { cls := 8, slots := #[.long (-43)], vm := .none },
  { cls := 8, slots := #[.long (-42)], vm := .none },
  { cls := 8, slots := #[.long (-41)], vm := .none },
  { cls := 8, slots := #[.long (-40)], vm := .none },
  { cls := 8, slots := #[.long (-39)], vm := .none },
  { cls := 8, slots := #[.long (-38)], vm := .none },
  { cls := 8, slots := #[.long (-37)], vm := .none },
  { cls := 8, slots := #[.long (-36)], vm := .none },
  { cls := 8, slots := #[.long (-35)], vm := .none },
  { cls := 8, slots := #[.long (-34)], vm := .none },
  { cls := 8, slots := #[.long (-33)], vm := .none },
  { cls := 8, slots := #[.long (-32)], vm := .none },
  { cls := 8, slots := #[.long (-31)], vm := .none },
  { cls := 8, slots := #[.long (-30)], vm := .none },
  { cls := 8, slots := #[.long (-29)], vm := .none },
  { cls := 8, slots := #[.long (-28)], vm := .none },
  { cls := 8, slots := #[.long (-27)], vm := .none },
  { cls := 8, slots := #[.long (-26)], vm := .none },
  { cls := 8, slots := #[.long (-25)], vm := .none },
  { cls := 8, slots := #[.long (-24)], vm := .none },
  { cls := 8, slots := #[.long (-23)], vm := .none },
  { cls := 8, slots := #[.long (-22)], vm := .none },
  { cls := 8, slots := #[.long (-21)], vm := .none },
  { cls := 8, slots := #[.long (-20)], vm := .none },
  { cls := 8, slots := #[.long (-19)], vm := .none },
  { cls := 8, slots := #[.long (-18)], vm := .none },
  { cls := 8, slots := #[.long (-17)], vm := .none },
  { cls := 8, slots := #[.long (-16)], vm := .none },
  { cls := 8, slots := #[.long (-15)], vm := .none },
  { cls := 8, slots := #[.long (-14)], vm := .none },
  { cls := 8, slots := #[.long (-13)], vm := .none },
  { cls := 8, slots := #[.long (-12)], vm := .none },
  { cls := 8, slots := #[.long (-11)], vm := .none },
  { cls := 8, slots := #[.long (-10)], vm := .none },
  { cls := 8, slots := #[.long (-9)], vm := .none },
  { cls := 8, slots := #[.long (-8)], vm := .none },
  { cls := 8, slots := #[.long (-7)], vm := .none },
  { cls := 8, slots := #[.long (-6)], vm := .none },
  { cls := 8, slots := #[.long (-5)], vm := .none },
  { cls := 8, slots := #[.long (-4)], vm := .none },
  { cls := 8, slots := #[.long (-3)], vm := .none },
  { cls := 8, slots := #[.long (-2)], vm := .none },
  { cls := 8, slots := #[.long (-1)], vm := .none },
  { cls := 8, slots := #[.long 0], vm := .none },
  { cls := 8, slots := #[.long 1], vm := .none },
  { cls := 8, slots := #[.long 2], vm := .none },
  { cls := 8, slots := #[.long 3], vm := .none },
  { cls := 8, slots := #[.long 4], vm := .none },
  { cls := 8, slots := #[.long 5], vm := .none },
  { cls := 8, slots := #[.long 6], vm := .none },
  { cls := 8, slots := #[.long 7], vm := .none },
  { cls := 8, slots := #[.long 8], vm := .none },
  { cls := 8, slots := #[.long 9], vm := .none },
  { cls := 8, slots := #[.long 10], vm := .none },
  { cls := 8, slots := #[.long 11], vm := .none },
  { cls := 8, slots := #[.long 12], vm := .none },
  { cls := 8, slots := #[.long 13], vm := .none },
  { cls := 8, slots := #[.long 14], vm := .none },
  { cls := 8, slots := #[.long 15], vm := .none },
  { cls := 8, slots := #[.long 16], vm := .none },
  { cls := 8, slots := #[.long 17], vm := .none },
  { cls := 8, slots := #[.long 18], vm := .none },
  { cls := 8, slots := #[.long 19], vm := .none },
  { cls := 8, slots := #[.long 20], vm := .none },
  { cls := 8, slots := #[.long 21], vm := .none },
  { cls := 8, slots := #[.long 22], vm := .none },
  { cls := 8, slots := #[.long 23], vm := .none },
  { cls := 8, slots := #[.long 24], vm := .none },
  { cls := 8, slots := #[.long 25], vm := .none },
  { cls := 8, slots := #[.long 26], vm := .none },
  { cls := 8, slots := #[.long 27], vm := .none },
  { cls := 8, slots := #[.long 28], vm := .none },
  { cls := 8, slots := #[.long 29], vm := .none },
  { cls := 8, slots := #[.long 30], vm := .none },
  { cls := 8, slots := #[.long 31], vm := .none },
  { cls := 8, slots := #[.long 32], vm := .none },
  { cls := 8, slots := #[.long 33], vm := .none },
  { cls := 8, slots := #[.long 34], vm := .none },
  { cls := 8, slots := #[.long 35], vm := .none },
  { cls := 8, slots := #[.long 36], vm := .none },
  { cls := 8, slots := #[.long 37], vm := .none },
  { cls := 8, slots := #[.long 38], vm := .none },
  { cls := 8, slots := #[.long 39], vm := .none },
  { cls := 8, slots := #[.long 40], vm := .none },
  { cls := 8, slots := #[.long 41], vm := .none },
  { cls := 8, slots := #[.long 42], vm := .none },
  { cls := 8, slots := #[.long 43], vm := .none },
  { cls := 8, slots := #[.long 44], vm := .none },
  { cls := 8, slots := #[.long 45], vm := .none },
  { cls := 8, slots := #[.long 46], vm := .none },
  { cls := 8, slots := #[.long 47], vm := .none },
  { cls := 8, slots := #[.long 48], vm := .none },
  { cls := 8, slots := #[.long 49], vm := .none },
  { cls := 8, slots := #[.long 50], vm := .none },
  { cls := 8, slots := #[.long 51], vm := .none },
  { cls := 8, slots := #[.long 52], vm := .none },
  { cls := 8, slots := #[.long 53], vm := .none },
  { cls := 8, slots := #[.long 54], vm := .none },
  { cls := 8, slots := #[.long 55], vm := .none },
  { cls := 8, slots := #[.long 56], vm := .none },
  { cls := 8, slots := #[.long 57], vm := .none },
  { cls := 8, slots := #[.long 58], vm := .none },
  { cls := 8, slots := #[.long 59], vm := .none },
  { cls := 8, slots := #[.long 60], vm := .none },
  { cls := 8, slots := #[.long 61], vm := .none },
  { cls := 8, slots := #[.long 62], vm := .none },
  { cls := 8, slots := #[.long 63], vm := .none },
  { cls := 8, slots := #[.long 64], vm := .none },
  { cls := 8, slots := #[.long 65], vm := .none },
  { cls := 8, slots := #[.long 66], vm := .none },
  { cls := 8, slots := #[.long 67], vm := .none },
  { cls := 8, slots := #[.long 68], vm := .none },
  { cls := 8, slots := #[.long 69], vm := .none },
  { cls := 8, slots := #[.long 70], vm := .none },
  { cls := 8, slots := #[.long 71], vm := .none },
  { cls := 8, slots := #[.long 72], vm := .none },
  { cls := 8, slots := #[.long 73], vm := .none },
  { cls := 8, slots := #[.long 74], vm := .none },
  { cls := 8, slots := #[.long 75], vm := .none },
  { cls := 8, slots := #[.long 76], vm := .none },
  { cls := 8, slots := #[.long 77], vm := .none },
  { cls := 8, slots := #[.long 78], vm := .none },
  { cls := 8, slots := #[.long 79], vm := .none },
  { cls := 8, slots := #[.long 80], vm := .none },
  { cls := 8, slots := #[.long 81], vm := .none },
  { cls := 8, slots := #[.long 82], vm := .none },
  { cls := 8, slots := #[.long 83], vm := .none },
  { cls := 8, slots := #[.long 84], vm := .none },
  { cls := 8, slots := #[.long 85], vm := .none },
  { cls := 8, slots := #[.long 86], vm := .none },
  { cls := 8, slots := #[.long 87], vm := .none },
  { cls := 8, slots := #[.long 88], vm := .none },
  { cls := 8, slots := #[.long 89], vm := .none },
  { cls := 8, slots := #[.long 90], vm := .none },
  { cls := 8, slots := #[.long 91], vm := .none },
  { cls := 8, slots := #[.long 92], vm := .none },
  { cls := 8, slots := #[.long 93], vm := .none },
  { cls := 8, slots := #[.long 94], vm := .none },
  { cls := 8, slots := #[.long 95], vm := .none },
  { cls := 8, slots := #[.long 96], vm := .none },
  { cls := 8, slots := #[.long 97], vm := .none },
  { cls := 8, slots := #[.long 98], vm := .none },
  { cls := 8, slots := #[.long 99], vm := .none },
  { cls := 8, slots := #[.long 100], vm := .none },
  { cls := 8, slots := #[.long 101], vm := .none },
  { cls := 8, slots := #[.long 102], vm := .none },
  { cls := 8, slots := #[.long 103], vm := .none },
  { cls := 8, slots := #[.long 104], vm := .none },
  { cls := 8, slots := #[.long 105], vm := .none },
  { cls := 8, slots := #[.long 106], vm := .none },
  { cls := 8, slots := #[.long 107], vm := .none },
  { cls := 8, slots := #[.long 108], vm := .none },
  { cls := 8, slots := #[.long 109], vm := .none },
  { cls := 8, slots := #[.long 110], vm := .none },
  { cls := 8, slots := #[.long 111], vm := .none },
  { cls := 8, slots := #[.long 112], vm := .none },
  { cls := 8, slots := #[.long 113], vm := .none },
  { cls := 8, slots := #[.long 114], vm := .none },
  { cls := 8, slots := #[.long 115], vm := .none },
  { cls := 8, slots := #[.long 116], vm := .none },
  { cls := 8, slots := #[.long 117], vm := .none },
  { cls := 8, slots := #[.long 118], vm := .none },
  { cls := 8, slots := #[.long 119], vm := .none },
  { cls := 8, slots := #[.long 120], vm := .none },
  { cls := 8, slots := #[.long 121], vm := .none },
  { cls := 8, slots := #[.long 122], vm := .none },
  { cls := 8, slots := #[.long 123], vm := .none },
  { cls := 8, slots := #[.long 124], vm := .none },
  { cls := 8, slots := #[.long 125], vm := .none },
  { cls := 8, slots := #[.long 126], vm := .none },
  { cls := 8, slots := #[.long 127], vm := .none }]
def classes : Array Class := #[k0, k1, k2, k3, k4, k5, k6, k7, k8, k9, k10, k11, k12, k13, k14, k15]
def interned : List (Array UInt16 × Addr) := []
def slotsUsed : Nat := 515
def theMethod : MethodId := ⟨1, 1⟩
def args0 : Array Value := #[.long 5, .long 6, .int 4, .int 7]
def aboutOver (below : List Frame) : State where
  vm := { classes := classes, interned := interned.toArray }
  heap := heap
  slotsUsed := slotsUsed
  threads := #[{ frames := .invoking theMethod args0 :: below }]
def below0 : List Frame := [.native { method := ⟨0, 0⟩, args := #[] }]
def about1 : State := aboutOver below0
def p0 : Program := .bare "" "" ""
def e0 : Env := launch0.env 0 0 0
theorem w_frames : about1.frames = Frame.invoking theMethod args0 :: below0 := rfl
set_option maxRecDepth 65536 in
theorem w_args : argsFit about1.vm theMethod args0 = true := by decide +kernel
set_option maxRecDepth 65536 in
theorem w_heap : heapFits about1 = true := by decide +kernel
set_option maxRecDepth 65536 in
theorem w_runnable : about1.curStatus? = some .runnable := by decide +kernel
set_option maxRecDepth 65536 in
theorem w_alone : about1.alone = true := by decide +kernel
set_option maxRecDepth 65536 in
theorem w_named : about1.methodNamed? x = some theMethod := by decide +kernel
set_option maxRecDepth 65536 in
theorem w_hears : about1.hears theMethod below0 = true := by decide +kernel
set_option maxRecDepth 65536 in
theorem w_ripe : about1.ripe theMethod args0 below0 = true := by decide +kernel
theorem w_running : about1.status = .running := rfl
set_option maxRecDepth 65536 in
theorem w_room : about1.hasRoom e0.platform room_1 = true :=
  launch0.hasRoom_least _ room_1 (by decide +kernel) (by decide +kernel) (by decide +kernel) (by decide +kernel) (by decide +kernel) (by decide +kernel)
theorem allAtoms_all (ts : List Jvm.Cond) (a : Array Jvm.Value) (st : Jvm.State) : (allAtoms ts).before a st = ts.all (fun c => c.before a st) := by
  induction ts with
  | nil => rfl
  | cons c t ih =>
    show (Jvm.Cond.and c (allAtoms t)).before a st = _
    rw [Jvm.Cond.before_and, ih, List.all_cons]
def words1 : List Jvm.Cond := Jvm.Cond.code x code maxLocals ret :: tables_1
/-- a 'code' word, met by the world's own term for the bytes: nothing is compared byte by byte -/
theorem code_word {y : MethodName} {bytes : ByteArray} {mx : Nat} {rt : Option FieldType} {a : Array Value} {s : State} {m : MethodId} {meth : Method} {c : Code} (h1 : s.methodNamed? y = some m) (h2 : s.vm.method? m = some meth) (h3 : meth.code = some c) (h4 : c.code = bytes)
    (h5 : (c.maxLocals == mx && c.exceptionTable.isEmpty && decide (c.maxStack ≤ mostOperands) && decide (meth.sig.returnType = rt) && !meth.locks && decide (parseMethodDescriptor y.desc = some meth.sig)) = true) : (Jvm.Cond.code y bytes mx rt).before a s = true := by
  simp only [Bool.and_eq_true, beq_iff_eq, Bool.not_eq_true', decide_eq_true_eq] at h5
  obtain ⟨⟨⟨⟨⟨g1, g2⟩, g3⟩, g4⟩, g5⟩, g6⟩ := h5
  simp [Cond.before, Cond.holds, Cond.value, h1, h2, h3, h4, g1, g2, g3, g4, g5, g6]
def isCode : Jvm.Cond → Bool
  | .code _ _ _ _ => true
  | _ => false
theorem all_split {L : List Jvm.Cond} {P : Jvm.Cond → Bool} (h1 : L.all (fun c => isCode c || P c) = true) (h2 : ∀ c ∈ L.filter isCode, P c = true) : L.all P = true := by
  refine List.all_eq_true.mpr fun c hc => ?_
  have h := List.all_eq_true.mp h1 c hc
  rcases Bool.eq_false_or_eq_true (isCode c) with hi | hi
  · exact h2 c (List.mem_filter.mpr ⟨hc, hi⟩)
  · simpa [hi] using h
set_option maxRecDepth 65536 in
theorem w_c0 : (Jvm.Cond.code x code maxLocals ret).before args0 about1 = true := code_word (m := ⟨1, 1⟩) (meth := k1m1) (c := k1c1) (by decide +kernel) rfl rfl rfl (by decide +kernel)
set_option maxRecDepth 65536 in
theorem w_c1 : (Jvm.Cond.code ({ cls := "com/example/umpteenth_copy/umpteenthcopy/engine/Fingerprint", name := "<init>", desc := "(J)V" } : Jvm.MethodName) prog_12_method_1_code (3 : Nat) (Option.none : Option Jvm.ClassFile.FieldType)).before args0 about1 = true := code_word (m := ⟨2, 0⟩) (meth := k2m0) (c := k2c0) (by decide +kernel) rfl rfl rfl (by decide +kernel)
set_option maxRecDepth 65536 in
theorem w_c2 : (Jvm.Cond.code ({ cls := "java/lang/Object", name := "<init>", desc := "()V" } : Jvm.MethodName) object_method_1_code (1 : Nat) (Option.none : Option Jvm.ClassFile.FieldType)).before args0 about1 = true := code_word (m := ⟨0, 0⟩) (meth := k0m0) (c := k0c0) (by decide +kernel) rfl rfl rfl (by decide +kernel)
set_option maxRecDepth 65536 in
theorem w_c3 : (Jvm.Cond.code ({ cls := "com/example/umpteenth_copy/umpteenthcopy/engine/Fingerprint", name := "equals", desc := "(Ljava/lang/Object;)Z" } : Jvm.MethodName) prog_12_method_6_code (3 : Nat) (Option.some Jvm.ClassFile.FieldType.boolean)).before args0 about1 = true := code_word (m := ⟨2, 1⟩) (meth := k2m1) (c := k2c1) (by decide +kernel) rfl rfl rfl (by decide +kernel)
set_option maxRecDepth 65536 in
theorem w_c4 : (Jvm.Cond.code ({ cls := "java/lang/Long", name := "valueOf", desc := "(J)Ljava/lang/Long;" } : Jvm.MethodName) jdk_35_method_24_code (3 : Nat) (Option.some (Jvm.ClassFile.FieldType.object "java/lang/Long"))).before args0 about1 = true := code_word (m := ⟨8, 0⟩) (meth := k8m0) (c := k8c0) (by decide +kernel) rfl rfl rfl (by decide +kernel)
set_option maxRecDepth 65536 in
theorem w_c5 : (Jvm.Cond.code ({ cls := "java/lang/Long", name := "<init>", desc := "(J)V" } : Jvm.MethodName) jdk_35_method_26_code (3 : Nat) (Option.none : Option Jvm.ClassFile.FieldType)).before args0 about1 = true := code_word (m := ⟨8, 1⟩) (meth := k8m1) (c := k8c1) (by decide +kernel) rfl rfl rfl (by decide +kernel)
set_option maxRecDepth 65536 in
theorem w_c6 : (Jvm.Cond.code ({ cls := "java/lang/Number", name := "<init>", desc := "()V" } : Jvm.MethodName) jdk_18_method_1_code (1 : Nat) (Option.none : Option Jvm.ClassFile.FieldType)).before args0 about1 = true := code_word (m := ⟨4, 0⟩) (meth := k4m0) (c := k4c0) (by decide +kernel) rfl rfl rfl (by decide +kernel)
def codes1 : List Jvm.Cond := [Jvm.Cond.code x code maxLocals ret, Jvm.Cond.code ({ cls := "com/example/umpteenth_copy/umpteenthcopy/engine/Fingerprint", name := "<init>", desc := "(J)V" } : Jvm.MethodName) prog_12_method_1_code (3 : Nat) (Option.none : Option Jvm.ClassFile.FieldType), Jvm.Cond.code ({ cls := "java/lang/Object", name := "<init>", desc := "()V" } : Jvm.MethodName) object_method_1_code (1 : Nat) (Option.none : Option Jvm.ClassFile.FieldType), Jvm.Cond.code ({ cls := "com/example/umpteenth_copy/umpteenthcopy/engine/Fingerprint", name := "equals", desc := "(Ljava/lang/Object;)Z" } : Jvm.MethodName) prog_12_method_6_code (3 : Nat) (Option.some Jvm.ClassFile.FieldType.boolean), Jvm.Cond.code ({ cls := "java/lang/Long", name := "valueOf", desc := "(J)Ljava/lang/Long;" } : Jvm.MethodName) jdk_35_method_24_code (3 : Nat) (Option.some (Jvm.ClassFile.FieldType.object "java/lang/Long")), Jvm.Cond.code ({ cls := "java/lang/Long", name := "<init>", desc := "(J)V" } : Jvm.MethodName) jdk_35_method_26_code (3 : Nat) (Option.none : Option Jvm.ClassFile.FieldType), Jvm.Cond.code ({ cls := "java/lang/Number", name := "<init>", desc := "()V" } : Jvm.MethodName) jdk_18_method_1_code (1 : Nat) (Option.none : Option Jvm.ClassFile.FieldType)]
set_option maxRecDepth 65536 in
theorem codes_eq : words1.filter isCode = codes1 := rfl
theorem w_codes : ∀ c ∈ words1.filter isCode, c.before args0 about1 = true := by
  rw [codes_eq]
  intro c hc
  simp only [codes1, List.mem_cons, List.not_mem_nil, or_false] at hc
  rcases hc with rfl | rfl | rfl | rfl | rfl | rfl | rfl
  · exact w_c0
  · exact w_c1
  · exact w_c2
  · exact w_c3
  · exact w_c4
  · exact w_c5
  · exact w_c6
set_option maxRecDepth 65536 in
theorem w_t1 : (words1.take 24).all (fun c => isCode c || c.before args0 about1) = true := by decide +kernel
set_option maxRecDepth 65536 in
theorem w_t2 : (words1.drop 24).all (fun c => isCode c || c.before args0 about1) = true := by decide +kernel
theorem w_tables : (allAtoms (Jvm.Cond.code x code maxLocals ret :: tables_1)).before args0 about1 = true := by
  rw [allAtoms_all]
  show words1.all (fun c => c.before args0 about1) = true
  refine all_split ?_ w_codes
  rw [← List.take_append_drop 24 words1, List.all_append, w_t1, w_t2]
  rfl
set_option maxRecDepth 65536 in
theorem w_rest : rest_1_c.before args0 about1 = true := by decide +kernel
set_option maxRecDepth 65536 in
theorem w_case : (Jvm.Cond.and given_1 narrow_1).before args0 about1 = true := by decide +kernel
theorem w_applies : (headSpec (Jvm.Cond.code x code maxLocals ret :: tables_1) room_1).applies x e0.platform about1 = true :=
  (Spec.applies_iff w_frames).mpr ⟨w_running, w_runnable, w_alone, w_named, w_hears, w_ripe, w_room, w_tables⟩
theorem atStart : AtStart classFile x code maxLocals ret World_1 tables_1 room_1 Calls_1 rest_1 Pre_1 launch0 p0 e0 about1 theMethod args0 below0 :=
  ⟨lists_1, trivial, launch0.admits_env _ _ _, launch0.least_env, fairChoices_fair.cas, fairChoices_fair.clock, w_frames, w_args, w_heap, w_applies, trivial, w_rest, w_case⟩
end start1
theorem witness_1 : WitnessClaimed_1 := ⟨start1.p0, start1.e0, start1.about1, start1.theMethod, start1.args0, start1.below0, start1.atStart⟩
end Jvm.Pilot.@@N@@
