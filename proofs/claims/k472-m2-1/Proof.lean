import JvmDerived
import JvmDerived.Pilot.@@N@@Statement
import JvmDerived.Pilot.@@N@@Code
set_option linter.unusedVariables false
set_option linter.unusedSimpArgs false
@@BLOCK:NumsL.lean.txt@@
namespace Jvm.RoadKit
open Sem ClassFile Op Lib Jvm.Stand Jvm.Free Jvm.LawKit
section New
variable {p : Program} {l : Launch} {e : Env} {R : Room} {s : State} {m : MethodId} {args : Array Value} {below : List Frame} {meth : Method} {c : Code} {T : State} {locs : List Loc} {cells slots : Nat}
theorem retI (X : Stand p l e R s m args below meth c T locs cells slots) (hx : p.tables.exec = Jvm.exec) {pc : Nat} {Ls : Array Slot} {z : Int32} {rest : List Value} (hret : meth.sig.returnType = some .int) (hd : decode c.code pc = .ok (.ireturn, 1)) {fs : List Frame}
    (hl : ∀ (f : JFrame) (acts : List Action), f.method = m → f.locked = none → f.entered = [] → (doReturn e (T.setTop f) acts (some (.int z))).1 = T.setFrames fs) : Steps p.tables e below (T.setTop (mkF m pc Ls (.int z :: rest))) (T.setFrames fs) := by
  have hm' : T.vm.method? m = some meth := X.method'
  have hn : narrow .int (.int z) = .int z := rfl
  show Steps p.tables e below (T.setTop { method := m, pc := pc, locals := Ls, stack := _ :: rest, locked := none }) _
  jvm_step X.here [X.here.top, hx, hd, hm', hret, hn]
  first | (intro acts; rw [hl _ acts rfl rfl rfl]) | rw [hl _ _ rfl rfl rfl]
  exact Steps.refl _
theorem retRef (X : Stand p l e R s m args below meth c T locs cells slots) (hx : p.tables.exec = Jvm.exec) {pc : Nat} {Ls : Array Slot} {v : Value} {rest : List Value} {ty : FieldType} (hret : meth.sig.returnType = some ty) (hty : ty.isReference = true) (hv : v.isRef = true) (hd : decode c.code pc = .ok (.areturn, 1)) {fs : List Frame}
    (hl : ∀ (f : JFrame) (acts : List Action), f.method = m → f.locked = none → f.entered = [] → (doReturn e (T.setTop f) acts (some v)).1 = T.setFrames fs) : Steps p.tables e below (T.setTop (mkF m pc Ls (v :: rest))) (T.setFrames fs) := by
  have hm' : T.vm.method? m = some meth := X.method'
  show Steps p.tables e below (T.setTop { method := m, pc := pc, locals := Ls, stack := _ :: rest, locked := none }) _
  jvm_step X.here [X.here.top, hx, hd, hm', hret, hty, hv]
  first | (intro acts; rw [hl _ acts rfl rfl rfl]) | rw [hl _ _ rfl rfl rfl]
  exact Steps.refl _
theorem retD (X : Stand p l e R s m args below meth c T locs cells slots) (hx : p.tables.exec = Jvm.exec) {pc : Nat} {Ls : Array Slot} {z : UInt64} {rest : List Value} (hret : meth.sig.returnType = some .double) (hd : decode c.code pc = .ok (.dreturn, 1)) {fs : List Frame}
    (hl : ∀ (f : JFrame) (acts : List Action), f.method = m → f.locked = none → f.entered = [] → (doReturn e (T.setTop f) acts (some (.double z))).1 = T.setFrames fs) : Steps p.tables e below (T.setTop (mkF m pc Ls (.double z :: rest))) (T.setFrames fs) := by
  have hm' : T.vm.method? m = some meth := X.method'
  have hn : narrow .double (.double z) = .double z := rfl
  show Steps p.tables e below (T.setTop { method := m, pc := pc, locals := Ls, stack := _ :: rest, locked := none }) _
  jvm_step X.here [X.here.top, hx, hd, hm', hret, hn]
  first | (intro acts; rw [hl _ acts rfl rfl rfl]) | rw [hl _ _ rfl rfl rfl]
  exact Steps.refl _
end New
end Jvm.RoadKit
namespace Jvm.Pilot.@@N@@
open Jvm Jvm.ClassFile Sem Op Lib Jvm.Free Jvm.Stand Jvm.LawKit Jvm.RoadKit Bundle Jvm.Pilot.@@N@@.Jvm.D
/-- from the state S the run comes to an end of which R speaks -/
abbrev Ends (tb : Tables) (e : Env) (below : List Frame) (S : State) (R : State → Outcome → Prop) : Prop := ∃ t o, Steps tb e below S t ∧ R t o
theorem Ends.st {tb : Tables} {e : Env} {below : List Frame} {S S' : State} {R : State → Outcome → Prop} (h : ∀ t, Steps tb e below S' t → Steps tb e below S t) (k : Ends tb e below S' R) : Ends tb e below S R := by
  obtain ⟨t, o, h1, h2⟩ := k
  exact ⟨t, o, h t h1, h2⟩
theorem pd_0 : parseMethodDescriptor "(II)I" = some ⟨[.int, .int], some .int⟩ := by decide +kernel
theorem pd_1 : parseMethodDescriptor "(I)Z" = some ⟨[.int], some .boolean⟩ := by decide +kernel
theorem own_ord {t : Term} {args : Array Value} {s : State} {x : Addr} {C n d : String} {k : Int32} (ev : t.eval args s none [] s = some (.ref x)) (h : (Cond.eq (Term.field t C n d) (Term.int k)).value args s none s [] = some true) : s.fieldOf? x C n d = some (.int k) := by
  have e := fld_at (C := C) (n := n) (dd := d) ev
  obtain ⟨u, v, h1, h2, k1, k2⟩ := cmp_v (Or.inl h)
  have hv : v = .int k := (Option.some.inj ((Term.int_eval k).symm.trans h2)).symm
  subst hv
  obtain ⟨z, rfl⟩ := k2
  rw [← e, h1]
  have q := h
  simp only [Cond.value, h1, h2] at q
  have q' : decide (z = k) = true := Option.some.inj q
  rw [of_decide_eq_true q']
theorem own_eqR {a b : Term} {args : Array Value} {s : State} {x : Value} {y : Addr} (ha : a.eval args s none [] s = some x) (hb : b.eval args s none [] s = some (.ref y)) (h : (Cond.eq a b).value args s none s [] = some true) : x = .ref y := by
  cases x <;> simp [Cond.value, ha, hb] at h
  rw [h]
theorem own_some {a b : Term} {args : Array Value} {s : State} (h : (Cond.eq a b).value args s none s [] = some true) : ∃ x, a.eval args s none [] s = some x := by
  obtain ⟨u, v, h1, -⟩ := cmp_v (Or.inl h)
  exact ⟨u, h1⟩
theorem own_len {t : Term} {args : Array Value} {s : State} {x : Addr} {cl : Cell} {ty : FieldType} {k : Int32} (ev : t.eval args s none [] s = some (.ref x)) (A : Arr s s.heap x cl ty) (h : (Cond.eq (Term.length t) (Term.int k)).value args s none s [] = some true) : cl.slots.size < 2 ^ 31 ∧ cl.slots.size.toInt32 = k := by
  have ha := A.fin (Vm.Alike.refl _)
  obtain ⟨u, v, h1, h2, k1, k2⟩ := cmp_v (Or.inl h)
  by_cases hl : cl.slots.size < 2 ^ 31
  · refine ⟨hl, ?_⟩
    have e := len_f (args := args) (first := s) (o := none) (idx := []) ev ha hl
    have hv : v = .int k := (Option.some.inj ((Term.int_eval k).symm.trans h2)).symm
    subst hv
    have hu : u = .int cl.slots.size.toInt32 := Option.some.inj (h1.symm.trans e)
    subst hu
    have q := h
    simp only [Cond.value, h1, h2] at q
    exact of_decide_eq_true (Option.some.inj q)
  · exfalso
    simp [Term.eval, ev, ha, hl] at h1
theorem own_elem {t : Term} {args : Array Value} {s : State} {x : Addr} {cl : Cell} {ty : FieldType} {k : Int32} {b : Term} {y : Addr} (ev : t.eval args s none [] s = some (.ref x)) (A : Arr s s.heap x cl ty) (hb : b.eval args s none [] s = some (.ref y)) (h : (Cond.eq (Term.elem t (Term.int k)) b).value args s none s [] = some true) :
    ¬ (k < 0 ∨ cl.slots.size ≤ k.toNatClampNeg) ∧ cl.slots[k.toNatClampNeg]? = some (.ref y) := by
  obtain ⟨u, hu⟩ := own_some h
  have e := own_eqR hu hb h
  subst e
  exact elem_in hu ev (Term.int_eval k) A.1
theorem own_fref {t : Term} {args : Array Value} {s : State} {x y : Addr} {C n d : String} {b : Term} (ev : t.eval args s none [] s = some (.ref x)) (hb : b.eval args s none [] s = some (.ref y)) (h : (Cond.eq (Term.field t C n d) b).value args s none s [] = some true) : s.fieldOf? x C n d = some (.ref y) := by
  have e := fld_at (C := C) (n := n) (dd := d) ev
  obtain ⟨u, hu⟩ := own_some h
  have q := own_eqR hu hb h
  subst q
  rw [← e, hu]
def f1 (s r : Int32) : Int32 := if (s &&& 7) = 0 then r else if (s &&& 7) = 1 then 13 else if (s &&& 7) = 2 then 133 else if (s &&& 7) = 3 then 8232 else if (s &&& 7) = 4 then 10 else if (s &&& 7) = 5 then 8230 + (r &&& 3) else if (s &&& 7) = 6 then 131 + (r &&& 3) else 11 + (r &&& 3)
def f2 (a w : Addr) (c : Int32) : Int32 := if c = 13 then 1 else if a = w then (if c = 133 then 1 else if c = 8232 then 1 else 0) else 0
def Q1 (Z : State) (a b : Int32) (h0 : Heap) (n0 : Nat) (v : Option Value) (h : Heap) (L : List Loc) : Prop := v = some (.int (f1 a b)) ∧ Fr n0 L ∧ h = h0
def Q2 (Z : State) (a w : Addr) (b : Int32) (h0 : Heap) (n0 : Nat) (v : Option Value) (h : Heap) (L : List Loc) : Prop := v = some (.int (f2 a w b)) ∧ Fr n0 L ∧ h = h0
def Q0 (Z : State)  (h0 : Heap) (n0 : Nat) (v : Option Value) (h : Heap) (L : List Loc) : Prop := v = some (.int 1) ∧ Fr n0 L
theorem d1_0 : decode method_2_code 0 = .ok (.iload_n 0, 1) := by decide +kernel
theorem d1_1 : decode method_2_code 1 = .ok (.bipush 7, 2) := by decide +kernel
theorem d1_3 : decode method_2_code 3 = .ok (.iand, 1) := by decide +kernel
theorem d1_4 : decode method_2_code 4 = .ok (.istore_n 2, 1) := by decide +kernel
theorem d1_5 : decode method_2_code 5 = .ok (.iload_n 2, 1) := by decide +kernel
theorem d1_6 : decode method_2_code 6 = .ok (.ifCond .ne 5, 3) := by decide +kernel
theorem d1_9 : decode method_2_code 9 = .ok (.iload_n 1, 1) := by decide +kernel
theorem d1_10 : decode method_2_code 10 = .ok (.ireturn, 1) := by decide +kernel
theorem d1_11 : decode method_2_code 11 = .ok (.iload_n 2, 1) := by decide +kernel
theorem d1_12 : decode method_2_code 12 = .ok (.iconst 1, 1) := by decide +kernel
theorem d1_13 : decode method_2_code 13 = .ok (.if_icmp .ne 6, 3) := by decide +kernel
theorem d1_16 : decode method_2_code 16 = .ok (.bipush 13, 2) := by decide +kernel
theorem d1_18 : decode method_2_code 18 = .ok (.ireturn, 1) := by decide +kernel
theorem d1_19 : decode method_2_code 19 = .ok (.iload_n 2, 1) := by decide +kernel
theorem d1_20 : decode method_2_code 20 = .ok (.iconst 2, 1) := by decide +kernel
theorem d1_21 : decode method_2_code 21 = .ok (.if_icmp .ne 7, 3) := by decide +kernel
theorem d1_24 : decode method_2_code 24 = .ok (.sipush 133, 3) := by decide +kernel
theorem d1_27 : decode method_2_code 27 = .ok (.ireturn, 1) := by decide +kernel
theorem d1_28 : decode method_2_code 28 = .ok (.iload_n 2, 1) := by decide +kernel
theorem d1_29 : decode method_2_code 29 = .ok (.iconst 3, 1) := by decide +kernel
theorem d1_30 : decode method_2_code 30 = .ok (.if_icmp .ne 7, 3) := by decide +kernel
theorem d1_33 : decode method_2_code 33 = .ok (.sipush 8232, 3) := by decide +kernel
theorem d1_36 : decode method_2_code 36 = .ok (.ireturn, 1) := by decide +kernel
theorem d1_37 : decode method_2_code 37 = .ok (.iload_n 2, 1) := by decide +kernel
theorem d1_38 : decode method_2_code 38 = .ok (.iconst 4, 1) := by decide +kernel
theorem d1_39 : decode method_2_code 39 = .ok (.if_icmp .ne 6, 3) := by decide +kernel
theorem d1_42 : decode method_2_code 42 = .ok (.bipush 10, 2) := by decide +kernel
theorem d1_44 : decode method_2_code 44 = .ok (.ireturn, 1) := by decide +kernel
theorem d1_45 : decode method_2_code 45 = .ok (.iload_n 2, 1) := by decide +kernel
theorem d1_46 : decode method_2_code 46 = .ok (.iconst 5, 1) := by decide +kernel
theorem d1_47 : decode method_2_code 47 = .ok (.if_icmp .ne 11, 3) := by decide +kernel
theorem d1_50 : decode method_2_code 50 = .ok (.sipush 8230, 3) := by decide +kernel
theorem d1_53 : decode method_2_code 53 = .ok (.iload_n 1, 1) := by decide +kernel
theorem d1_54 : decode method_2_code 54 = .ok (.iconst 3, 1) := by decide +kernel
theorem d1_55 : decode method_2_code 55 = .ok (.iand, 1) := by decide +kernel
theorem d1_56 : decode method_2_code 56 = .ok (.iadd, 1) := by decide +kernel
theorem d1_57 : decode method_2_code 57 = .ok (.ireturn, 1) := by decide +kernel
theorem d1_58 : decode method_2_code 58 = .ok (.iload_n 2, 1) := by decide +kernel
theorem d1_59 : decode method_2_code 59 = .ok (.bipush 6, 2) := by decide +kernel
theorem d1_61 : decode method_2_code 61 = .ok (.if_icmp .ne 11, 3) := by decide +kernel
theorem d1_64 : decode method_2_code 64 = .ok (.sipush 131, 3) := by decide +kernel
theorem d1_67 : decode method_2_code 67 = .ok (.iload_n 1, 1) := by decide +kernel
theorem d1_68 : decode method_2_code 68 = .ok (.iconst 3, 1) := by decide +kernel
theorem d1_69 : decode method_2_code 69 = .ok (.iand, 1) := by decide +kernel
theorem d1_70 : decode method_2_code 70 = .ok (.iadd, 1) := by decide +kernel
theorem d1_71 : decode method_2_code 71 = .ok (.ireturn, 1) := by decide +kernel
theorem d1_72 : decode method_2_code 72 = .ok (.bipush 11, 2) := by decide +kernel
theorem d1_74 : decode method_2_code 74 = .ok (.iload_n 1, 1) := by decide +kernel
theorem d1_75 : decode method_2_code 75 = .ok (.iconst 3, 1) := by decide +kernel
theorem d1_76 : decode method_2_code 76 = .ok (.iand, 1) := by decide +kernel
theorem d1_77 : decode method_2_code 77 = .ok (.iadd, 1) := by decide +kernel
theorem d1_78 : decode method_2_code 78 = .ok (.ireturn, 1) := by decide +kernel
theorem pn_1 : plainName "com/example/ruleweave/ruleweave/XmlVersionReadsAsLineEndPinLaw" = true := by first | (simp [plainName, overriddenIn]; done) | decide +kernel
theorem d2_0 : decode prog_173_method_7_code 0 = .ok (.iload_n 1, 1) := by decide +kernel
theorem d2_1 : decode prog_173_method_7_code 1 = .ok (.bipush 13, 2) := by decide +kernel
theorem d2_3 : decode prog_173_method_7_code 3 = .ok (.if_icmp .eq 24, 3) := by decide +kernel
theorem d2_6 : decode prog_173_method_7_code 6 = .ok (.aload_n 0, 1) := by decide +kernel
theorem d2_7 : decode prog_173_method_7_code 7 = .ok (.getstatic 7, 3) := by decide +kernel
theorem d2_10 : decode prog_173_method_7_code 10 = .ok (.if_acmp .ne 21, 3) := by decide +kernel
theorem d2_13 : decode prog_173_method_7_code 13 = .ok (.iload_n 1, 1) := by decide +kernel
theorem d2_14 : decode prog_173_method_7_code 14 = .ok (.sipush 133, 3) := by decide +kernel
theorem d2_17 : decode prog_173_method_7_code 17 = .ok (.if_icmp .eq 10, 3) := by decide +kernel
theorem d2_20 : decode prog_173_method_7_code 20 = .ok (.iload_n 1, 1) := by decide +kernel
theorem d2_21 : decode prog_173_method_7_code 21 = .ok (.sipush 8232, 3) := by decide +kernel
theorem d2_24 : decode prog_173_method_7_code 24 = .ok (.if_icmp .ne 7, 3) := by decide +kernel
theorem d2_27 : decode prog_173_method_7_code 27 = .ok (.iconst 1, 1) := by decide +kernel
theorem d2_28 : decode prog_173_method_7_code 28 = .ok (.goto 4, 3) := by decide +kernel
theorem d2_31 : decode prog_173_method_7_code 31 = .ok (.iconst 0, 1) := by decide +kernel
theorem d2_32 : decode prog_173_method_7_code 32 = .ok (.ireturn, 1) := by decide +kernel
theorem pn_2 : plainName "com/example/ruleweave/ruleweave/XmlVersion" = true := by first | (simp [plainName, overriddenIn]; done) | decide +kernel
theorem pn_0 : plainName "com/example/ruleweave/ruleweave/XmlVersionReadsAsLineEndPinLaw" = true := by first | (simp [plainName, overriddenIn]; done) | decide +kernel
theorem ef_rm1 (m : MethodId) (x0 : Int32) (x1 : Int32)  : entryFrame m #[(.int x0), (.int x1)] 3 = mkF m 0 #[.val (.int x0), .val (.int x1), .unset] [] := by first | (simp [entryFrame, mkF, argsToLocals, Value.category]; done) | rfl
set_option maxRecDepth 65536 in
set_option maxHeartbeats 40000000 in
theorem rm1 (l : Launch) (Z : State) (a0 : Array Value) (hw : ∀ d ∈ tables_1, d.before a0 Z = true) (ws : List Jvm.Cond) (v0 : Int32) (v1 : Int32) (h0 : Heap) (n0 : Nat) (Z0 : n0 ≤ h0.size) :
    MetFree l (⟨"com/example/ruleweave/ruleweave/XmlVersionReadsAsLineEndPinLaw", "pick", "(II)I"⟩ : MethodName) (head1 (Jvm.Cond.code (⟨"com/example/ruleweave/ruleweave/XmlVersionReadsAsLineEndPinLaw", "pick", "(II)I"⟩ : MethodName) method_2_code 3 (some .int) :: ws) ({ frames := 0, cells := 0, slots := 0, locals := 0 } : Room)) (fun a U => a = #[(.int v0), (.int v1)] ∧ Z.Warmed39 U.vm ∧ U.heap = h0) (fun _ _ _ _ _ => True) (fun _ U o U' => ∃ v L, o = .returned v ∧ Q1 Z v0 v1 h0 n0 v U'.heap L ∧ FrameEnd U o U' L ({ frames := 0, cells := 0, slots := 0, locals := 0 } : Room).cells ({ frames := 0, cells := 0, slots := 0, locals := 0 } : Room).slots) := by
  refine MetFree.of_bodySF (plainFor_of_name pn_1) hisR ?_
  intro p e s m args below meth c s₁ Bd hml0 hP hK
  obtain ⟨rfl, hZ, hh⟩ := hP
  have hx := Bd.exec
  have hby := Bd.bytes
  have hml : c.maxLocals = 3 := hml0
  have hown : s.vm.findClass "com/example/ruleweave/ruleweave/XmlVersionReadsAsLineEndPinLaw" = some m.cls := findClass_of_methodNamed Bd.named
  have hnm := (name_of_methodNamed Bd.named Bd.method).1
  have X0 : Stand p l e ({ frames := 0, cells := 0, slots := 0, locals := 0 } : Room) s m #[(.int v0), (.int v1)] below meth c s₁ [] 0 0 := Stand.of_body Bd
  have e0 : s₁.heap = h0 := by rw [← hh, Bd.state]; rfl
  have N0 := Fr.nil n0
  refine Ends.st (tb := p.tables) (e := e) (below := below) (S' := s₁.setTop (mkF m 0 #[.val (.int v0), .val (.int v1), .unset] [])) (fun t k => castTop (ef_rm1 m v0 v1) k) ?_
  refine Ends.st (S' := s₁.setTop (mkF m 1 #[.val (.int v0), .val (.int v1), .unset] [(.int v0)])) (fun _ k => XS.iloadN X0.here hx rfl (hb hby d1_0) rfl k) ?_
  refine Ends.st (S' := s₁.setTop (mkF m 3 #[.val (.int v0), .val (.int v1), .unset] [(.int (7 : Int32)), (.int v0)])) (fun _ k => XS.bipush X0.here hx rfl (hb hby d1_1) k) ?_
  refine Ends.st (S' := s₁.setTop (mkF m 4 #[.val (.int v0), .val (.int v1), .unset] [(.int (v0 &&& (7 : Int32)))])) (fun _ k => XS.iand X0.here hx rfl (hb hby d1_3) rfl k) ?_
  refine Ends.st (S' := s₁.setTop (mkF m 5 #[.val (.int v0), .val (.int v1), .val (.int (v0 &&& (7 : Int32)))] [])) (fun _ k => XS.istoreN X0.here hx rfl (hb hby d1_4) rfl (l' := #[.val (.int v0), .val (.int v1), .val (.int (v0 &&& (7 : Int32)))]) rfl k) ?_
  refine Ends.st (S' := s₁.setTop (mkF m 6 #[.val (.int v0), .val (.int v1), .val (.int (v0 &&& (7 : Int32)))] [(.int (v0 &&& (7 : Int32)))])) (fun _ k => XS.iloadN X0.here hx rfl (hb hby d1_5) rfl k) ?_
  by_cases hc1 : (v0 &&& (7 : Int32)) = (0 : Int32)
  · refine Ends.st (S' := s₁.setTop (mkF m 9 #[.val (.int v0), .val (.int v1), .val (.int (v0 &&& (7 : Int32)))] [])) (fun _ k => XS.ifNo X0.here hx rfl (hb hby d1_6) rfl ((if0 _ _).trans (teq hc1).2) k) ?_
    refine Ends.st (S' := s₁.setTop (mkF m 10 #[.val (.int v0), .val (.int v1), .val (.int (v0 &&& (7 : Int32)))] [(.int v1)])) (fun _ k => XS.iloadN X0.here hx rfl (hb hby d1_9) rfl k) ?_
    obtain ⟨fs, hr, hrun, hended, hW, hsame⟩ := X0.leave (v := some (.int v1)) (fun h => by rw [Bd.returns] at h; cases h)
    exact ⟨_, _, retI X0 hx Bd.returns (hb hby d1_10) hr, hrun, hended, _, _, rfl, (by show Q1 Z v0 v1 h0 n0 _ s₁.heap _; rw [e0]; exact ⟨(by simp [f1, hc1]), N0, rfl⟩), ⟨_, rfl⟩, hW, hsame.mono (by decide) (by decide)⟩
  · refine Ends.st (S' := s₁.setTop (mkF m 11 #[.val (.int v0), .val (.int v1), .val (.int (v0 &&& (7 : Int32)))] [])) (fun _ k => XS.ifYes X0.here hx rfl (pc0 := 6) (pc' := 11) rfl (hb hby d1_6) rfl ((if0 _ _).trans (feq hc1).2) (by decide) (by decide) k) ?_
    refine Ends.st (S' := s₁.setTop (mkF m 12 #[.val (.int v0), .val (.int v1), .val (.int (v0 &&& (7 : Int32)))] [(.int (v0 &&& (7 : Int32)))])) (fun _ k => XS.iloadN X0.here hx rfl (hb hby d1_11) rfl k) ?_
    refine Ends.st (S' := s₁.setTop (mkF m 13 #[.val (.int v0), .val (.int v1), .val (.int (v0 &&& (7 : Int32)))] [(.int (1 : Int32)), (.int (v0 &&& (7 : Int32)))])) (fun _ k => XS.iconst X0.here hx rfl (hb hby d1_12) k) ?_
    by_cases hc2 : (v0 &&& (7 : Int32)) = (1 : Int32)
    · refine Ends.st (S' := s₁.setTop (mkF m 16 #[.val (.int v0), .val (.int v1), .val (.int (v0 &&& (7 : Int32)))] [])) (fun _ k => XS.icmpNo X0.here hx rfl (hb hby d1_13) rfl (teq hc2).2 k) ?_
      refine Ends.st (S' := s₁.setTop (mkF m 18 #[.val (.int v0), .val (.int v1), .val (.int (v0 &&& (7 : Int32)))] [(.int (13 : Int32))])) (fun _ k => XS.bipush X0.here hx rfl (hb hby d1_16) k) ?_
      obtain ⟨fs, hr, hrun, hended, hW, hsame⟩ := X0.leave (v := some (.int (13 : Int32))) (fun h => by rw [Bd.returns] at h; cases h)
      exact ⟨_, _, retI X0 hx Bd.returns (hb hby d1_18) hr, hrun, hended, _, _, rfl, (by show Q1 Z v0 v1 h0 n0 _ s₁.heap _; rw [e0]; exact ⟨(by simp [f1, hc1, hc2]), N0, rfl⟩), ⟨_, rfl⟩, hW, hsame.mono (by decide) (by decide)⟩
    · refine Ends.st (S' := s₁.setTop (mkF m 19 #[.val (.int v0), .val (.int v1), .val (.int (v0 &&& (7 : Int32)))] [])) (fun _ k => XS.icmpYes X0.here hx rfl (pc0 := 13) (pc' := 19) rfl (hb hby d1_13) rfl (feq hc2).2 (by decide) (by decide) k) ?_
      refine Ends.st (S' := s₁.setTop (mkF m 20 #[.val (.int v0), .val (.int v1), .val (.int (v0 &&& (7 : Int32)))] [(.int (v0 &&& (7 : Int32)))])) (fun _ k => XS.iloadN X0.here hx rfl (hb hby d1_19) rfl k) ?_
      refine Ends.st (S' := s₁.setTop (mkF m 21 #[.val (.int v0), .val (.int v1), .val (.int (v0 &&& (7 : Int32)))] [(.int (2 : Int32)), (.int (v0 &&& (7 : Int32)))])) (fun _ k => XS.iconst X0.here hx rfl (hb hby d1_20) k) ?_
      by_cases hc3 : (v0 &&& (7 : Int32)) = (2 : Int32)
      · refine Ends.st (S' := s₁.setTop (mkF m 24 #[.val (.int v0), .val (.int v1), .val (.int (v0 &&& (7 : Int32)))] [])) (fun _ k => XS.icmpNo X0.here hx rfl (hb hby d1_21) rfl (teq hc3).2 k) ?_
        refine Ends.st (S' := s₁.setTop (mkF m 27 #[.val (.int v0), .val (.int v1), .val (.int (v0 &&& (7 : Int32)))] [(.int (133 : Int32))])) (fun _ k => XS.sipush X0.here hx rfl (hb hby d1_24) k) ?_
        obtain ⟨fs, hr, hrun, hended, hW, hsame⟩ := X0.leave (v := some (.int (133 : Int32))) (fun h => by rw [Bd.returns] at h; cases h)
        exact ⟨_, _, retI X0 hx Bd.returns (hb hby d1_27) hr, hrun, hended, _, _, rfl, (by show Q1 Z v0 v1 h0 n0 _ s₁.heap _; rw [e0]; exact ⟨(by simp [f1, hc1, hc2, hc3]), N0, rfl⟩), ⟨_, rfl⟩, hW, hsame.mono (by decide) (by decide)⟩
      · refine Ends.st (S' := s₁.setTop (mkF m 28 #[.val (.int v0), .val (.int v1), .val (.int (v0 &&& (7 : Int32)))] [])) (fun _ k => XS.icmpYes X0.here hx rfl (pc0 := 21) (pc' := 28) rfl (hb hby d1_21) rfl (feq hc3).2 (by decide) (by decide) k) ?_
        refine Ends.st (S' := s₁.setTop (mkF m 29 #[.val (.int v0), .val (.int v1), .val (.int (v0 &&& (7 : Int32)))] [(.int (v0 &&& (7 : Int32)))])) (fun _ k => XS.iloadN X0.here hx rfl (hb hby d1_28) rfl k) ?_
        refine Ends.st (S' := s₁.setTop (mkF m 30 #[.val (.int v0), .val (.int v1), .val (.int (v0 &&& (7 : Int32)))] [(.int (3 : Int32)), (.int (v0 &&& (7 : Int32)))])) (fun _ k => XS.iconst X0.here hx rfl (hb hby d1_29) k) ?_
        by_cases hc4 : (v0 &&& (7 : Int32)) = (3 : Int32)
        · refine Ends.st (S' := s₁.setTop (mkF m 33 #[.val (.int v0), .val (.int v1), .val (.int (v0 &&& (7 : Int32)))] [])) (fun _ k => XS.icmpNo X0.here hx rfl (hb hby d1_30) rfl (teq hc4).2 k) ?_
          refine Ends.st (S' := s₁.setTop (mkF m 36 #[.val (.int v0), .val (.int v1), .val (.int (v0 &&& (7 : Int32)))] [(.int (8232 : Int32))])) (fun _ k => XS.sipush X0.here hx rfl (hb hby d1_33) k) ?_
          obtain ⟨fs, hr, hrun, hended, hW, hsame⟩ := X0.leave (v := some (.int (8232 : Int32))) (fun h => by rw [Bd.returns] at h; cases h)
          exact ⟨_, _, retI X0 hx Bd.returns (hb hby d1_36) hr, hrun, hended, _, _, rfl, (by show Q1 Z v0 v1 h0 n0 _ s₁.heap _; rw [e0]; exact ⟨(by simp [f1, hc1, hc2, hc3, hc4]), N0, rfl⟩), ⟨_, rfl⟩, hW, hsame.mono (by decide) (by decide)⟩
        · refine Ends.st (S' := s₁.setTop (mkF m 37 #[.val (.int v0), .val (.int v1), .val (.int (v0 &&& (7 : Int32)))] [])) (fun _ k => XS.icmpYes X0.here hx rfl (pc0 := 30) (pc' := 37) rfl (hb hby d1_30) rfl (feq hc4).2 (by decide) (by decide) k) ?_
          refine Ends.st (S' := s₁.setTop (mkF m 38 #[.val (.int v0), .val (.int v1), .val (.int (v0 &&& (7 : Int32)))] [(.int (v0 &&& (7 : Int32)))])) (fun _ k => XS.iloadN X0.here hx rfl (hb hby d1_37) rfl k) ?_
          refine Ends.st (S' := s₁.setTop (mkF m 39 #[.val (.int v0), .val (.int v1), .val (.int (v0 &&& (7 : Int32)))] [(.int (4 : Int32)), (.int (v0 &&& (7 : Int32)))])) (fun _ k => XS.iconst X0.here hx rfl (hb hby d1_38) k) ?_
          by_cases hc5 : (v0 &&& (7 : Int32)) = (4 : Int32)
          · refine Ends.st (S' := s₁.setTop (mkF m 42 #[.val (.int v0), .val (.int v1), .val (.int (v0 &&& (7 : Int32)))] [])) (fun _ k => XS.icmpNo X0.here hx rfl (hb hby d1_39) rfl (teq hc5).2 k) ?_
            refine Ends.st (S' := s₁.setTop (mkF m 44 #[.val (.int v0), .val (.int v1), .val (.int (v0 &&& (7 : Int32)))] [(.int (10 : Int32))])) (fun _ k => XS.bipush X0.here hx rfl (hb hby d1_42) k) ?_
            obtain ⟨fs, hr, hrun, hended, hW, hsame⟩ := X0.leave (v := some (.int (10 : Int32))) (fun h => by rw [Bd.returns] at h; cases h)
            exact ⟨_, _, retI X0 hx Bd.returns (hb hby d1_44) hr, hrun, hended, _, _, rfl, (by show Q1 Z v0 v1 h0 n0 _ s₁.heap _; rw [e0]; exact ⟨(by simp [f1, hc1, hc2, hc3, hc4, hc5]), N0, rfl⟩), ⟨_, rfl⟩, hW, hsame.mono (by decide) (by decide)⟩
          · refine Ends.st (S' := s₁.setTop (mkF m 45 #[.val (.int v0), .val (.int v1), .val (.int (v0 &&& (7 : Int32)))] [])) (fun _ k => XS.icmpYes X0.here hx rfl (pc0 := 39) (pc' := 45) rfl (hb hby d1_39) rfl (feq hc5).2 (by decide) (by decide) k) ?_
            refine Ends.st (S' := s₁.setTop (mkF m 46 #[.val (.int v0), .val (.int v1), .val (.int (v0 &&& (7 : Int32)))] [(.int (v0 &&& (7 : Int32)))])) (fun _ k => XS.iloadN X0.here hx rfl (hb hby d1_45) rfl k) ?_
            refine Ends.st (S' := s₁.setTop (mkF m 47 #[.val (.int v0), .val (.int v1), .val (.int (v0 &&& (7 : Int32)))] [(.int (5 : Int32)), (.int (v0 &&& (7 : Int32)))])) (fun _ k => XS.iconst X0.here hx rfl (hb hby d1_46) k) ?_
            by_cases hc6 : (v0 &&& (7 : Int32)) = (5 : Int32)
            · refine Ends.st (S' := s₁.setTop (mkF m 50 #[.val (.int v0), .val (.int v1), .val (.int (v0 &&& (7 : Int32)))] [])) (fun _ k => XS.icmpNo X0.here hx rfl (hb hby d1_47) rfl (teq hc6).2 k) ?_
              refine Ends.st (S' := s₁.setTop (mkF m 53 #[.val (.int v0), .val (.int v1), .val (.int (v0 &&& (7 : Int32)))] [(.int (8230 : Int32))])) (fun _ k => XS.sipush X0.here hx rfl (hb hby d1_50) k) ?_
              refine Ends.st (S' := s₁.setTop (mkF m 54 #[.val (.int v0), .val (.int v1), .val (.int (v0 &&& (7 : Int32)))] [(.int v1), (.int (8230 : Int32))])) (fun _ k => XS.iloadN X0.here hx rfl (hb hby d1_53) rfl k) ?_
              refine Ends.st (S' := s₁.setTop (mkF m 55 #[.val (.int v0), .val (.int v1), .val (.int (v0 &&& (7 : Int32)))] [(.int (3 : Int32)), (.int v1), (.int (8230 : Int32))])) (fun _ k => XS.iconst X0.here hx rfl (hb hby d1_54) k) ?_
              refine Ends.st (S' := s₁.setTop (mkF m 56 #[.val (.int v0), .val (.int v1), .val (.int (v0 &&& (7 : Int32)))] [(.int (v1 &&& (3 : Int32))), (.int (8230 : Int32))])) (fun _ k => XS.iand X0.here hx rfl (hb hby d1_55) rfl k) ?_
              refine Ends.st (S' := s₁.setTop (mkF m 57 #[.val (.int v0), .val (.int v1), .val (.int (v0 &&& (7 : Int32)))] [(.int ((8230 : Int32) + (v1 &&& (3 : Int32))))])) (fun _ k => XS.iadd X0.here hx rfl (hb hby d1_56) rfl k) ?_
              obtain ⟨fs, hr, hrun, hended, hW, hsame⟩ := X0.leave (v := some (.int ((8230 : Int32) + (v1 &&& (3 : Int32))))) (fun h => by rw [Bd.returns] at h; cases h)
              exact ⟨_, _, retI X0 hx Bd.returns (hb hby d1_57) hr, hrun, hended, _, _, rfl, (by show Q1 Z v0 v1 h0 n0 _ s₁.heap _; rw [e0]; exact ⟨(by simp [f1, hc1, hc2, hc3, hc4, hc5, hc6]), N0, rfl⟩), ⟨_, rfl⟩, hW, hsame.mono (by decide) (by decide)⟩
            · refine Ends.st (S' := s₁.setTop (mkF m 58 #[.val (.int v0), .val (.int v1), .val (.int (v0 &&& (7 : Int32)))] [])) (fun _ k => XS.icmpYes X0.here hx rfl (pc0 := 47) (pc' := 58) rfl (hb hby d1_47) rfl (feq hc6).2 (by decide) (by decide) k) ?_
              refine Ends.st (S' := s₁.setTop (mkF m 59 #[.val (.int v0), .val (.int v1), .val (.int (v0 &&& (7 : Int32)))] [(.int (v0 &&& (7 : Int32)))])) (fun _ k => XS.iloadN X0.here hx rfl (hb hby d1_58) rfl k) ?_
              refine Ends.st (S' := s₁.setTop (mkF m 61 #[.val (.int v0), .val (.int v1), .val (.int (v0 &&& (7 : Int32)))] [(.int (6 : Int32)), (.int (v0 &&& (7 : Int32)))])) (fun _ k => XS.bipush X0.here hx rfl (hb hby d1_59) k) ?_
              by_cases hc7 : (v0 &&& (7 : Int32)) = (6 : Int32)
              · refine Ends.st (S' := s₁.setTop (mkF m 64 #[.val (.int v0), .val (.int v1), .val (.int (v0 &&& (7 : Int32)))] [])) (fun _ k => XS.icmpNo X0.here hx rfl (hb hby d1_61) rfl (teq hc7).2 k) ?_
                refine Ends.st (S' := s₁.setTop (mkF m 67 #[.val (.int v0), .val (.int v1), .val (.int (v0 &&& (7 : Int32)))] [(.int (131 : Int32))])) (fun _ k => XS.sipush X0.here hx rfl (hb hby d1_64) k) ?_
                refine Ends.st (S' := s₁.setTop (mkF m 68 #[.val (.int v0), .val (.int v1), .val (.int (v0 &&& (7 : Int32)))] [(.int v1), (.int (131 : Int32))])) (fun _ k => XS.iloadN X0.here hx rfl (hb hby d1_67) rfl k) ?_
                refine Ends.st (S' := s₁.setTop (mkF m 69 #[.val (.int v0), .val (.int v1), .val (.int (v0 &&& (7 : Int32)))] [(.int (3 : Int32)), (.int v1), (.int (131 : Int32))])) (fun _ k => XS.iconst X0.here hx rfl (hb hby d1_68) k) ?_
                refine Ends.st (S' := s₁.setTop (mkF m 70 #[.val (.int v0), .val (.int v1), .val (.int (v0 &&& (7 : Int32)))] [(.int (v1 &&& (3 : Int32))), (.int (131 : Int32))])) (fun _ k => XS.iand X0.here hx rfl (hb hby d1_69) rfl k) ?_
                refine Ends.st (S' := s₁.setTop (mkF m 71 #[.val (.int v0), .val (.int v1), .val (.int (v0 &&& (7 : Int32)))] [(.int ((131 : Int32) + (v1 &&& (3 : Int32))))])) (fun _ k => XS.iadd X0.here hx rfl (hb hby d1_70) rfl k) ?_
                obtain ⟨fs, hr, hrun, hended, hW, hsame⟩ := X0.leave (v := some (.int ((131 : Int32) + (v1 &&& (3 : Int32))))) (fun h => by rw [Bd.returns] at h; cases h)
                exact ⟨_, _, retI X0 hx Bd.returns (hb hby d1_71) hr, hrun, hended, _, _, rfl, (by show Q1 Z v0 v1 h0 n0 _ s₁.heap _; rw [e0]; exact ⟨(by simp [f1, hc1, hc2, hc3, hc4, hc5, hc6, hc7]), N0, rfl⟩), ⟨_, rfl⟩, hW, hsame.mono (by decide) (by decide)⟩
              · refine Ends.st (S' := s₁.setTop (mkF m 72 #[.val (.int v0), .val (.int v1), .val (.int (v0 &&& (7 : Int32)))] [])) (fun _ k => XS.icmpYes X0.here hx rfl (pc0 := 61) (pc' := 72) rfl (hb hby d1_61) rfl (feq hc7).2 (by decide) (by decide) k) ?_
                refine Ends.st (S' := s₁.setTop (mkF m 74 #[.val (.int v0), .val (.int v1), .val (.int (v0 &&& (7 : Int32)))] [(.int (11 : Int32))])) (fun _ k => XS.bipush X0.here hx rfl (hb hby d1_72) k) ?_
                refine Ends.st (S' := s₁.setTop (mkF m 75 #[.val (.int v0), .val (.int v1), .val (.int (v0 &&& (7 : Int32)))] [(.int v1), (.int (11 : Int32))])) (fun _ k => XS.iloadN X0.here hx rfl (hb hby d1_74) rfl k) ?_
                refine Ends.st (S' := s₁.setTop (mkF m 76 #[.val (.int v0), .val (.int v1), .val (.int (v0 &&& (7 : Int32)))] [(.int (3 : Int32)), (.int v1), (.int (11 : Int32))])) (fun _ k => XS.iconst X0.here hx rfl (hb hby d1_75) k) ?_
                refine Ends.st (S' := s₁.setTop (mkF m 77 #[.val (.int v0), .val (.int v1), .val (.int (v0 &&& (7 : Int32)))] [(.int (v1 &&& (3 : Int32))), (.int (11 : Int32))])) (fun _ k => XS.iand X0.here hx rfl (hb hby d1_76) rfl k) ?_
                refine Ends.st (S' := s₁.setTop (mkF m 78 #[.val (.int v0), .val (.int v1), .val (.int (v0 &&& (7 : Int32)))] [(.int ((11 : Int32) + (v1 &&& (3 : Int32))))])) (fun _ k => XS.iadd X0.here hx rfl (hb hby d1_77) rfl k) ?_
                obtain ⟨fs, hr, hrun, hended, hW, hsame⟩ := X0.leave (v := some (.int ((11 : Int32) + (v1 &&& (3 : Int32))))) (fun h => by rw [Bd.returns] at h; cases h)
                exact ⟨_, _, retI X0 hx Bd.returns (hb hby d1_78) hr, hrun, hended, _, _, rfl, (by show Q1 Z v0 v1 h0 n0 _ s₁.heap _; rw [e0]; exact ⟨(by simp [f1, hc1, hc2, hc3, hc4, hc5, hc6, hc7]), N0, rfl⟩), ⟨_, rfl⟩, hW, hsame.mono (by decide) (by decide)⟩
theorem ef_rm2 (m : MethodId) (x0 : Addr) (x1 : Int32)  : entryFrame m #[(.ref x0), (.int x1)] 2 = mkF m 0 #[.val (.ref x0), .val (.int x1)] [] := by first | (simp [entryFrame, mkF, argsToLocals, Value.category]; done) | rfl
set_option maxRecDepth 65536 in
set_option maxHeartbeats 40000000 in
theorem rm2 (l : Launch) (Z : State) (a0 : Array Value) (hw : ∀ d ∈ tables_1, d.before a0 Z = true) (ws : List Jvm.Cond) (a1 : Addr) (w1 : Addr) (v0 : Int32) (h0 : Heap) (n0 : Nat) (Z0 : n0 ≤ h0.size) (S11 : Sta Z h0 "com/example/ruleweave/ruleweave/XmlVersion" "XML_1_1" "Lcom/example/ruleweave/ruleweave/XmlVersion;" (.ref w1)) :
    MetFree l (⟨"com/example/ruleweave/ruleweave/XmlVersion", "readsAsLineEnd", "(I)Z"⟩ : MethodName) (head1 (Jvm.Cond.code (⟨"com/example/ruleweave/ruleweave/XmlVersion", "readsAsLineEnd", "(I)Z"⟩ : MethodName) prog_173_method_7_code 2 (some .boolean) :: ws) ({ frames := 0, cells := 0, slots := 0, locals := 0 } : Room)) (fun a U => a = #[(.ref a1), (.int v0)] ∧ Z.Warmed39 U.vm ∧ U.heap = h0) (fun _ _ _ _ _ => True) (fun _ U o U' => ∃ v L, o = .returned v ∧ Q2 Z a1 w1 v0 h0 n0 v U'.heap L ∧ FrameEnd U o U' L ({ frames := 0, cells := 0, slots := 0, locals := 0 } : Room).cells ({ frames := 0, cells := 0, slots := 0, locals := 0 } : Room).slots) := by
  refine MetFree.of_bodySF (plainFor_of_name pn_2) hisR ?_
  intro p e s m args below meth c s₁ Bd hml0 hP hK
  obtain ⟨rfl, hZ, hh⟩ := hP
  have hx := Bd.exec
  have hby := Bd.bytes
  have hml : c.maxLocals = 2 := hml0
  have hown : s.vm.findClass "com/example/ruleweave/ruleweave/XmlVersion" = some m.cls := findClass_of_methodNamed Bd.named
  have hnm := (name_of_methodNamed Bd.named Bd.method).1
  have X0 : Stand p l e ({ frames := 0, cells := 0, slots := 0, locals := 0 } : Room) s m #[(.ref a1), (.int v0)] below meth c s₁ [] 0 0 := Stand.of_body Bd
  have e0 : s₁.heap = h0 := by rw [← hh, Bd.state]; rfl
  have N0 := Fr.nil n0
  refine Ends.st (tb := p.tables) (e := e) (below := below) (S' := s₁.setTop (mkF m 0 #[.val (.ref a1), .val (.int v0)] [])) (fun t k => castTop (ef_rm2 m a1 v0) k) ?_
  refine Ends.st (S' := s₁.setTop (mkF m 1 #[.val (.ref a1), .val (.int v0)] [(.int v0)])) (fun _ k => XS.iloadN X0.here hx rfl (hb hby d2_0) rfl k) ?_
  refine Ends.st (S' := s₁.setTop (mkF m 3 #[.val (.ref a1), .val (.int v0)] [(.int (13 : Int32)), (.int v0)])) (fun _ k => XS.bipush X0.here hx rfl (hb hby d2_1) k) ?_
  by_cases hc1 : v0 = (13 : Int32)
  · refine Ends.st (S' := s₁.setTop (mkF m 27 #[.val (.ref a1), .val (.int v0)] [])) (fun _ k => XS.icmpYes X0.here hx rfl (pc0 := 3) (pc' := 27) rfl (hb hby d2_3) rfl (teq hc1).1 (by decide) (by decide) k) ?_
    refine Ends.st (S' := s₁.setTop (mkF m 28 #[.val (.ref a1), .val (.int v0)] [(.int (1 : Int32))])) (fun _ k => XS.iconst X0.here hx rfl (hb hby d2_27) k) ?_
    refine Ends.st (S' := s₁.setTop (mkF m 32 #[.val (.ref a1), .val (.int v0)] [(.int (1 : Int32))])) (fun _ k => XS.goto X0.here hx rfl (pc0 := 28) (pc' := 32) rfl (hb hby d2_28) (by decide) (by decide) k) ?_
    obtain ⟨fs, hr, hrun, hended, hW, hsame⟩ := X0.leave (v := some (.int (1 : Int32))) (fun h => by rw [Bd.returns] at h; cases h)
    exact ⟨_, _, retN X0 hx (t := .boolean) Bd.returns (by simp) (hb hby d2_32) hr, hrun, hended, _, _, rfl, (by show Q2 Z a1 w1 v0 h0 n0 _ s₁.heap _; rw [e0]; exact ⟨(by simp [f2, hc1]), N0, rfl⟩), ⟨_, rfl⟩, hW, hsame.mono (by decide) (by decide)⟩
  · refine Ends.st (S' := s₁.setTop (mkF m 6 #[.val (.ref a1), .val (.int v0)] [])) (fun _ k => XS.icmpNo X0.here hx rfl (hb hby d2_3) rfl (feq hc1).1 k) ?_
    refine Ends.st (S' := s₁.setTop (mkF m 7 #[.val (.ref a1), .val (.int v0)] [(.ref a1)])) (fun _ k => XS.aloadN X0.here hx rfl (hb hby d2_6) rfl rfl k) ?_
    obtain ⟨T2, X2, e2, st2⟩ := getS2 X0 hx hZ hown (host := "") (Or.inl (hw _ (List.mem_of_getElem? (i := 12) rfl))) Via.refl e0 S11 (g := (mkF m 7 #[.val (.ref a1), .val (.int v0)] [(.ref a1)])) rfl (hb hby d2_7)
    refine Ends.st (S' := T2.setTop (mkF m 10 #[.val (.ref a1), .val (.int v0)] [(.ref w1), (.ref a1)])) (fun _ k => st2 _ k) ?_
    by_cases hc3 : a1 = w1
    · refine Ends.st (S' := T2.setTop (mkF m 13 #[.val (.ref a1), .val (.int v0)] [])) (fun _ k => Jvm.RoadKit.acmp (g := (mkF m 10 #[.val (.ref a1), .val (.int v0)] [(.ref w1), (.ref a1)])) X2 hx rfl rfl rfl (pc0 := 10) (pc' := 13) (same := true) rfl (hb hby d2_10) rfl (decide_eq_true (congrArg Value.ref hc3)) (by decide) (by decide) k) ?_
      refine Ends.st (S' := T2.setTop (mkF m 14 #[.val (.ref a1), .val (.int v0)] [(.int v0)])) (fun _ k => XS.iloadN X2.here hx rfl (hb hby d2_13) rfl k) ?_
      refine Ends.st (S' := T2.setTop (mkF m 17 #[.val (.ref a1), .val (.int v0)] [(.int (133 : Int32)), (.int v0)])) (fun _ k => XS.sipush X2.here hx rfl (hb hby d2_14) k) ?_
      by_cases hc4 : v0 = (133 : Int32)
      · refine Ends.st (S' := T2.setTop (mkF m 27 #[.val (.ref a1), .val (.int v0)] [])) (fun _ k => XS.icmpYes X2.here hx rfl (pc0 := 17) (pc' := 27) rfl (hb hby d2_17) rfl (teq hc4).1 (by decide) (by decide) k) ?_
        refine Ends.st (S' := T2.setTop (mkF m 28 #[.val (.ref a1), .val (.int v0)] [(.int (1 : Int32))])) (fun _ k => XS.iconst X2.here hx rfl (hb hby d2_27) k) ?_
        refine Ends.st (S' := T2.setTop (mkF m 32 #[.val (.ref a1), .val (.int v0)] [(.int (1 : Int32))])) (fun _ k => XS.goto X2.here hx rfl (pc0 := 28) (pc' := 32) rfl (hb hby d2_28) (by decide) (by decide) k) ?_
        obtain ⟨fs, hr, hrun, hended, hW, hsame⟩ := X2.leave (v := some (.int (1 : Int32))) (fun h => by rw [Bd.returns] at h; cases h)
        exact ⟨_, _, retN X2 hx (t := .boolean) Bd.returns (by simp) (hb hby d2_32) hr, hrun, hended, _, _, rfl, (by show Q2 Z a1 w1 v0 h0 n0 _ T2.heap _; rw [e2]; exact ⟨(by simp [f2, hc1, hc3, hc4]), N0, rfl⟩), ⟨_, rfl⟩, hW, hsame.mono (by decide) (by decide)⟩
      · refine Ends.st (S' := T2.setTop (mkF m 20 #[.val (.ref a1), .val (.int v0)] [])) (fun _ k => XS.icmpNo X2.here hx rfl (hb hby d2_17) rfl (feq hc4).1 k) ?_
        refine Ends.st (S' := T2.setTop (mkF m 21 #[.val (.ref a1), .val (.int v0)] [(.int v0)])) (fun _ k => XS.iloadN X2.here hx rfl (hb hby d2_20) rfl k) ?_
        refine Ends.st (S' := T2.setTop (mkF m 24 #[.val (.ref a1), .val (.int v0)] [(.int (8232 : Int32)), (.int v0)])) (fun _ k => XS.sipush X2.here hx rfl (hb hby d2_21) k) ?_
        by_cases hc5 : v0 = (8232 : Int32)
        · refine Ends.st (S' := T2.setTop (mkF m 27 #[.val (.ref a1), .val (.int v0)] [])) (fun _ k => XS.icmpNo X2.here hx rfl (hb hby d2_24) rfl (teq hc5).2 k) ?_
          refine Ends.st (S' := T2.setTop (mkF m 28 #[.val (.ref a1), .val (.int v0)] [(.int (1 : Int32))])) (fun _ k => XS.iconst X2.here hx rfl (hb hby d2_27) k) ?_
          refine Ends.st (S' := T2.setTop (mkF m 32 #[.val (.ref a1), .val (.int v0)] [(.int (1 : Int32))])) (fun _ k => XS.goto X2.here hx rfl (pc0 := 28) (pc' := 32) rfl (hb hby d2_28) (by decide) (by decide) k) ?_
          obtain ⟨fs, hr, hrun, hended, hW, hsame⟩ := X2.leave (v := some (.int (1 : Int32))) (fun h => by rw [Bd.returns] at h; cases h)
          exact ⟨_, _, retN X2 hx (t := .boolean) Bd.returns (by simp) (hb hby d2_32) hr, hrun, hended, _, _, rfl, (by show Q2 Z a1 w1 v0 h0 n0 _ T2.heap _; rw [e2]; exact ⟨(by simp [f2, hc1, hc3, hc4, hc5]), N0, rfl⟩), ⟨_, rfl⟩, hW, hsame.mono (by decide) (by decide)⟩
        · refine Ends.st (S' := T2.setTop (mkF m 31 #[.val (.ref a1), .val (.int v0)] [])) (fun _ k => XS.icmpYes X2.here hx rfl (pc0 := 24) (pc' := 31) rfl (hb hby d2_24) rfl (feq hc5).2 (by decide) (by decide) k) ?_
          refine Ends.st (S' := T2.setTop (mkF m 32 #[.val (.ref a1), .val (.int v0)] [(.int (0 : Int32))])) (fun _ k => XS.iconst X2.here hx rfl (hb hby d2_31) k) ?_
          obtain ⟨fs, hr, hrun, hended, hW, hsame⟩ := X2.leave (v := some (.int (0 : Int32))) (fun h => by rw [Bd.returns] at h; cases h)
          exact ⟨_, _, retN X2 hx (t := .boolean) Bd.returns (by simp) (hb hby d2_32) hr, hrun, hended, _, _, rfl, (by show Q2 Z a1 w1 v0 h0 n0 _ T2.heap _; rw [e2]; exact ⟨(by simp [f2, hc1, hc3, hc4, hc5]), N0, rfl⟩), ⟨_, rfl⟩, hW, hsame.mono (by decide) (by decide)⟩
    · refine Ends.st (S' := T2.setTop (mkF m 31 #[.val (.ref a1), .val (.int v0)] [])) (fun _ k => Jvm.RoadKit.acmp (g := (mkF m 10 #[.val (.ref a1), .val (.int v0)] [(.ref w1), (.ref a1)])) X2 hx rfl rfl rfl (pc0 := 10) (pc' := 31) (same := false) rfl (hb hby d2_10) rfl (decide_eq_false fun q => hc3 (Value.ref.inj q)) (by decide) (by decide) k) ?_
      refine Ends.st (S' := T2.setTop (mkF m 32 #[.val (.ref a1), .val (.int v0)] [(.int (0 : Int32))])) (fun _ k => XS.iconst X2.here hx rfl (hb hby d2_31) k) ?_
      obtain ⟨fs, hr, hrun, hended, hW, hsame⟩ := X2.leave (v := some (.int (0 : Int32))) (fun h => by rw [Bd.returns] at h; cases h)
      exact ⟨_, _, retN X2 hx (t := .boolean) Bd.returns (by simp) (hb hby d2_32) hr, hrun, hended, _, _, rfl, (by show Q2 Z a1 w1 v0 h0 n0 _ T2.heap _; rw [e2]; exact ⟨(by simp [f2, hc1, hc3]), N0, rfl⟩), ⟨_, rfl⟩, hW, hsame.mono (by decide) (by decide)⟩
theorem ef_rm0 (m : MethodId) (x0 : Int32) (x1 : Int32) (x2 : Int32)  : entryFrame m #[(.int x0), (.int x1), (.int x2)] maxLocals = mkF m 0 #[.val (.int x0), .val (.int x1), .val (.int x2), .unset, .unset, .unset, .unset] [] := by first | (simp [entryFrame, mkF, argsToLocals, Value.category, maxLocals]; done) | rfl
set_option maxRecDepth 65536 in
set_option maxHeartbeats 40000000 in
theorem rm0 (l : Launch) (Z : State) (a0 : Array Value) (hw : ∀ d ∈ tables_1, d.before a0 Z = true) (ws : List Jvm.Cond) (v0 : Int32) (v1 : Int32) (v2 : Int32) (w0 : Addr) (w1 : Addr) (h0 : Heap) (n0 : Nat) (Z0 : n0 ≤ h0.size) (S11 : Sta Z h0 "com/example/ruleweave/ruleweave/XmlVersion" "XML_1_1" "Lcom/example/ruleweave/ruleweave/XmlVersion;" (.ref w1)) (S10 : Sta Z h0 "com/example/ruleweave/ruleweave/XmlVersion" "XML_1_0" "Lcom/example/ruleweave/ruleweave/XmlVersion;" (.ref w0)) (E11 : Exa Z h0 w1 "com/example/ruleweave/ruleweave/XmlVersion") (E10 : Exa Z h0 w0 "com/example/ruleweave/ruleweave/XmlVersion") (hne : ¬ (w0 = w1)) :
    MetFree l x (head1 (Jvm.Cond.code x code maxLocals ret :: ws) room_1) (fun a U => a = #[(.int v0), (.int v1), (.int v2)] ∧ Z.Warmed39 U.vm ∧ U.heap = h0) (fun _ _ _ _ _ => True) (fun _ U o U' => ∃ v L, o = .returned v ∧ Q0 Z  h0 n0 v U'.heap L ∧ FrameEnd U o U' L room_1.cells room_1.slots) := by
  refine MetFree.of_bodySF (plainFor_of_name pn_0) hisR ?_
  intro p e s m args below meth c s₁ Bd hml0 hP hK
  obtain ⟨rfl, hZ, hh⟩ := hP
  have hx := Bd.exec
  have hby := Bd.bytes
  have hml : c.maxLocals = 7 := hml0
  have hown : s.vm.findClass "com/example/ruleweave/ruleweave/XmlVersionReadsAsLineEndPinLaw" = some m.cls := findClass_of_methodNamed Bd.named
  have hnm := (name_of_methodNamed Bd.named Bd.method).1
  have X0 : Stand p l e room_1 s m #[(.int v0), (.int v1), (.int v2)] below meth c s₁ [] 0 0 := Stand.of_body Bd
  have e0 : s₁.heap = h0 := by rw [← hh, Bd.state]; rfl
  have N0 := Fr.nil n0
  refine Ends.st (tb := p.tables) (e := e) (below := below) (S' := s₁.setTop (mkF m 0 #[.val (.int v0), .val (.int v1), .val (.int v2), .unset, .unset, .unset, .unset] [])) (fun t k => castTop (ef_rm0 m v0 v1 v2) k) ?_
  refine Ends.st (S' := s₁.setTop (mkF m 1 #[.val (.int v0), .val (.int v1), .val (.int v2), .unset, .unset, .unset, .unset] [(.int v2)])) (fun _ k => XS.iloadN X0.here hx rfl (hb hby at_0) rfl k) ?_
  refine Ends.st (S' := s₁.setTop (mkF m 2 #[.val (.int v0), .val (.int v1), .val (.int v2), .unset, .unset, .unset, .unset] [(.int (1 : Int32)), (.int v2)])) (fun _ k => XS.iconst X0.here hx rfl (hb hby at_1) k) ?_
  refine Ends.st (S' := s₁.setTop (mkF m 3 #[.val (.int v0), .val (.int v1), .val (.int v2), .unset, .unset, .unset, .unset] [(.int (v2 &&& (1 : Int32)))])) (fun _ k => XS.iand X0.here hx rfl (hb hby at_2) rfl k) ?_
  by_cases hc1 : (v2 &&& (1 : Int32)) = (0 : Int32)
  · refine Ends.st (S' := s₁.setTop (mkF m 10 #[.val (.int v0), .val (.int v1), .val (.int v2), .unset, .unset, .unset, .unset] [])) (fun _ k => XS.ifYes X0.here hx rfl (pc0 := 3) (pc' := 10) rfl (hb hby at_3) rfl ((if0 _ _).trans (teq hc1).1) (by decide) (by decide) k) ?_
    refine Ends.st (S' := s₁.setTop (mkF m 11 #[.val (.int v0), .val (.int v1), .val (.int v2), .unset, .unset, .unset, .unset] [(.int (0 : Int32))])) (fun _ k => XS.iconst X0.here hx rfl (hb hby at_10) k) ?_
    refine Ends.st (S' := s₁.setTop (mkF m 12 #[.val (.int v0), .val (.int v1), .val (.int v2), .val (.int (0 : Int32)), .unset, .unset, .unset] [])) (fun _ k => XS.istoreN X0.here hx rfl (hb hby at_11) rfl (l' := #[.val (.int v0), .val (.int v1), .val (.int v2), .val (.int (0 : Int32)), .unset, .unset, .unset]) rfl k) ?_
    refine Ends.st (S' := s₁.setTop (mkF m 13 #[.val (.int v0), .val (.int v1), .val (.int v2), .val (.int (0 : Int32)), .unset, .unset, .unset] [(.int (0 : Int32))])) (fun _ k => XS.iloadN X0.here hx rfl (hb hby at_12) rfl k) ?_
    refine Ends.st (S' := s₁.setTop (mkF m 22 #[.val (.int v0), .val (.int v1), .val (.int v2), .val (.int (0 : Int32)), .unset, .unset, .unset] [])) (fun _ k => XS.ifYes X0.here hx rfl (pc0 := 13) (pc' := 22) rfl (hb hby at_13) rfl ((if0 _ _).trans (teq (by decide : (0 : Int32) = (0 : Int32))).1) (by decide) (by decide) k) ?_
    obtain ⟨T2, X2, e2, st2⟩ := getS2 X0 hx hZ hown (host := "") (Or.inl (hw _ (List.mem_of_getElem? (i := 0) rfl))) Via.refl e0 S10 (g := (mkF m 22 #[.val (.int v0), .val (.int v1), .val (.int v2), .val (.int (0 : Int32)), .unset, .unset, .unset] [])) rfl (hb hby at_22)
    refine Ends.st (S' := T2.setTop (mkF m 25 #[.val (.int v0), .val (.int v1), .val (.int v2), .val (.int (0 : Int32)), .unset, .unset, .unset] [(.ref w0)])) (fun _ k => st2 _ k) ?_
    refine Ends.st (S' := T2.setTop (mkF m 27 #[.val (.int v0), .val (.int v1), .val (.int v2), .val (.int (0 : Int32)), .val (.ref w0), .unset, .unset] [])) (fun _ k => XS.astore X2.here hx rfl (hb hby at_25) rfl rfl (l' := #[.val (.int v0), .val (.int v1), .val (.int v2), .val (.int (0 : Int32)), .val (.ref w0), .unset, .unset]) rfl k) ?_
    refine Ends.st (S' := T2.setTop (mkF m 28 #[.val (.int v0), .val (.int v1), .val (.int v2), .val (.int (0 : Int32)), .val (.ref w0), .unset, .unset] [(.int v0)])) (fun _ k => XS.iloadN X2.here hx rfl (hb hby at_27) rfl k) ?_
    refine Ends.st (S' := T2.setTop (mkF m 29 #[.val (.int v0), .val (.int v1), .val (.int v2), .val (.int (0 : Int32)), .val (.ref w0), .unset, .unset] [(.int v1), (.int v0)])) (fun _ k => XS.iloadN X2.here hx rfl (hb hby at_28) rfl k) ?_
    obtain ⟨_, _, ⟨T3, L3, k3, n3⟩, -, X3, ⟨Lc3, hQ3, l3, y3, z3⟩, st3⟩ := Jvm.LawKit.callS X2 hx (y := (⟨"com/example/ruleweave/ruleweave/XmlVersionReadsAsLineEndPinLaw", "pick", "(II)I"⟩ : MethodName)) hown (mvT hZ (hw _ (List.mem_of_getElem? (i := 3) rfl))) (mvT hZ (hw _ (List.mem_of_getElem? (i := 4) rfl))) (mvT hZ (hw _ (List.mem_of_getElem? (i := 5) rfl))) (mvT hZ (hw _ (List.mem_of_getElem? (i := 6) rfl))) (by decide) (backOf (W := 0) (rm1 l Z a0 hw [] v0 v1 h0 n0 Z0) hZ (hw _ (List.mem_of_getElem? (i := 6) rfl)) (hw _ (List.mem_of_getElem? (i := 5) rfl)) (by decide) (by decide)) (g := (mkF m 29 #[.val (.int v0), .val (.int v1), .val (.int v2), .val (.int (0 : Int32)), .val (.ref w0), .unset, .unset] [(.int v1), (.int v0)])) rfl (by rw [hml]; rfl) (argsL := [(.int v0), (.int v1)]) (rest := []) (lenOf pd_0 rfl) rfl (by show 2 * 0 + _ ≤ _; exact Nat.le_of_eq rfl) (hb hby at_29) (fun _ _ => ⟨rfl, e2, (by decide : 0 + 0 ≤ _), (by decide : 0 + 0 ≤ _)⟩)
    dsimp only [Pt.U, Pt.locs, Pt.cells, Pt.slots] at X3 l3 y3 z3 st3 hQ3
    subst l3 y3 z3
    obtain ⟨rfl, N3q, e3⟩ := hQ3
    have N3 := Fr.app N0 N3q
    refine Ends.st (S' := T3.setTop (mkF m 32 #[.val (.int v0), .val (.int v1), .val (.int v2), .val (.int (0 : Int32)), .val (.ref w0), .unset, .unset] [(.int (f1 v0 v1))])) (fun _ k => st3 _ k) ?_
    refine Ends.st (S' := T3.setTop (mkF m 34 #[.val (.int v0), .val (.int v1), .val (.int v2), .val (.int (0 : Int32)), .val (.ref w0), .val (.int (f1 v0 v1)), .unset] [])) (fun _ k => XS.istore X3.here hx rfl (hb hby at_32) rfl (l' := #[.val (.int v0), .val (.int v1), .val (.int v2), .val (.int (0 : Int32)), .val (.ref w0), .val (.int (f1 v0 v1)), .unset]) rfl k) ?_
    refine Ends.st (S' := T3.setTop (mkF m 36 #[.val (.int v0), .val (.int v1), .val (.int v2), .val (.int (0 : Int32)), .val (.ref w0), .val (.int (f1 v0 v1)), .unset] [(.int (f1 v0 v1))])) (fun _ k => XS.iload X3.here hx rfl (hb hby at_34) rfl k) ?_
    refine Ends.st (S' := T3.setTop (mkF m 38 #[.val (.int v0), .val (.int v1), .val (.int v2), .val (.int (0 : Int32)), .val (.ref w0), .val (.int (f1 v0 v1)), .unset] [(.int (13 : Int32)), (.int (f1 v0 v1))])) (fun _ k => XS.bipush X3.here hx rfl (hb hby at_36) k) ?_
    by_cases hc4 : (f1 v0 v1) = (13 : Int32)
    · refine Ends.st (S' := T3.setTop (mkF m 41 #[.val (.int v0), .val (.int v1), .val (.int v2), .val (.int (0 : Int32)), .val (.ref w0), .val (.int (f1 v0 v1)), .unset] [])) (fun _ k => XS.icmpNo X3.here hx rfl (hb hby at_38) rfl (teq hc4).2 k) ?_
      refine Ends.st (S' := T3.setTop (mkF m 42 #[.val (.int v0), .val (.int v1), .val (.int v2), .val (.int (0 : Int32)), .val (.ref w0), .val (.int (f1 v0 v1)), .unset] [(.int (1 : Int32))])) (fun _ k => XS.iconst X3.here hx rfl (hb hby at_41) k) ?_
      refine Ends.st (S' := T3.setTop (mkF m 44 #[.val (.int v0), .val (.int v1), .val (.int v2), .val (.int (0 : Int32)), .val (.ref w0), .val (.int (f1 v0 v1)), .val (.int (1 : Int32))] [])) (fun _ k => XS.istore X3.here hx rfl (hb hby at_42) rfl (l' := #[.val (.int v0), .val (.int v1), .val (.int v2), .val (.int (0 : Int32)), .val (.ref w0), .val (.int (f1 v0 v1)), .val (.int (1 : Int32))]) rfl k) ?_
      refine Ends.st (S' := T3.setTop (mkF m 80 #[.val (.int v0), .val (.int v1), .val (.int v2), .val (.int (0 : Int32)), .val (.ref w0), .val (.int (f1 v0 v1)), .val (.int (1 : Int32))] [])) (fun _ k => XS.goto X3.here hx rfl (pc0 := 44) (pc' := 80) rfl (hb hby at_44) (by decide) (by decide) k) ?_
      refine Ends.st (S' := T3.setTop (mkF m 82 #[.val (.int v0), .val (.int v1), .val (.int v2), .val (.int (0 : Int32)), .val (.ref w0), .val (.int (f1 v0 v1)), .val (.int (1 : Int32))] [(.ref w0)])) (fun _ k => XS.aload X3.here hx rfl (hb hby at_80) rfl rfl k) ?_
      refine Ends.st (S' := T3.setTop (mkF m 84 #[.val (.int v0), .val (.int v1), .val (.int v2), .val (.int (0 : Int32)), .val (.ref w0), .val (.int (f1 v0 v1)), .val (.int (1 : Int32))] [(.int (f1 v0 v1)), (.ref w0)])) (fun _ k => XS.iload X3.here hx rfl (hb hby at_82) rfl k) ?_
      obtain ⟨cq5, kq5, q5a, q5b, q5c⟩ := isOf hZ e3 (E10)
      obtain ⟨_, _, ⟨T5, L5, k5, n5⟩, -, X5, ⟨Lc5, hQ5, l5, y5, z5⟩, st5⟩ := X3.virtualBack hx (y := (⟨"com/example/ruleweave/ruleweave/XmlVersion", "readsAsLineEnd", "(I)Z"⟩ : MethodName)) (z := (⟨"com/example/ruleweave/ruleweave/XmlVersion", "readsAsLineEnd", "(I)Z"⟩ : MethodName)) hown (mvT hZ (hw _ (List.mem_of_getElem? (i := 7) rfl))) (mvT hZ (hw _ (List.mem_of_getElem? (i := 8) rfl))) (notFace_of_selects (args := #[]) (mvT hZ (hw _ (List.mem_of_getElem? (i := 10) rfl)))) (mvT hZ (hw _ (List.mem_of_getElem? (i := 10) rfl))) (mvT hZ (hw _ (List.mem_of_getElem? (i := 9) rfl))) (by decide) (backOf (W := 0) (rm2 l Z a0 hw [] w0 w1 (f1 v0 v1) h0 n0 Z0 S11) hZ (hw _ (List.mem_of_getElem? (i := 11) rfl)) (hw _ (List.mem_of_getElem? (i := 1) rfl)) (by decide) (by decide)) q5a q5c (g := (mkF m 84 #[.val (.int v0), .val (.int v1), .val (.int v2), .val (.int (0 : Int32)), .val (.ref w0), .val (.int (f1 v0 v1)), .val (.int (1 : Int32))] [(.int (f1 v0 v1)), (.ref w0)])) rfl (by rw [hml]; rfl) (Steps.refl _) (argsL := [(.int (f1 v0 v1))]) (rest := []) (lenOf pd_1 rfl) rfl (by show 2 * 0 + _ ≤ _; exact Nat.le_of_eq rfl) (hb hby at_84) (fun _ _ => ⟨rfl, e3, (by decide : 0 + 0 + 0 ≤ _), (by decide : 0 + 0 + 0 ≤ _)⟩)
      dsimp only [Pt.U, Pt.locs, Pt.cells, Pt.slots] at X5 l5 y5 z5 st5 hQ5
      subst l5 y5 z5
      obtain ⟨rfl, N5q, e5⟩ := hQ5
      have N5 := Fr.app N3 N5q
      refine Ends.st (S' := T5.setTop (mkF m 87 #[.val (.int v0), .val (.int v1), .val (.int v2), .val (.int (0 : Int32)), .val (.ref w0), .val (.int (f1 v0 v1)), .val (.int (1 : Int32))] [(.int (f2 w0 w1 (f1 v0 v1)))])) (fun _ k => st5.trans k) ?_
      refine Ends.st (S' := T5.setTop (mkF m 89 #[.val (.int v0), .val (.int v1), .val (.int v2), .val (.int (0 : Int32)), .val (.ref w0), .val (.int (f1 v0 v1)), .val (.int (1 : Int32))] [(.int (1 : Int32)), (.int (f2 w0 w1 (f1 v0 v1)))])) (fun _ k => XS.iload X5.here hx rfl (hb hby at_87) rfl k) ?_
      have hb6 : (f2 w0 w1 (f1 v0 v1)) = (1 : Int32) := by simp [f2, hne, hc1, hc4]
      refine Ends.st (S' := T5.setTop (mkF m 92 #[.val (.int v0), .val (.int v1), .val (.int v2), .val (.int (0 : Int32)), .val (.ref w0), .val (.int (f1 v0 v1)), .val (.int (1 : Int32))] [])) (fun _ k => XS.icmpNo X5.here hx rfl (hb hby at_89) rfl (teq hb6).2 k) ?_
      refine Ends.st (S' := T5.setTop (mkF m 93 #[.val (.int v0), .val (.int v1), .val (.int v2), .val (.int (0 : Int32)), .val (.ref w0), .val (.int (f1 v0 v1)), .val (.int (1 : Int32))] [(.int (1 : Int32))])) (fun _ k => XS.iconst X5.here hx rfl (hb hby at_92) k) ?_
      refine Ends.st (S' := T5.setTop (mkF m 97 #[.val (.int v0), .val (.int v1), .val (.int v2), .val (.int (0 : Int32)), .val (.ref w0), .val (.int (f1 v0 v1)), .val (.int (1 : Int32))] [(.int (1 : Int32))])) (fun _ k => XS.goto X5.here hx rfl (pc0 := 93) (pc' := 97) rfl (hb hby at_93) (by decide) (by decide) k) ?_
      obtain ⟨fs, hr, hrun, hended, hW, hsame⟩ := X5.leave (v := some (.int (1 : Int32))) (fun h => by rw [Bd.returns] at h; cases h)
      exact ⟨_, _, retN X5 hx (t := .boolean) Bd.returns (by simp) (hb hby at_97) hr, hrun, hended, _, _, rfl, (by show Q0 Z  h0 n0 _ T5.heap _; rw [e5]; exact ⟨rfl, N5⟩), ⟨_, rfl⟩, hW, hsame.mono (by decide) (by decide)⟩
    · refine Ends.st (S' := T3.setTop (mkF m 47 #[.val (.int v0), .val (.int v1), .val (.int v2), .val (.int (0 : Int32)), .val (.ref w0), .val (.int (f1 v0 v1)), .unset] [])) (fun _ k => XS.icmpYes X3.here hx rfl (pc0 := 38) (pc' := 47) rfl (hb hby at_38) rfl (feq hc4).2 (by decide) (by decide) k) ?_
      refine Ends.st (S' := T3.setTop (mkF m 48 #[.val (.int v0), .val (.int v1), .val (.int v2), .val (.int (0 : Int32)), .val (.ref w0), .val (.int (f1 v0 v1)), .unset] [(.int (0 : Int32))])) (fun _ k => XS.iloadN X3.here hx rfl (hb hby at_47) rfl k) ?_
      refine Ends.st (S' := T3.setTop (mkF m 77 #[.val (.int v0), .val (.int v1), .val (.int v2), .val (.int (0 : Int32)), .val (.ref w0), .val (.int (f1 v0 v1)), .unset] [])) (fun _ k => XS.ifYes X3.here hx rfl (pc0 := 48) (pc' := 77) rfl (hb hby at_48) rfl ((if0 _ _).trans (teq (by decide : (0 : Int32) = (0 : Int32))).1) (by decide) (by decide) k) ?_
      refine Ends.st (S' := T3.setTop (mkF m 78 #[.val (.int v0), .val (.int v1), .val (.int v2), .val (.int (0 : Int32)), .val (.ref w0), .val (.int (f1 v0 v1)), .unset] [(.int (0 : Int32))])) (fun _ k => XS.iconst X3.here hx rfl (hb hby at_77) k) ?_
      refine Ends.st (S' := T3.setTop (mkF m 80 #[.val (.int v0), .val (.int v1), .val (.int v2), .val (.int (0 : Int32)), .val (.ref w0), .val (.int (f1 v0 v1)), .val (.int (0 : Int32))] [])) (fun _ k => XS.istore X3.here hx rfl (hb hby at_78) rfl (l' := #[.val (.int v0), .val (.int v1), .val (.int v2), .val (.int (0 : Int32)), .val (.ref w0), .val (.int (f1 v0 v1)), .val (.int (0 : Int32))]) rfl k) ?_
      refine Ends.st (S' := T3.setTop (mkF m 82 #[.val (.int v0), .val (.int v1), .val (.int v2), .val (.int (0 : Int32)), .val (.ref w0), .val (.int (f1 v0 v1)), .val (.int (0 : Int32))] [(.ref w0)])) (fun _ k => XS.aload X3.here hx rfl (hb hby at_80) rfl rfl k) ?_
      refine Ends.st (S' := T3.setTop (mkF m 84 #[.val (.int v0), .val (.int v1), .val (.int v2), .val (.int (0 : Int32)), .val (.ref w0), .val (.int (f1 v0 v1)), .val (.int (0 : Int32))] [(.int (f1 v0 v1)), (.ref w0)])) (fun _ k => XS.iload X3.here hx rfl (hb hby at_82) rfl k) ?_
      obtain ⟨cq7, kq7, q7a, q7b, q7c⟩ := isOf hZ e3 (E10)
      obtain ⟨_, _, ⟨T7, L7, k7, n7⟩, -, X7, ⟨Lc7, hQ7, l7, y7, z7⟩, st7⟩ := X3.virtualBack hx (y := (⟨"com/example/ruleweave/ruleweave/XmlVersion", "readsAsLineEnd", "(I)Z"⟩ : MethodName)) (z := (⟨"com/example/ruleweave/ruleweave/XmlVersion", "readsAsLineEnd", "(I)Z"⟩ : MethodName)) hown (mvT hZ (hw _ (List.mem_of_getElem? (i := 7) rfl))) (mvT hZ (hw _ (List.mem_of_getElem? (i := 8) rfl))) (notFace_of_selects (args := #[]) (mvT hZ (hw _ (List.mem_of_getElem? (i := 10) rfl)))) (mvT hZ (hw _ (List.mem_of_getElem? (i := 10) rfl))) (mvT hZ (hw _ (List.mem_of_getElem? (i := 9) rfl))) (by decide) (backOf (W := 0) (rm2 l Z a0 hw [] w0 w1 (f1 v0 v1) h0 n0 Z0 S11) hZ (hw _ (List.mem_of_getElem? (i := 11) rfl)) (hw _ (List.mem_of_getElem? (i := 1) rfl)) (by decide) (by decide)) q7a q7c (g := (mkF m 84 #[.val (.int v0), .val (.int v1), .val (.int v2), .val (.int (0 : Int32)), .val (.ref w0), .val (.int (f1 v0 v1)), .val (.int (0 : Int32))] [(.int (f1 v0 v1)), (.ref w0)])) rfl (by rw [hml]; rfl) (Steps.refl _) (argsL := [(.int (f1 v0 v1))]) (rest := []) (lenOf pd_1 rfl) rfl (by show 2 * 0 + _ ≤ _; exact Nat.le_of_eq rfl) (hb hby at_84) (fun _ _ => ⟨rfl, e3, (by decide : 0 + 0 + 0 ≤ _), (by decide : 0 + 0 + 0 ≤ _)⟩)
      dsimp only [Pt.U, Pt.locs, Pt.cells, Pt.slots] at X7 l7 y7 z7 st7 hQ7
      subst l7 y7 z7
      obtain ⟨rfl, N7q, e7⟩ := hQ7
      have N7 := Fr.app N3 N7q
      refine Ends.st (S' := T7.setTop (mkF m 87 #[.val (.int v0), .val (.int v1), .val (.int v2), .val (.int (0 : Int32)), .val (.ref w0), .val (.int (f1 v0 v1)), .val (.int (0 : Int32))] [(.int (f2 w0 w1 (f1 v0 v1)))])) (fun _ k => st7.trans k) ?_
      refine Ends.st (S' := T7.setTop (mkF m 89 #[.val (.int v0), .val (.int v1), .val (.int v2), .val (.int (0 : Int32)), .val (.ref w0), .val (.int (f1 v0 v1)), .val (.int (0 : Int32))] [(.int (0 : Int32)), (.int (f2 w0 w1 (f1 v0 v1)))])) (fun _ k => XS.iload X7.here hx rfl (hb hby at_87) rfl k) ?_
      have hb8 : (f2 w0 w1 (f1 v0 v1)) = (0 : Int32) := by simp [f2, hne, hc1, hc4]
      refine Ends.st (S' := T7.setTop (mkF m 92 #[.val (.int v0), .val (.int v1), .val (.int v2), .val (.int (0 : Int32)), .val (.ref w0), .val (.int (f1 v0 v1)), .val (.int (0 : Int32))] [])) (fun _ k => XS.icmpNo X7.here hx rfl (hb hby at_89) rfl (teq hb8).2 k) ?_
      refine Ends.st (S' := T7.setTop (mkF m 93 #[.val (.int v0), .val (.int v1), .val (.int v2), .val (.int (0 : Int32)), .val (.ref w0), .val (.int (f1 v0 v1)), .val (.int (0 : Int32))] [(.int (1 : Int32))])) (fun _ k => XS.iconst X7.here hx rfl (hb hby at_92) k) ?_
      refine Ends.st (S' := T7.setTop (mkF m 97 #[.val (.int v0), .val (.int v1), .val (.int v2), .val (.int (0 : Int32)), .val (.ref w0), .val (.int (f1 v0 v1)), .val (.int (0 : Int32))] [(.int (1 : Int32))])) (fun _ k => XS.goto X7.here hx rfl (pc0 := 93) (pc' := 97) rfl (hb hby at_93) (by decide) (by decide) k) ?_
      obtain ⟨fs, hr, hrun, hended, hW, hsame⟩ := X7.leave (v := some (.int (1 : Int32))) (fun h => by rw [Bd.returns] at h; cases h)
      exact ⟨_, _, retN X7 hx (t := .boolean) Bd.returns (by simp) (hb hby at_97) hr, hrun, hended, _, _, rfl, (by show Q0 Z  h0 n0 _ T7.heap _; rw [e7]; exact ⟨rfl, N7⟩), ⟨_, rfl⟩, hW, hsame.mono (by decide) (by decide)⟩
  · refine Ends.st (S' := s₁.setTop (mkF m 6 #[.val (.int v0), .val (.int v1), .val (.int v2), .unset, .unset, .unset, .unset] [])) (fun _ k => XS.ifNo X0.here hx rfl (hb hby at_3) rfl ((if0 _ _).trans (feq hc1).1) k) ?_
    refine Ends.st (S' := s₁.setTop (mkF m 7 #[.val (.int v0), .val (.int v1), .val (.int v2), .unset, .unset, .unset, .unset] [(.int (1 : Int32))])) (fun _ k => XS.iconst X0.here hx rfl (hb hby at_6) k) ?_
    refine Ends.st (S' := s₁.setTop (mkF m 11 #[.val (.int v0), .val (.int v1), .val (.int v2), .unset, .unset, .unset, .unset] [(.int (1 : Int32))])) (fun _ k => XS.goto X0.here hx rfl (pc0 := 7) (pc' := 11) rfl (hb hby at_7) (by decide) (by decide) k) ?_
    refine Ends.st (S' := s₁.setTop (mkF m 12 #[.val (.int v0), .val (.int v1), .val (.int v2), .val (.int (1 : Int32)), .unset, .unset, .unset] [])) (fun _ k => XS.istoreN X0.here hx rfl (hb hby at_11) rfl (l' := #[.val (.int v0), .val (.int v1), .val (.int v2), .val (.int (1 : Int32)), .unset, .unset, .unset]) rfl k) ?_
    refine Ends.st (S' := s₁.setTop (mkF m 13 #[.val (.int v0), .val (.int v1), .val (.int v2), .val (.int (1 : Int32)), .unset, .unset, .unset] [(.int (1 : Int32))])) (fun _ k => XS.iloadN X0.here hx rfl (hb hby at_12) rfl k) ?_
    refine Ends.st (S' := s₁.setTop (mkF m 16 #[.val (.int v0), .val (.int v1), .val (.int v2), .val (.int (1 : Int32)), .unset, .unset, .unset] [])) (fun _ k => XS.ifNo X0.here hx rfl (hb hby at_13) rfl ((if0 _ _).trans (feq (by decide : ¬ ((1 : Int32) = (0 : Int32)))).1) k) ?_
    obtain ⟨T9, X9, e9, st9⟩ := getS2 X0 hx hZ hown (host := "") (Or.inl (hw _ (List.mem_of_getElem? (i := 14) rfl))) Via.refl e0 S11 (g := (mkF m 16 #[.val (.int v0), .val (.int v1), .val (.int v2), .val (.int (1 : Int32)), .unset, .unset, .unset] [])) rfl (hb hby at_16)
    refine Ends.st (S' := T9.setTop (mkF m 19 #[.val (.int v0), .val (.int v1), .val (.int v2), .val (.int (1 : Int32)), .unset, .unset, .unset] [(.ref w1)])) (fun _ k => st9 _ k) ?_
    refine Ends.st (S' := T9.setTop (mkF m 25 #[.val (.int v0), .val (.int v1), .val (.int v2), .val (.int (1 : Int32)), .unset, .unset, .unset] [(.ref w1)])) (fun _ k => XS.goto X9.here hx rfl (pc0 := 19) (pc' := 25) rfl (hb hby at_19) (by decide) (by decide) k) ?_
    refine Ends.st (S' := T9.setTop (mkF m 27 #[.val (.int v0), .val (.int v1), .val (.int v2), .val (.int (1 : Int32)), .val (.ref w1), .unset, .unset] [])) (fun _ k => XS.astore X9.here hx rfl (hb hby at_25) rfl rfl (l' := #[.val (.int v0), .val (.int v1), .val (.int v2), .val (.int (1 : Int32)), .val (.ref w1), .unset, .unset]) rfl k) ?_
    refine Ends.st (S' := T9.setTop (mkF m 28 #[.val (.int v0), .val (.int v1), .val (.int v2), .val (.int (1 : Int32)), .val (.ref w1), .unset, .unset] [(.int v0)])) (fun _ k => XS.iloadN X9.here hx rfl (hb hby at_27) rfl k) ?_
    refine Ends.st (S' := T9.setTop (mkF m 29 #[.val (.int v0), .val (.int v1), .val (.int v2), .val (.int (1 : Int32)), .val (.ref w1), .unset, .unset] [(.int v1), (.int v0)])) (fun _ k => XS.iloadN X9.here hx rfl (hb hby at_28) rfl k) ?_
    obtain ⟨_, _, ⟨T10, L10, k10, n10⟩, -, X10, ⟨Lc10, hQ10, l10, y10, z10⟩, st10⟩ := Jvm.LawKit.callS X9 hx (y := (⟨"com/example/ruleweave/ruleweave/XmlVersionReadsAsLineEndPinLaw", "pick", "(II)I"⟩ : MethodName)) hown (mvT hZ (hw _ (List.mem_of_getElem? (i := 3) rfl))) (mvT hZ (hw _ (List.mem_of_getElem? (i := 4) rfl))) (mvT hZ (hw _ (List.mem_of_getElem? (i := 5) rfl))) (mvT hZ (hw _ (List.mem_of_getElem? (i := 6) rfl))) (by decide) (backOf (W := 0) (rm1 l Z a0 hw [] v0 v1 h0 n0 Z0) hZ (hw _ (List.mem_of_getElem? (i := 6) rfl)) (hw _ (List.mem_of_getElem? (i := 5) rfl)) (by decide) (by decide)) (g := (mkF m 29 #[.val (.int v0), .val (.int v1), .val (.int v2), .val (.int (1 : Int32)), .val (.ref w1), .unset, .unset] [(.int v1), (.int v0)])) rfl (by rw [hml]; rfl) (argsL := [(.int v0), (.int v1)]) (rest := []) (lenOf pd_0 rfl) rfl (by show 2 * 0 + _ ≤ _; exact Nat.le_of_eq rfl) (hb hby at_29) (fun _ _ => ⟨rfl, e9, (by decide : 0 + 0 ≤ _), (by decide : 0 + 0 ≤ _)⟩)
    dsimp only [Pt.U, Pt.locs, Pt.cells, Pt.slots] at X10 l10 y10 z10 st10 hQ10
    subst l10 y10 z10
    obtain ⟨rfl, N10q, e10⟩ := hQ10
    have N10 := Fr.app N0 N10q
    refine Ends.st (S' := T10.setTop (mkF m 32 #[.val (.int v0), .val (.int v1), .val (.int v2), .val (.int (1 : Int32)), .val (.ref w1), .unset, .unset] [(.int (f1 v0 v1))])) (fun _ k => st10 _ k) ?_
    refine Ends.st (S' := T10.setTop (mkF m 34 #[.val (.int v0), .val (.int v1), .val (.int v2), .val (.int (1 : Int32)), .val (.ref w1), .val (.int (f1 v0 v1)), .unset] [])) (fun _ k => XS.istore X10.here hx rfl (hb hby at_32) rfl (l' := #[.val (.int v0), .val (.int v1), .val (.int v2), .val (.int (1 : Int32)), .val (.ref w1), .val (.int (f1 v0 v1)), .unset]) rfl k) ?_
    refine Ends.st (S' := T10.setTop (mkF m 36 #[.val (.int v0), .val (.int v1), .val (.int v2), .val (.int (1 : Int32)), .val (.ref w1), .val (.int (f1 v0 v1)), .unset] [(.int (f1 v0 v1))])) (fun _ k => XS.iload X10.here hx rfl (hb hby at_34) rfl k) ?_
    refine Ends.st (S' := T10.setTop (mkF m 38 #[.val (.int v0), .val (.int v1), .val (.int v2), .val (.int (1 : Int32)), .val (.ref w1), .val (.int (f1 v0 v1)), .unset] [(.int (13 : Int32)), (.int (f1 v0 v1))])) (fun _ k => XS.bipush X10.here hx rfl (hb hby at_36) k) ?_
    by_cases hc11 : (f1 v0 v1) = (13 : Int32)
    · refine Ends.st (S' := T10.setTop (mkF m 41 #[.val (.int v0), .val (.int v1), .val (.int v2), .val (.int (1 : Int32)), .val (.ref w1), .val (.int (f1 v0 v1)), .unset] [])) (fun _ k => XS.icmpNo X10.here hx rfl (hb hby at_38) rfl (teq hc11).2 k) ?_
      refine Ends.st (S' := T10.setTop (mkF m 42 #[.val (.int v0), .val (.int v1), .val (.int v2), .val (.int (1 : Int32)), .val (.ref w1), .val (.int (f1 v0 v1)), .unset] [(.int (1 : Int32))])) (fun _ k => XS.iconst X10.here hx rfl (hb hby at_41) k) ?_
      refine Ends.st (S' := T10.setTop (mkF m 44 #[.val (.int v0), .val (.int v1), .val (.int v2), .val (.int (1 : Int32)), .val (.ref w1), .val (.int (f1 v0 v1)), .val (.int (1 : Int32))] [])) (fun _ k => XS.istore X10.here hx rfl (hb hby at_42) rfl (l' := #[.val (.int v0), .val (.int v1), .val (.int v2), .val (.int (1 : Int32)), .val (.ref w1), .val (.int (f1 v0 v1)), .val (.int (1 : Int32))]) rfl k) ?_
      refine Ends.st (S' := T10.setTop (mkF m 80 #[.val (.int v0), .val (.int v1), .val (.int v2), .val (.int (1 : Int32)), .val (.ref w1), .val (.int (f1 v0 v1)), .val (.int (1 : Int32))] [])) (fun _ k => XS.goto X10.here hx rfl (pc0 := 44) (pc' := 80) rfl (hb hby at_44) (by decide) (by decide) k) ?_
      refine Ends.st (S' := T10.setTop (mkF m 82 #[.val (.int v0), .val (.int v1), .val (.int v2), .val (.int (1 : Int32)), .val (.ref w1), .val (.int (f1 v0 v1)), .val (.int (1 : Int32))] [(.ref w1)])) (fun _ k => XS.aload X10.here hx rfl (hb hby at_80) rfl rfl k) ?_
      refine Ends.st (S' := T10.setTop (mkF m 84 #[.val (.int v0), .val (.int v1), .val (.int v2), .val (.int (1 : Int32)), .val (.ref w1), .val (.int (f1 v0 v1)), .val (.int (1 : Int32))] [(.int (f1 v0 v1)), (.ref w1)])) (fun _ k => XS.iload X10.here hx rfl (hb hby at_82) rfl k) ?_
      obtain ⟨cq12, kq12, q12a, q12b, q12c⟩ := isOf hZ e10 (E11)
      obtain ⟨_, _, ⟨T12, L12, k12, n12⟩, -, X12, ⟨Lc12, hQ12, l12, y12, z12⟩, st12⟩ := X10.virtualBack hx (y := (⟨"com/example/ruleweave/ruleweave/XmlVersion", "readsAsLineEnd", "(I)Z"⟩ : MethodName)) (z := (⟨"com/example/ruleweave/ruleweave/XmlVersion", "readsAsLineEnd", "(I)Z"⟩ : MethodName)) hown (mvT hZ (hw _ (List.mem_of_getElem? (i := 7) rfl))) (mvT hZ (hw _ (List.mem_of_getElem? (i := 8) rfl))) (notFace_of_selects (args := #[]) (mvT hZ (hw _ (List.mem_of_getElem? (i := 10) rfl)))) (mvT hZ (hw _ (List.mem_of_getElem? (i := 10) rfl))) (mvT hZ (hw _ (List.mem_of_getElem? (i := 9) rfl))) (by decide) (backOf (W := 0) (rm2 l Z a0 hw [] w1 w1 (f1 v0 v1) h0 n0 Z0 S11) hZ (hw _ (List.mem_of_getElem? (i := 11) rfl)) (hw _ (List.mem_of_getElem? (i := 1) rfl)) (by decide) (by decide)) q12a q12c (g := (mkF m 84 #[.val (.int v0), .val (.int v1), .val (.int v2), .val (.int (1 : Int32)), .val (.ref w1), .val (.int (f1 v0 v1)), .val (.int (1 : Int32))] [(.int (f1 v0 v1)), (.ref w1)])) rfl (by rw [hml]; rfl) (Steps.refl _) (argsL := [(.int (f1 v0 v1))]) (rest := []) (lenOf pd_1 rfl) rfl (by show 2 * 0 + _ ≤ _; exact Nat.le_of_eq rfl) (hb hby at_84) (fun _ _ => ⟨rfl, e10, (by decide : 0 + 0 + 0 ≤ _), (by decide : 0 + 0 + 0 ≤ _)⟩)
      dsimp only [Pt.U, Pt.locs, Pt.cells, Pt.slots] at X12 l12 y12 z12 st12 hQ12
      subst l12 y12 z12
      obtain ⟨rfl, N12q, e12⟩ := hQ12
      have N12 := Fr.app N10 N12q
      refine Ends.st (S' := T12.setTop (mkF m 87 #[.val (.int v0), .val (.int v1), .val (.int v2), .val (.int (1 : Int32)), .val (.ref w1), .val (.int (f1 v0 v1)), .val (.int (1 : Int32))] [(.int (f2 w1 w1 (f1 v0 v1)))])) (fun _ k => st12.trans k) ?_
      refine Ends.st (S' := T12.setTop (mkF m 89 #[.val (.int v0), .val (.int v1), .val (.int v2), .val (.int (1 : Int32)), .val (.ref w1), .val (.int (f1 v0 v1)), .val (.int (1 : Int32))] [(.int (1 : Int32)), (.int (f2 w1 w1 (f1 v0 v1)))])) (fun _ k => XS.iload X12.here hx rfl (hb hby at_87) rfl k) ?_
      have hb13 : (f2 w1 w1 (f1 v0 v1)) = (1 : Int32) := by simp [f2, hne, hc1, hc11]
      refine Ends.st (S' := T12.setTop (mkF m 92 #[.val (.int v0), .val (.int v1), .val (.int v2), .val (.int (1 : Int32)), .val (.ref w1), .val (.int (f1 v0 v1)), .val (.int (1 : Int32))] [])) (fun _ k => XS.icmpNo X12.here hx rfl (hb hby at_89) rfl (teq hb13).2 k) ?_
      refine Ends.st (S' := T12.setTop (mkF m 93 #[.val (.int v0), .val (.int v1), .val (.int v2), .val (.int (1 : Int32)), .val (.ref w1), .val (.int (f1 v0 v1)), .val (.int (1 : Int32))] [(.int (1 : Int32))])) (fun _ k => XS.iconst X12.here hx rfl (hb hby at_92) k) ?_
      refine Ends.st (S' := T12.setTop (mkF m 97 #[.val (.int v0), .val (.int v1), .val (.int v2), .val (.int (1 : Int32)), .val (.ref w1), .val (.int (f1 v0 v1)), .val (.int (1 : Int32))] [(.int (1 : Int32))])) (fun _ k => XS.goto X12.here hx rfl (pc0 := 93) (pc' := 97) rfl (hb hby at_93) (by decide) (by decide) k) ?_
      obtain ⟨fs, hr, hrun, hended, hW, hsame⟩ := X12.leave (v := some (.int (1 : Int32))) (fun h => by rw [Bd.returns] at h; cases h)
      exact ⟨_, _, retN X12 hx (t := .boolean) Bd.returns (by simp) (hb hby at_97) hr, hrun, hended, _, _, rfl, (by show Q0 Z  h0 n0 _ T12.heap _; rw [e12]; exact ⟨rfl, N12⟩), ⟨_, rfl⟩, hW, hsame.mono (by decide) (by decide)⟩
    · refine Ends.st (S' := T10.setTop (mkF m 47 #[.val (.int v0), .val (.int v1), .val (.int v2), .val (.int (1 : Int32)), .val (.ref w1), .val (.int (f1 v0 v1)), .unset] [])) (fun _ k => XS.icmpYes X10.here hx rfl (pc0 := 38) (pc' := 47) rfl (hb hby at_38) rfl (feq hc11).2 (by decide) (by decide) k) ?_
      refine Ends.st (S' := T10.setTop (mkF m 48 #[.val (.int v0), .val (.int v1), .val (.int v2), .val (.int (1 : Int32)), .val (.ref w1), .val (.int (f1 v0 v1)), .unset] [(.int (1 : Int32))])) (fun _ k => XS.iloadN X10.here hx rfl (hb hby at_47) rfl k) ?_
      refine Ends.st (S' := T10.setTop (mkF m 51 #[.val (.int v0), .val (.int v1), .val (.int v2), .val (.int (1 : Int32)), .val (.ref w1), .val (.int (f1 v0 v1)), .unset] [])) (fun _ k => XS.ifNo X10.here hx rfl (hb hby at_48) rfl ((if0 _ _).trans (feq (by decide : ¬ ((1 : Int32) = (0 : Int32)))).1) k) ?_
      refine Ends.st (S' := T10.setTop (mkF m 53 #[.val (.int v0), .val (.int v1), .val (.int v2), .val (.int (1 : Int32)), .val (.ref w1), .val (.int (f1 v0 v1)), .unset] [(.int (f1 v0 v1))])) (fun _ k => XS.iload X10.here hx rfl (hb hby at_51) rfl k) ?_
      refine Ends.st (S' := T10.setTop (mkF m 56 #[.val (.int v0), .val (.int v1), .val (.int v2), .val (.int (1 : Int32)), .val (.ref w1), .val (.int (f1 v0 v1)), .unset] [(.int (133 : Int32)), (.int (f1 v0 v1))])) (fun _ k => XS.sipush X10.here hx rfl (hb hby at_53) k) ?_
      by_cases hc14 : (f1 v0 v1) = (133 : Int32)
      · refine Ends.st (S' := T10.setTop (mkF m 67 #[.val (.int v0), .val (.int v1), .val (.int v2), .val (.int (1 : Int32)), .val (.ref w1), .val (.int (f1 v0 v1)), .unset] [])) (fun _ k => XS.icmpYes X10.here hx rfl (pc0 := 56) (pc' := 67) rfl (hb hby at_56) rfl (teq hc14).1 (by decide) (by decide) k) ?_
        refine Ends.st (S' := T10.setTop (mkF m 68 #[.val (.int v0), .val (.int v1), .val (.int v2), .val (.int (1 : Int32)), .val (.ref w1), .val (.int (f1 v0 v1)), .unset] [(.int (1 : Int32))])) (fun _ k => XS.iconst X10.here hx rfl (hb hby at_67) k) ?_
        refine Ends.st (S' := T10.setTop (mkF m 72 #[.val (.int v0), .val (.int v1), .val (.int v2), .val (.int (1 : Int32)), .val (.ref w1), .val (.int (f1 v0 v1)), .unset] [(.int (1 : Int32))])) (fun _ k => XS.goto X10.here hx rfl (pc0 := 68) (pc' := 72) rfl (hb hby at_68) (by decide) (by decide) k) ?_
        refine Ends.st (S' := T10.setTop (mkF m 74 #[.val (.int v0), .val (.int v1), .val (.int v2), .val (.int (1 : Int32)), .val (.ref w1), .val (.int (f1 v0 v1)), .val (.int (1 : Int32))] [])) (fun _ k => XS.istore X10.here hx rfl (hb hby at_72) rfl (l' := #[.val (.int v0), .val (.int v1), .val (.int v2), .val (.int (1 : Int32)), .val (.ref w1), .val (.int (f1 v0 v1)), .val (.int (1 : Int32))]) rfl k) ?_
        refine Ends.st (S' := T10.setTop (mkF m 80 #[.val (.int v0), .val (.int v1), .val (.int v2), .val (.int (1 : Int32)), .val (.ref w1), .val (.int (f1 v0 v1)), .val (.int (1 : Int32))] [])) (fun _ k => XS.goto X10.here hx rfl (pc0 := 74) (pc' := 80) rfl (hb hby at_74) (by decide) (by decide) k) ?_
        refine Ends.st (S' := T10.setTop (mkF m 82 #[.val (.int v0), .val (.int v1), .val (.int v2), .val (.int (1 : Int32)), .val (.ref w1), .val (.int (f1 v0 v1)), .val (.int (1 : Int32))] [(.ref w1)])) (fun _ k => XS.aload X10.here hx rfl (hb hby at_80) rfl rfl k) ?_
        refine Ends.st (S' := T10.setTop (mkF m 84 #[.val (.int v0), .val (.int v1), .val (.int v2), .val (.int (1 : Int32)), .val (.ref w1), .val (.int (f1 v0 v1)), .val (.int (1 : Int32))] [(.int (f1 v0 v1)), (.ref w1)])) (fun _ k => XS.iload X10.here hx rfl (hb hby at_82) rfl k) ?_
        obtain ⟨cq15, kq15, q15a, q15b, q15c⟩ := isOf hZ e10 (E11)
        obtain ⟨_, _, ⟨T15, L15, k15, n15⟩, -, X15, ⟨Lc15, hQ15, l15, y15, z15⟩, st15⟩ := X10.virtualBack hx (y := (⟨"com/example/ruleweave/ruleweave/XmlVersion", "readsAsLineEnd", "(I)Z"⟩ : MethodName)) (z := (⟨"com/example/ruleweave/ruleweave/XmlVersion", "readsAsLineEnd", "(I)Z"⟩ : MethodName)) hown (mvT hZ (hw _ (List.mem_of_getElem? (i := 7) rfl))) (mvT hZ (hw _ (List.mem_of_getElem? (i := 8) rfl))) (notFace_of_selects (args := #[]) (mvT hZ (hw _ (List.mem_of_getElem? (i := 10) rfl)))) (mvT hZ (hw _ (List.mem_of_getElem? (i := 10) rfl))) (mvT hZ (hw _ (List.mem_of_getElem? (i := 9) rfl))) (by decide) (backOf (W := 0) (rm2 l Z a0 hw [] w1 w1 (f1 v0 v1) h0 n0 Z0 S11) hZ (hw _ (List.mem_of_getElem? (i := 11) rfl)) (hw _ (List.mem_of_getElem? (i := 1) rfl)) (by decide) (by decide)) q15a q15c (g := (mkF m 84 #[.val (.int v0), .val (.int v1), .val (.int v2), .val (.int (1 : Int32)), .val (.ref w1), .val (.int (f1 v0 v1)), .val (.int (1 : Int32))] [(.int (f1 v0 v1)), (.ref w1)])) rfl (by rw [hml]; rfl) (Steps.refl _) (argsL := [(.int (f1 v0 v1))]) (rest := []) (lenOf pd_1 rfl) rfl (by show 2 * 0 + _ ≤ _; exact Nat.le_of_eq rfl) (hb hby at_84) (fun _ _ => ⟨rfl, e10, (by decide : 0 + 0 + 0 ≤ _), (by decide : 0 + 0 + 0 ≤ _)⟩)
        dsimp only [Pt.U, Pt.locs, Pt.cells, Pt.slots] at X15 l15 y15 z15 st15 hQ15
        subst l15 y15 z15
        obtain ⟨rfl, N15q, e15⟩ := hQ15
        have N15 := Fr.app N10 N15q
        refine Ends.st (S' := T15.setTop (mkF m 87 #[.val (.int v0), .val (.int v1), .val (.int v2), .val (.int (1 : Int32)), .val (.ref w1), .val (.int (f1 v0 v1)), .val (.int (1 : Int32))] [(.int (f2 w1 w1 (f1 v0 v1)))])) (fun _ k => st15.trans k) ?_
        refine Ends.st (S' := T15.setTop (mkF m 89 #[.val (.int v0), .val (.int v1), .val (.int v2), .val (.int (1 : Int32)), .val (.ref w1), .val (.int (f1 v0 v1)), .val (.int (1 : Int32))] [(.int (1 : Int32)), (.int (f2 w1 w1 (f1 v0 v1)))])) (fun _ k => XS.iload X15.here hx rfl (hb hby at_87) rfl k) ?_
        have hb16 : (f2 w1 w1 (f1 v0 v1)) = (1 : Int32) := by simp [f2, hne, hc1, hc11, hc14]
        refine Ends.st (S' := T15.setTop (mkF m 92 #[.val (.int v0), .val (.int v1), .val (.int v2), .val (.int (1 : Int32)), .val (.ref w1), .val (.int (f1 v0 v1)), .val (.int (1 : Int32))] [])) (fun _ k => XS.icmpNo X15.here hx rfl (hb hby at_89) rfl (teq hb16).2 k) ?_
        refine Ends.st (S' := T15.setTop (mkF m 93 #[.val (.int v0), .val (.int v1), .val (.int v2), .val (.int (1 : Int32)), .val (.ref w1), .val (.int (f1 v0 v1)), .val (.int (1 : Int32))] [(.int (1 : Int32))])) (fun _ k => XS.iconst X15.here hx rfl (hb hby at_92) k) ?_
        refine Ends.st (S' := T15.setTop (mkF m 97 #[.val (.int v0), .val (.int v1), .val (.int v2), .val (.int (1 : Int32)), .val (.ref w1), .val (.int (f1 v0 v1)), .val (.int (1 : Int32))] [(.int (1 : Int32))])) (fun _ k => XS.goto X15.here hx rfl (pc0 := 93) (pc' := 97) rfl (hb hby at_93) (by decide) (by decide) k) ?_
        obtain ⟨fs, hr, hrun, hended, hW, hsame⟩ := X15.leave (v := some (.int (1 : Int32))) (fun h => by rw [Bd.returns] at h; cases h)
        exact ⟨_, _, retN X15 hx (t := .boolean) Bd.returns (by simp) (hb hby at_97) hr, hrun, hended, _, _, rfl, (by show Q0 Z  h0 n0 _ T15.heap _; rw [e15]; exact ⟨rfl, N15⟩), ⟨_, rfl⟩, hW, hsame.mono (by decide) (by decide)⟩
      · refine Ends.st (S' := T10.setTop (mkF m 59 #[.val (.int v0), .val (.int v1), .val (.int v2), .val (.int (1 : Int32)), .val (.ref w1), .val (.int (f1 v0 v1)), .unset] [])) (fun _ k => XS.icmpNo X10.here hx rfl (hb hby at_56) rfl (feq hc14).1 k) ?_
        refine Ends.st (S' := T10.setTop (mkF m 61 #[.val (.int v0), .val (.int v1), .val (.int v2), .val (.int (1 : Int32)), .val (.ref w1), .val (.int (f1 v0 v1)), .unset] [(.int (f1 v0 v1))])) (fun _ k => XS.iload X10.here hx rfl (hb hby at_59) rfl k) ?_
        refine Ends.st (S' := T10.setTop (mkF m 64 #[.val (.int v0), .val (.int v1), .val (.int v2), .val (.int (1 : Int32)), .val (.ref w1), .val (.int (f1 v0 v1)), .unset] [(.int (8232 : Int32)), (.int (f1 v0 v1))])) (fun _ k => XS.sipush X10.here hx rfl (hb hby at_61) k) ?_
        by_cases hc17 : (f1 v0 v1) = (8232 : Int32)
        · refine Ends.st (S' := T10.setTop (mkF m 67 #[.val (.int v0), .val (.int v1), .val (.int v2), .val (.int (1 : Int32)), .val (.ref w1), .val (.int (f1 v0 v1)), .unset] [])) (fun _ k => XS.icmpNo X10.here hx rfl (hb hby at_64) rfl (teq hc17).2 k) ?_
          refine Ends.st (S' := T10.setTop (mkF m 68 #[.val (.int v0), .val (.int v1), .val (.int v2), .val (.int (1 : Int32)), .val (.ref w1), .val (.int (f1 v0 v1)), .unset] [(.int (1 : Int32))])) (fun _ k => XS.iconst X10.here hx rfl (hb hby at_67) k) ?_
          refine Ends.st (S' := T10.setTop (mkF m 72 #[.val (.int v0), .val (.int v1), .val (.int v2), .val (.int (1 : Int32)), .val (.ref w1), .val (.int (f1 v0 v1)), .unset] [(.int (1 : Int32))])) (fun _ k => XS.goto X10.here hx rfl (pc0 := 68) (pc' := 72) rfl (hb hby at_68) (by decide) (by decide) k) ?_
          refine Ends.st (S' := T10.setTop (mkF m 74 #[.val (.int v0), .val (.int v1), .val (.int v2), .val (.int (1 : Int32)), .val (.ref w1), .val (.int (f1 v0 v1)), .val (.int (1 : Int32))] [])) (fun _ k => XS.istore X10.here hx rfl (hb hby at_72) rfl (l' := #[.val (.int v0), .val (.int v1), .val (.int v2), .val (.int (1 : Int32)), .val (.ref w1), .val (.int (f1 v0 v1)), .val (.int (1 : Int32))]) rfl k) ?_
          refine Ends.st (S' := T10.setTop (mkF m 80 #[.val (.int v0), .val (.int v1), .val (.int v2), .val (.int (1 : Int32)), .val (.ref w1), .val (.int (f1 v0 v1)), .val (.int (1 : Int32))] [])) (fun _ k => XS.goto X10.here hx rfl (pc0 := 74) (pc' := 80) rfl (hb hby at_74) (by decide) (by decide) k) ?_
          refine Ends.st (S' := T10.setTop (mkF m 82 #[.val (.int v0), .val (.int v1), .val (.int v2), .val (.int (1 : Int32)), .val (.ref w1), .val (.int (f1 v0 v1)), .val (.int (1 : Int32))] [(.ref w1)])) (fun _ k => XS.aload X10.here hx rfl (hb hby at_80) rfl rfl k) ?_
          refine Ends.st (S' := T10.setTop (mkF m 84 #[.val (.int v0), .val (.int v1), .val (.int v2), .val (.int (1 : Int32)), .val (.ref w1), .val (.int (f1 v0 v1)), .val (.int (1 : Int32))] [(.int (f1 v0 v1)), (.ref w1)])) (fun _ k => XS.iload X10.here hx rfl (hb hby at_82) rfl k) ?_
          obtain ⟨cq18, kq18, q18a, q18b, q18c⟩ := isOf hZ e10 (E11)
          obtain ⟨_, _, ⟨T18, L18, k18, n18⟩, -, X18, ⟨Lc18, hQ18, l18, y18, z18⟩, st18⟩ := X10.virtualBack hx (y := (⟨"com/example/ruleweave/ruleweave/XmlVersion", "readsAsLineEnd", "(I)Z"⟩ : MethodName)) (z := (⟨"com/example/ruleweave/ruleweave/XmlVersion", "readsAsLineEnd", "(I)Z"⟩ : MethodName)) hown (mvT hZ (hw _ (List.mem_of_getElem? (i := 7) rfl))) (mvT hZ (hw _ (List.mem_of_getElem? (i := 8) rfl))) (notFace_of_selects (args := #[]) (mvT hZ (hw _ (List.mem_of_getElem? (i := 10) rfl)))) (mvT hZ (hw _ (List.mem_of_getElem? (i := 10) rfl))) (mvT hZ (hw _ (List.mem_of_getElem? (i := 9) rfl))) (by decide) (backOf (W := 0) (rm2 l Z a0 hw [] w1 w1 (f1 v0 v1) h0 n0 Z0 S11) hZ (hw _ (List.mem_of_getElem? (i := 11) rfl)) (hw _ (List.mem_of_getElem? (i := 1) rfl)) (by decide) (by decide)) q18a q18c (g := (mkF m 84 #[.val (.int v0), .val (.int v1), .val (.int v2), .val (.int (1 : Int32)), .val (.ref w1), .val (.int (f1 v0 v1)), .val (.int (1 : Int32))] [(.int (f1 v0 v1)), (.ref w1)])) rfl (by rw [hml]; rfl) (Steps.refl _) (argsL := [(.int (f1 v0 v1))]) (rest := []) (lenOf pd_1 rfl) rfl (by show 2 * 0 + _ ≤ _; exact Nat.le_of_eq rfl) (hb hby at_84) (fun _ _ => ⟨rfl, e10, (by decide : 0 + 0 + 0 ≤ _), (by decide : 0 + 0 + 0 ≤ _)⟩)
          dsimp only [Pt.U, Pt.locs, Pt.cells, Pt.slots] at X18 l18 y18 z18 st18 hQ18
          subst l18 y18 z18
          obtain ⟨rfl, N18q, e18⟩ := hQ18
          have N18 := Fr.app N10 N18q
          refine Ends.st (S' := T18.setTop (mkF m 87 #[.val (.int v0), .val (.int v1), .val (.int v2), .val (.int (1 : Int32)), .val (.ref w1), .val (.int (f1 v0 v1)), .val (.int (1 : Int32))] [(.int (f2 w1 w1 (f1 v0 v1)))])) (fun _ k => st18.trans k) ?_
          refine Ends.st (S' := T18.setTop (mkF m 89 #[.val (.int v0), .val (.int v1), .val (.int v2), .val (.int (1 : Int32)), .val (.ref w1), .val (.int (f1 v0 v1)), .val (.int (1 : Int32))] [(.int (1 : Int32)), (.int (f2 w1 w1 (f1 v0 v1)))])) (fun _ k => XS.iload X18.here hx rfl (hb hby at_87) rfl k) ?_
          have hb19 : (f2 w1 w1 (f1 v0 v1)) = (1 : Int32) := by simp [f2, hne, hc1, hc11, hc14, hc17]
          refine Ends.st (S' := T18.setTop (mkF m 92 #[.val (.int v0), .val (.int v1), .val (.int v2), .val (.int (1 : Int32)), .val (.ref w1), .val (.int (f1 v0 v1)), .val (.int (1 : Int32))] [])) (fun _ k => XS.icmpNo X18.here hx rfl (hb hby at_89) rfl (teq hb19).2 k) ?_
          refine Ends.st (S' := T18.setTop (mkF m 93 #[.val (.int v0), .val (.int v1), .val (.int v2), .val (.int (1 : Int32)), .val (.ref w1), .val (.int (f1 v0 v1)), .val (.int (1 : Int32))] [(.int (1 : Int32))])) (fun _ k => XS.iconst X18.here hx rfl (hb hby at_92) k) ?_
          refine Ends.st (S' := T18.setTop (mkF m 97 #[.val (.int v0), .val (.int v1), .val (.int v2), .val (.int (1 : Int32)), .val (.ref w1), .val (.int (f1 v0 v1)), .val (.int (1 : Int32))] [(.int (1 : Int32))])) (fun _ k => XS.goto X18.here hx rfl (pc0 := 93) (pc' := 97) rfl (hb hby at_93) (by decide) (by decide) k) ?_
          obtain ⟨fs, hr, hrun, hended, hW, hsame⟩ := X18.leave (v := some (.int (1 : Int32))) (fun h => by rw [Bd.returns] at h; cases h)
          exact ⟨_, _, retN X18 hx (t := .boolean) Bd.returns (by simp) (hb hby at_97) hr, hrun, hended, _, _, rfl, (by show Q0 Z  h0 n0 _ T18.heap _; rw [e18]; exact ⟨rfl, N18⟩), ⟨_, rfl⟩, hW, hsame.mono (by decide) (by decide)⟩
        · refine Ends.st (S' := T10.setTop (mkF m 71 #[.val (.int v0), .val (.int v1), .val (.int v2), .val (.int (1 : Int32)), .val (.ref w1), .val (.int (f1 v0 v1)), .unset] [])) (fun _ k => XS.icmpYes X10.here hx rfl (pc0 := 64) (pc' := 71) rfl (hb hby at_64) rfl (feq hc17).2 (by decide) (by decide) k) ?_
          refine Ends.st (S' := T10.setTop (mkF m 72 #[.val (.int v0), .val (.int v1), .val (.int v2), .val (.int (1 : Int32)), .val (.ref w1), .val (.int (f1 v0 v1)), .unset] [(.int (0 : Int32))])) (fun _ k => XS.iconst X10.here hx rfl (hb hby at_71) k) ?_
          refine Ends.st (S' := T10.setTop (mkF m 74 #[.val (.int v0), .val (.int v1), .val (.int v2), .val (.int (1 : Int32)), .val (.ref w1), .val (.int (f1 v0 v1)), .val (.int (0 : Int32))] [])) (fun _ k => XS.istore X10.here hx rfl (hb hby at_72) rfl (l' := #[.val (.int v0), .val (.int v1), .val (.int v2), .val (.int (1 : Int32)), .val (.ref w1), .val (.int (f1 v0 v1)), .val (.int (0 : Int32))]) rfl k) ?_
          refine Ends.st (S' := T10.setTop (mkF m 80 #[.val (.int v0), .val (.int v1), .val (.int v2), .val (.int (1 : Int32)), .val (.ref w1), .val (.int (f1 v0 v1)), .val (.int (0 : Int32))] [])) (fun _ k => XS.goto X10.here hx rfl (pc0 := 74) (pc' := 80) rfl (hb hby at_74) (by decide) (by decide) k) ?_
          refine Ends.st (S' := T10.setTop (mkF m 82 #[.val (.int v0), .val (.int v1), .val (.int v2), .val (.int (1 : Int32)), .val (.ref w1), .val (.int (f1 v0 v1)), .val (.int (0 : Int32))] [(.ref w1)])) (fun _ k => XS.aload X10.here hx rfl (hb hby at_80) rfl rfl k) ?_
          refine Ends.st (S' := T10.setTop (mkF m 84 #[.val (.int v0), .val (.int v1), .val (.int v2), .val (.int (1 : Int32)), .val (.ref w1), .val (.int (f1 v0 v1)), .val (.int (0 : Int32))] [(.int (f1 v0 v1)), (.ref w1)])) (fun _ k => XS.iload X10.here hx rfl (hb hby at_82) rfl k) ?_
          obtain ⟨cq20, kq20, q20a, q20b, q20c⟩ := isOf hZ e10 (E11)
          obtain ⟨_, _, ⟨T20, L20, k20, n20⟩, -, X20, ⟨Lc20, hQ20, l20, y20, z20⟩, st20⟩ := X10.virtualBack hx (y := (⟨"com/example/ruleweave/ruleweave/XmlVersion", "readsAsLineEnd", "(I)Z"⟩ : MethodName)) (z := (⟨"com/example/ruleweave/ruleweave/XmlVersion", "readsAsLineEnd", "(I)Z"⟩ : MethodName)) hown (mvT hZ (hw _ (List.mem_of_getElem? (i := 7) rfl))) (mvT hZ (hw _ (List.mem_of_getElem? (i := 8) rfl))) (notFace_of_selects (args := #[]) (mvT hZ (hw _ (List.mem_of_getElem? (i := 10) rfl)))) (mvT hZ (hw _ (List.mem_of_getElem? (i := 10) rfl))) (mvT hZ (hw _ (List.mem_of_getElem? (i := 9) rfl))) (by decide) (backOf (W := 0) (rm2 l Z a0 hw [] w1 w1 (f1 v0 v1) h0 n0 Z0 S11) hZ (hw _ (List.mem_of_getElem? (i := 11) rfl)) (hw _ (List.mem_of_getElem? (i := 1) rfl)) (by decide) (by decide)) q20a q20c (g := (mkF m 84 #[.val (.int v0), .val (.int v1), .val (.int v2), .val (.int (1 : Int32)), .val (.ref w1), .val (.int (f1 v0 v1)), .val (.int (0 : Int32))] [(.int (f1 v0 v1)), (.ref w1)])) rfl (by rw [hml]; rfl) (Steps.refl _) (argsL := [(.int (f1 v0 v1))]) (rest := []) (lenOf pd_1 rfl) rfl (by show 2 * 0 + _ ≤ _; exact Nat.le_of_eq rfl) (hb hby at_84) (fun _ _ => ⟨rfl, e10, (by decide : 0 + 0 + 0 ≤ _), (by decide : 0 + 0 + 0 ≤ _)⟩)
          dsimp only [Pt.U, Pt.locs, Pt.cells, Pt.slots] at X20 l20 y20 z20 st20 hQ20
          subst l20 y20 z20
          obtain ⟨rfl, N20q, e20⟩ := hQ20
          have N20 := Fr.app N10 N20q
          refine Ends.st (S' := T20.setTop (mkF m 87 #[.val (.int v0), .val (.int v1), .val (.int v2), .val (.int (1 : Int32)), .val (.ref w1), .val (.int (f1 v0 v1)), .val (.int (0 : Int32))] [(.int (f2 w1 w1 (f1 v0 v1)))])) (fun _ k => st20.trans k) ?_
          refine Ends.st (S' := T20.setTop (mkF m 89 #[.val (.int v0), .val (.int v1), .val (.int v2), .val (.int (1 : Int32)), .val (.ref w1), .val (.int (f1 v0 v1)), .val (.int (0 : Int32))] [(.int (0 : Int32)), (.int (f2 w1 w1 (f1 v0 v1)))])) (fun _ k => XS.iload X20.here hx rfl (hb hby at_87) rfl k) ?_
          have hb21 : (f2 w1 w1 (f1 v0 v1)) = (0 : Int32) := by simp [f2, hne, hc1, hc11, hc14, hc17]
          refine Ends.st (S' := T20.setTop (mkF m 92 #[.val (.int v0), .val (.int v1), .val (.int v2), .val (.int (1 : Int32)), .val (.ref w1), .val (.int (f1 v0 v1)), .val (.int (0 : Int32))] [])) (fun _ k => XS.icmpNo X20.here hx rfl (hb hby at_89) rfl (teq hb21).2 k) ?_
          refine Ends.st (S' := T20.setTop (mkF m 93 #[.val (.int v0), .val (.int v1), .val (.int v2), .val (.int (1 : Int32)), .val (.ref w1), .val (.int (f1 v0 v1)), .val (.int (0 : Int32))] [(.int (1 : Int32))])) (fun _ k => XS.iconst X20.here hx rfl (hb hby at_92) k) ?_
          refine Ends.st (S' := T20.setTop (mkF m 97 #[.val (.int v0), .val (.int v1), .val (.int v2), .val (.int (1 : Int32)), .val (.ref w1), .val (.int (f1 v0 v1)), .val (.int (0 : Int32))] [(.int (1 : Int32))])) (fun _ k => XS.goto X20.here hx rfl (pc0 := 93) (pc' := 97) rfl (hb hby at_93) (by decide) (by decide) k) ?_
          obtain ⟨fs, hr, hrun, hended, hW, hsame⟩ := X20.leave (v := some (.int (1 : Int32))) (fun h => by rw [Bd.returns] at h; cases h)
          exact ⟨_, _, retN X20 hx (t := .boolean) Bd.returns (by simp) (hb hby at_97) hr, hrun, hended, _, _, rfl, (by show Q0 Z  h0 n0 _ T20.heap _; rw [e20]; exact ⟨rfl, N20⟩), ⟨_, rfl⟩, hW, hsame.mono (by decide) (by decide)⟩
set_option maxRecDepth 65536 in
set_option maxHeartbeats 40000000 in
theorem comes_1 {Post : Tables → Env → Array Value → State → Outcome → State → Prop} (hpost : ∀ tb e args s v u, (limb_1_1.after args s (.returned v) u = true ∧ limb_1_2.after args s (.returned v) u = true ∧ True) → FrameEnd s (.returned v) u (Jvm.fieldLocs frame_1_writes args s ++ Jvm.arrayLocs frame_1_arrays args s ++ Jvm.staticLocs frame_1_statics s) 0 0 → Post tb e args s (.returned v) u) :
    ArmFor flags0 classFile x code maxLocals ret World_1 tables_1 room_1 Calls_1 rest_1 Pre_1 Post := by
  intro l hfl _ _ p e ha hc hk s m args below hf hA hF happ hP
  obtain ⟨hcalls, hrest, hpre⟩ := hP
  obtain ⟨-, -, -, hnamed, -, -, -, hat⟩ := (Spec.applies_iff hf).mp happ
  obtain ⟨hg, hn⟩ := and_e (Cond.before_iff.mp (show (Jvm.Cond.and given_1 narrow_1).before args s = true from hpre))
  obtain ⟨gc, gr0⟩ := and_e hg
  obtain ⟨ga0, gr1⟩ := and_e gr0
  obtain ⟨ga1, gr2⟩ := and_e gr1
  obtain ⟨w0, w1, w2, rfl⟩ : ∃ w0 w1 w2 : Value, args = #[w0, w1, w2] := by
    have hs : args.size = 3 := by simpa [Cond.value, given_1] using gc
    obtain ⟨L⟩ := args
    match L, hs with
    | [w0, w1, w2], _ => exact ⟨w0, w1, w2, rfl⟩
  have hw := fun d (hd : d ∈ tables_1) => atoms_spec (ws := Jvm.Cond.code x code maxLocals ret :: tables_1) hat d (List.mem_cons_of_mem _ hd)
  have hfit : Fit s := fun {y c} hc i hi => by
    obtain ⟨ha, rfl⟩ := Array.getElem?_eq_some_iff.mp hc
    have q := List.all_eq_true.mp ((Array.all_eq_true_iff_forall_mem.mp hF) _ (Array.getElem_mem ha)) i (List.mem_range.mpr hi)
    simpa [Array.getElem?_eq_getElem hi] using q
  obtain ⟨i0, ei0⟩ := is_v ga0
  obtain rfl : w0 = (.int i0) := Option.some.inj ei0
  obtain ⟨i1, ei1⟩ := is_v ga1
  obtain rfl : w1 = (.int i1) := Option.some.inj ei1
  obtain ⟨i2, ei2⟩ := is_v gr2
  obtain rfl : w2 = (.int i2) := Option.some.inj ei2
  have hn' : narrow_1.value #[.int i0, .int i1, .int i2] s none s [] = some true := hn
  obtain ⟨n1, hn1⟩ := and_e hn'
  obtain ⟨n2, hn2⟩ := and_e hn1
  obtain ⟨n3, n4⟩ := and_e hn2
  obtain ⟨x0, ev0⟩ := exa_v n1
  obtain ⟨x1, ev1⟩ := exa_v n2
  have F0 := own_ord ev0 n3
  have F1 := own_ord ev1 n4
  have hne : ¬ (x0 = x1) := fun q => by subst q; cases F0.symm.trans F1
  obtain ⟨n, o, h1, h2, h3, _, L, rfl, ⟨rfl, N⟩, hq⟩ := rm0 l s _ hw tables_1 i0 i1 i2 x0 x1 s.heap s.heap.size (Nat.le_refl _) (Sta.start ev1 (Or.inr ⟨(hw _ (List.mem_of_getElem? (i := 1) rfl)), (hw _ (List.mem_of_getElem? (i := 13) rfl))⟩)) (Sta.start ev0 (Or.inr ⟨(hw _ (List.mem_of_getElem? (i := 1) rfl)), (hw _ (List.mem_of_getElem? (i := 2) rfl))⟩)) (Exa.start ev1 n2) (Exa.start ev0 n1) hne p e ha hc hk s m _ below hf ((Spec.applies_iff_loose hf).mp happ).1 ⟨rfl, State.Warmed39.refl s, rfl⟩ trivial
  refine ⟨n, _, h1, h2, h3, hpost _ _ _ _ _ _ ⟨Cond.after_iff.mpr rfl, Cond.after_iff.mpr (eq_i res_at (Term.int_eval (1)) rfl), trivial⟩ ⟨hq.1, hq.2.1, (hq.2.2.sift fun y hy => Or.inr (N y hy)).mono (by decide) (by decide)⟩⟩
theorem main_1_1 : Claimed_1_1 := comes_1 fun _ _ _ _ _ _ h hF => ⟨h.1, hF⟩
theorem main_1_2 : Claimed_1_2 := comes_1 fun _ _ _ _ _ _ h hF => ⟨h.2.1, hF⟩
end Jvm.Pilot.@@N@@
namespace Jvm.Pilot.@@N@@
open Jvm Jvm.ClassFile Sem Op Lib Jvm.Free Jvm.Stand Jvm.Pilot.@@N@@.Jvm.D
/-! MADE BY PROGRAM (witnessworld.py) out of the Statement's table words and the real class files: 12 classes; the members and pool entries that the words name. The judged class is class 1, her method 2. -/
namespace start1
open Jvm.ClassFile
def u (s : String) : CpInfo := .utf8 (stringToUtf16 s)
/-- a pool by its gaps: so many unusable entries, then the entry; so many at the end -/
def gap : Nat → List CpInfo → List CpInfo
  | 0, r => r
  | n + 1, r => .unusable :: gap n r
def poolList (es : List (Nat × CpInfo)) (last : Nat) : List CpInfo := es.foldr (fun e r => gap e.1 (e.2 :: r)) (gap last [])
def pool (es : List (Nat × CpInfo)) (last : Nat) : Array CpInfo := ⟨poolList es last⟩
def fileOf (pool : Array CpInfo) (this : Nat) (attrs : Array Attribute := #[]) (ms : Array MethodInfo := #[]) (fl : Nat := 33) (sup : Nat := 0) (ifs : Array Nat := #[]) (fds : Array FieldInfo := #[]) : ClassFile where
  minorVersion := 0
  majorVersion := 65
  constantPool := pool
  accessFlags := fl
  thisClass := this
  superClass := sup
  interfaces := ifs
  fields := fds
  methods := ms
  attributes := attrs
def plain (name : String) (sup : Option ClassId) : Class where
  name := name
  kind := .ordinary
  loader := none
  accessFlags := 33
  super := sup
  interfaces := #[]
  cf := none
  fields := #[]
  methods := #[]
  instanceTypes := #[]
  staticTypes := #[]
  resolved := #[]
  callSites := []
  init := .initialized
  statics := none
  mirror := none

def pool0 : Array CpInfo := pool [(5, u "<init>"), (0, u "()V"), (1, .class_ 10), (1, u "java/lang/Object")] 113

def k0m0 : Method := { name := "<init>", desc := "()V", sig := { parameters := [], returnType := none }, accessFlags := 1, code := none }
/-- java/lang/Object -/
def k0 : Class := { plain "java/lang/Object" none with
  accessFlags := 33
  interfaces := #[]
  cf := some (fileOf pool0 8 #[] #[{ accessFlags := 1, nameIndex := 5, descriptorIndex := 6, attributes := #[] }] 33 0 #[] #[])
  fields := #[]
  methods := #[k0m0]
  instanceTypes := #[]
  staticTypes := #[]
  resolved := Array.replicate 124 none
  statics := none }

def pool1 : Array CpInfo := pool [(2, .class_ 4), (1, u "java/lang/Object"), (0, u "<init>"), (0, u "()V"), (0, .fieldref 8 9), (0, .class_ 10), (0, .nameAndType 11 12), (0, u "com/example/ruleweave/ruleweave/XmlVersion"), (0, u "XML_1_1"), (0, u "Lcom/example/ruleweave/ruleweave/XmlVersion;"), (0, .fieldref 8 14), (0, .nameAndType 15 12), (0, u "XML_1_0"), (0, .methodref 17 18), (0, .class_ 19), (0, .nameAndType 20 21), (0, u "com/example/ruleweave/ruleweave/XmlVersionReadsAsLineEndPinLaw"), (0, u "pick"), (0, u "(II)I"), (0, .methodref 8 23), (0, .nameAndType 24 25), (0, u "readsAsLineEnd"), (0, u "(I)Z"), (3, u "law"), (0, u "(III)Z")] 2

def k1m0 : Method := { name := "<init>", desc := "()V", sig := { parameters := [], returnType := none }, accessFlags := 2, code := none }
def k1c1 : Code := { maxStack := 3, maxLocals := 3, code := method_2_code, exceptionTable := #[], attributes := #[] }
def k1m1 : Method := { name := "pick", desc := "(II)I", sig := { parameters := [.int, .int], returnType := some .int }, accessFlags := 10, code := some k1c1 }
def k1c2 : Code := { maxStack := 2, maxLocals := 7, code := code, exceptionTable := #[], attributes := #[] }
def k1m2 : Method := { name := "law", desc := "(III)Z", sig := { parameters := [.int, .int, .int], returnType := some .boolean }, accessFlags := 9, code := some k1c2 }
/-- com/example/ruleweave/ruleweave/XmlVersionReadsAsLineEndPinLaw -/
def k1 : Class := { plain "com/example/ruleweave/ruleweave/XmlVersionReadsAsLineEndPinLaw" (some 0) with
  accessFlags := 49
  interfaces := #[]
  cf := some (fileOf pool1 17 #[] #[{ accessFlags := 2, nameIndex := 5, descriptorIndex := 6, attributes := #[] }, { accessFlags := 10, nameIndex := 20, descriptorIndex := 21, attributes := #[] }, { accessFlags := 9, nameIndex := 29, descriptorIndex := 30, attributes := #[] }] 49 2 #[] #[])
  fields := #[]
  methods := #[k1m0, k1m1, k1m2]
  instanceTypes := #[]
  staticTypes := #[]
  resolved := Array.replicate 33 none
  statics := none }

def pool2 : Array CpInfo := pool [(1, .class_ 2), (0, u "java/lang/constant/Constable"), (0, .class_ 4), (0, u "java/lang/Object")] 6

/-- java/lang/constant/Constable -/
def k2 : Class := { plain "java/lang/constant/Constable" (some 0) with
  accessFlags := 1537
  interfaces := #[]
  cf := some (fileOf pool2 1 #[] #[] 1537 3 #[] #[])
  fields := #[]
  methods := #[]
  instanceTypes := #[]
  staticTypes := #[]
  resolved := Array.replicate 11 none
  statics := none }

def pool3 : Array CpInfo := pool [(1, .class_ 2), (0, u "java/lang/Comparable"), (0, .class_ 4), (0, u "java/lang/Object")] 7

/-- java/lang/Comparable -/
def k3 : Class := { plain "java/lang/Comparable" (some 0) with
  accessFlags := 1537
  interfaces := #[]
  cf := some (fileOf pool3 1 #[] #[] 1537 3 #[] #[])
  fields := #[]
  methods := #[]
  instanceTypes := #[]
  staticTypes := #[]
  resolved := Array.replicate 12 none
  statics := none }

def pool4 : Array CpInfo := pool [(1, .class_ 2), (0, u "java/io/Serializable"), (0, .class_ 4), (0, u "java/lang/Object")] 2

/-- java/io/Serializable -/
def k4 : Class := { plain "java/io/Serializable" (some 0) with
  accessFlags := 1537
  interfaces := #[]
  cf := some (fileOf pool4 1 #[] #[] 1537 3 #[] #[])
  fields := #[]
  methods := #[]
  instanceTypes := #[]
  staticTypes := #[]
  resolved := Array.replicate 7 none
  statics := none }

def pool5 : Array CpInfo := pool [(2, .class_ 4), (1, u "java/lang/Enum"), (0, u "name"), (0, u "Ljava/lang/String;"), (2, u "ordinal"), (0, u "I"), (1, .class_ 14), (1, u "java/lang/Object"), (4, u "hash"), (86, .class_ 108), (1, u "java/lang/Enum$EnumDesc"), (2, .class_ 112), (0, u "java/lang/constant/Constable"), (0, .class_ 114), (0, u "java/lang/Comparable"), (0, .class_ 116), (0, u "java/io/Serializable")] 87

/-- java/lang/Enum -/
def k5 : Class := { plain "java/lang/Enum" (some 0) with
  accessFlags := 1057
  interfaces := #[2, 3, 4]
  cf := some (fileOf pool5 2 #[.nestMembers #[106]] #[] 1057 12 #[111, 113, 115] #[{ accessFlags := 18, nameIndex := 5, descriptorIndex := 6, attributes := #[] }, { accessFlags := 18, nameIndex := 9, descriptorIndex := 10, attributes := #[] }, { accessFlags := 2, nameIndex := 19, descriptorIndex := 10, attributes := #[] }])
  fields := #[{ name := "name", type := (.object "java/lang/String"), accessFlags := 18, slot := 0, constantValue := 0 }, { name := "ordinal", type := .int, accessFlags := 18, slot := 1, constantValue := 0 }, { name := "hash", type := .int, accessFlags := 2, slot := 2, constantValue := 0 }]
  methods := #[]
  instanceTypes := #[(.object "java/lang/String"), .int, .int]
  staticTypes := #[]
  resolved := Array.replicate 204 none
  statics := none }

def pool6 : Array CpInfo := pool [(1, .class_ 2), (0, u "com/example/ruleweave/ruleweave/XmlVersion"), (2, u "XML_1_0"), (0, u "Lcom/example/ruleweave/ruleweave/XmlVersion;"), (0, .fieldref 1 8), (0, .nameAndType 9 6), (0, u "XML_1_1"), (2, u "$VALUES"), (0, u "[Lcom/example/ruleweave/ruleweave/XmlVersion;"), (6, .class_ 22), (1, u "java/lang/Enum"), (8, u "number"), (0, u "Ljava/lang/String;"), (18, u "readsAsLineEnd"), (0, u "(I)Z"), (0, .class_ 54), (0, u "com/example/ruleweave/ruleweave/XmlVersion$LineEnds")] 106

def k6c0 : Code := { maxStack := 2, maxLocals := 2, code := prog_173_method_7_code, exceptionTable := #[], attributes := #[] }
def k6m0 : Method := { name := "readsAsLineEnd", desc := "(I)Z", sig := { parameters := [.int], returnType := some .boolean }, accessFlags := 0, code := some k6c0 }
/-- com/example/ruleweave/ruleweave/XmlVersion -/
def k6 : Class := { plain "com/example/ruleweave/ruleweave/XmlVersion" (some 5) with
  accessFlags := 16432
  interfaces := #[]
  cf := some (fileOf pool6 1 #[.nestMembers #[53]] #[{ accessFlags := 0, nameIndex := 51, descriptorIndex := 52, attributes := #[] }] 16432 20 #[] #[{ accessFlags := 16409, nameIndex := 5, descriptorIndex := 6, attributes := #[] }, { accessFlags := 16409, nameIndex := 9, descriptorIndex := 6, attributes := #[] }, { accessFlags := 18, nameIndex := 31, descriptorIndex := 32, attributes := #[] }, { accessFlags := 4122, nameIndex := 12, descriptorIndex := 13, attributes := #[] }])
  fields := #[{ name := "XML_1_0", type := (.object "com/example/ruleweave/ruleweave/XmlVersion"), accessFlags := 16409, slot := 0, constantValue := 0 }, { name := "XML_1_1", type := (.object "com/example/ruleweave/ruleweave/XmlVersion"), accessFlags := 16409, slot := 1, constantValue := 0 }, { name := "number", type := (.object "java/lang/String"), accessFlags := 18, slot := 3, constantValue := 0 }, { name := "$VALUES", type := (.array (.object "com/example/ruleweave/ruleweave/XmlVersion")), accessFlags := 4122, slot := 2, constantValue := 0 }]
  methods := #[k6m0]
  instanceTypes := #[(.object "java/lang/String"), .int, .int, (.object "java/lang/String")]
  staticTypes := #[(.object "com/example/ruleweave/ruleweave/XmlVersion"), (.object "com/example/ruleweave/ruleweave/XmlVersion"), (.array (.object "com/example/ruleweave/ruleweave/XmlVersion"))]
  resolved := Array.replicate 161 none
  statics := some 0 }

def pool7 : Array CpInfo := pool [(1, u "java/lang/Cloneable"), (0, .class_ 1), (0, u "java/lang/Object"), (0, .class_ 3)] 3

/-- java/lang/Cloneable -/
def k7 : Class := { plain "java/lang/Cloneable" (some 0) with
  accessFlags := 1537
  interfaces := #[]
  cf := some (fileOf pool7 2 #[] #[] 1537 4 #[] #[])
  fields := #[]
  methods := #[]
  instanceTypes := #[]
  staticTypes := #[]
  resolved := Array.replicate 8 none
  statics := none }

/-- the primitive byte -/
def k8 : Class := { plain "byte" none with kind := .primitive 'B', accessFlags := 0x411 }
/-- [B -/
def k9 : Class := { plain "[B" (some 0) with kind := .array 8 .byte, interfaces := #[7, 4], accessFlags := 1041 }

/-- the primitive int -/
def k10 : Class := { plain "int" none with kind := .primitive 'I', accessFlags := 0x411 }
/-- [I -/
def k11 : Class := { plain "[I" (some 0) with kind := .array 10 .int, interfaces := #[7, 4], accessFlags := 1041 }

def heap : Heap := #[{ cls := 6, slots := #[.ref 1, .ref 2, .null], vm := .statics 6 },
  { cls := 6, slots := #[.null, .int 0, .int 0, .null], vm := .none },
  { cls := 6, slots := #[.null, .int 1, .int 0, .null], vm := .none }]
def classes : Array Class := #[k0, k1, k2, k3, k4, k5, k6, k7, k8, k9, k10, k11]
def interned : List (Array UInt16 × Addr) := []
def slotsUsed : Nat := 11
def theMethod : MethodId := ⟨1, 2⟩
def args0 : Array Value := #[.int 1, .int 2, .int 3]
def aboutOver (below : List Frame) : State where
  vm := { classes := classes, interned := interned.toArray }
  heap := heap
  slotsUsed := slotsUsed
  threads := #[{ frames := .invoking theMethod args0 :: below }]
def below0 : List Frame := [.native { method := ⟨0, 0⟩, args := #[] }]
def about1 : State := aboutOver below0
def p0 : Program := .bare "" "" ""
def e0 : Env := launch0.env 0 0 0
theorem w_frames : about1.frames = Frame.invoking theMethod args0 :: below0 := rfl
set_option maxRecDepth 65536 in
theorem w_args : argsFit about1.vm theMethod args0 = true := by decide +kernel
set_option maxRecDepth 65536 in
theorem w_heap : heapFits about1 = true := by decide +kernel
set_option maxRecDepth 65536 in
theorem w_runnable : about1.curStatus? = some .runnable := by decide +kernel
set_option maxRecDepth 65536 in
theorem w_alone : about1.alone = true := by decide +kernel
set_option maxRecDepth 65536 in
theorem w_named : about1.methodNamed? x = some theMethod := by decide +kernel
set_option maxRecDepth 65536 in
theorem w_hears : about1.hears theMethod below0 = true := by decide +kernel
set_option maxRecDepth 65536 in
theorem w_ripe : about1.ripe theMethod args0 below0 = true := by decide +kernel
theorem w_running : about1.status = .running := rfl
set_option maxRecDepth 65536 in
theorem w_room : about1.hasRoom e0.platform room_1 = true :=
  launch0.hasRoom_least _ room_1 (by decide +kernel) (by decide +kernel) (by decide +kernel) (by decide +kernel) (by decide +kernel) (by decide +kernel)
theorem allAtoms_all (ts : List Jvm.Cond) (a : Array Jvm.Value) (st : Jvm.State) : (allAtoms ts).before a st = ts.all (fun c => c.before a st) := by
  induction ts with
  | nil => rfl
  | cons c t ih =>
    show (Jvm.Cond.and c (allAtoms t)).before a st = _
    rw [Jvm.Cond.before_and, ih, List.all_cons]
def words1 : List Jvm.Cond := Jvm.Cond.code x code maxLocals ret :: tables_1
/-- a 'code' word, met by the world's own term for the bytes: nothing is compared byte by byte -/
theorem code_word {y : MethodName} {bytes : ByteArray} {mx : Nat} {rt : Option FieldType} {a : Array Value} {s : State} {m : MethodId} {meth : Method} {c : Code} (h1 : s.methodNamed? y = some m) (h2 : s.vm.method? m = some meth) (h3 : meth.code = some c) (h4 : c.code = bytes)
    (h5 : (c.maxLocals == mx && c.exceptionTable.isEmpty && decide (c.maxStack ≤ mostOperands) && decide (meth.sig.returnType = rt) && !meth.locks && decide (parseMethodDescriptor y.desc = some meth.sig)) = true) : (Jvm.Cond.code y bytes mx rt).before a s = true := by
  simp only [Bool.and_eq_true, beq_iff_eq, Bool.not_eq_true', decide_eq_true_eq] at h5
  obtain ⟨⟨⟨⟨⟨g1, g2⟩, g3⟩, g4⟩, g5⟩, g6⟩ := h5
  simp [Cond.before, Cond.holds, Cond.value, h1, h2, h3, h4, g1, g2, g3, g4, g5, g6]
def isCode : Jvm.Cond → Bool
  | .code _ _ _ _ => true
  | _ => false
theorem all_split {L : List Jvm.Cond} {P : Jvm.Cond → Bool} (h1 : L.all (fun c => isCode c || P c) = true) (h2 : ∀ c ∈ L.filter isCode, P c = true) : L.all P = true := by
  refine List.all_eq_true.mpr fun c hc => ?_
  have h := List.all_eq_true.mp h1 c hc
  rcases Bool.eq_false_or_eq_true (isCode c) with hi | hi
  · exact h2 c (List.mem_filter.mpr ⟨hc, hi⟩)
  · simpa [hi] using h
set_option maxRecDepth 65536 in
theorem w_c0 : (Jvm.Cond.code x code maxLocals ret).before args0 about1 = true := code_word (m := ⟨1, 2⟩) (meth := k1m2) (c := k1c2) (by decide +kernel) rfl rfl rfl (by decide +kernel)
set_option maxRecDepth 65536 in
theorem w_c1 : (Jvm.Cond.code ({ cls := "com/example/ruleweave/ruleweave/XmlVersionReadsAsLineEndPinLaw", name := "pick", desc := "(II)I" } : Jvm.MethodName) method_2_code (3 : Nat) (Option.some Jvm.ClassFile.FieldType.int)).before args0 about1 = true := code_word (m := ⟨1, 1⟩) (meth := k1m1) (c := k1c1) (by decide +kernel) rfl rfl rfl (by decide +kernel)
set_option maxRecDepth 65536 in
theorem w_c2 : (Jvm.Cond.code ({ cls := "com/example/ruleweave/ruleweave/XmlVersion", name := "readsAsLineEnd", desc := "(I)Z" } : Jvm.MethodName) prog_173_method_7_code (2 : Nat) (Option.some Jvm.ClassFile.FieldType.boolean)).before args0 about1 = true := code_word (m := ⟨6, 0⟩) (meth := k6m0) (c := k6c0) (by decide +kernel) rfl rfl rfl (by decide +kernel)
def codes1 : List Jvm.Cond := [Jvm.Cond.code x code maxLocals ret, Jvm.Cond.code ({ cls := "com/example/ruleweave/ruleweave/XmlVersionReadsAsLineEndPinLaw", name := "pick", desc := "(II)I" } : Jvm.MethodName) method_2_code (3 : Nat) (Option.some Jvm.ClassFile.FieldType.int), Jvm.Cond.code ({ cls := "com/example/ruleweave/ruleweave/XmlVersion", name := "readsAsLineEnd", desc := "(I)Z" } : Jvm.MethodName) prog_173_method_7_code (2 : Nat) (Option.some Jvm.ClassFile.FieldType.boolean)]
set_option maxRecDepth 65536 in
theorem codes_eq : words1.filter isCode = codes1 := rfl
theorem w_codes : ∀ c ∈ words1.filter isCode, c.before args0 about1 = true := by
  rw [codes_eq]
  intro c hc
  simp only [codes1, List.mem_cons, List.not_mem_nil, or_false] at hc
  rcases hc with rfl | rfl | rfl
  · exact w_c0
  · exact w_c1
  · exact w_c2
set_option maxRecDepth 65536 in
theorem w_t1 : words1.all (fun c => isCode c || c.before args0 about1) = true := by decide +kernel
theorem w_tables : (allAtoms (Jvm.Cond.code x code maxLocals ret :: tables_1)).before args0 about1 = true := by
  rw [allAtoms_all]
  show words1.all (fun c => c.before args0 about1) = true
  refine all_split ?_ w_codes
  rw [w_t1]
set_option maxRecDepth 65536 in
theorem w_case : (Jvm.Cond.and given_1 narrow_1).before args0 about1 = true := by decide +kernel
theorem w_applies : (headSpec (Jvm.Cond.code x code maxLocals ret :: tables_1) room_1).applies x e0.platform about1 = true :=
  (Spec.applies_iff w_frames).mpr ⟨w_running, w_runnable, w_alone, w_named, w_hears, w_ripe, w_room, w_tables⟩
theorem atStart : AtStart classFile x code maxLocals ret World_1 tables_1 room_1 Calls_1 rest_1 Pre_1 launch0 p0 e0 about1 theMethod args0 below0 :=
  ⟨lists_1, trivial, launch0.admits_env _ _ _, launch0.least_env, fairChoices_fair.cas, fairChoices_fair.clock, w_frames, w_args, w_heap, w_applies, trivial, trivial, w_case⟩
end start1
theorem witness_1 : WitnessClaimed_1 := ⟨start1.p0, start1.e0, start1.about1, start1.theMethod, start1.args0, start1.below0, start1.atStart⟩
end Jvm.Pilot.@@N@@
