import JvmDerived
import JvmDerived.Pilot.@@N@@Statement
import JvmDerived.Pilot.@@N@@Code
set_option linter.unusedVariables false
set_option linter.unusedSimpArgs false
@@BLOCK:NumsL.lean.txt@@
namespace Jvm.RoadKit
open Sem ClassFile Op Lib Jvm.Stand Jvm.Free Jvm.LawKit
section New
variable {p : Program} {l : Launch} {e : Env} {R : Room} {s : State} {m : MethodId} {args : Array Value} {below : List Frame} {meth : Method} {c : Code} {T : State} {locs : List Loc} {cells slots : Nat}
theorem retI (X : Stand p l e R s m args below meth c T locs cells slots) (hx : p.tables.exec = Jvm.exec) {pc : Nat} {Ls : Array Slot} {z : Int32} {rest : List Value} (hret : meth.sig.returnType = some .int) (hd : decode c.code pc = .ok (.ireturn, 1)) {fs : List Frame}
    (hl : ∀ (f : JFrame) (acts : List Action), f.method = m → f.locked = none → f.entered = [] → (doReturn e (T.setTop f) acts (some (.int z))).1 = T.setFrames fs) : Steps p.tables e below (T.setTop (mkF m pc Ls (.int z :: rest))) (T.setFrames fs) := by
  have hm' : T.vm.method? m = some meth := X.method'
  have hn : narrow .int (.int z) = .int z := rfl
  show Steps p.tables e below (T.setTop { method := m, pc := pc, locals := Ls, stack := _ :: rest, locked := none }) _
  jvm_step X.here [X.here.top, hx, hd, hm', hret, hn]
  first | (intro acts; rw [hl _ acts rfl rfl rfl]) | rw [hl _ _ rfl rfl rfl]
  exact Steps.refl _
theorem retRef (X : Stand p l e R s m args below meth c T locs cells slots) (hx : p.tables.exec = Jvm.exec) {pc : Nat} {Ls : Array Slot} {v : Value} {rest : List Value} {ty : FieldType} (hret : meth.sig.returnType = some ty) (hty : ty.isReference = true) (hv : v.isRef = true) (hd : decode c.code pc = .ok (.areturn, 1)) {fs : List Frame}
    (hl : ∀ (f : JFrame) (acts : List Action), f.method = m → f.locked = none → f.entered = [] → (doReturn e (T.setTop f) acts (some v)).1 = T.setFrames fs) : Steps p.tables e below (T.setTop (mkF m pc Ls (v :: rest))) (T.setFrames fs) := by
  have hm' : T.vm.method? m = some meth := X.method'
  show Steps p.tables e below (T.setTop { method := m, pc := pc, locals := Ls, stack := _ :: rest, locked := none }) _
  jvm_step X.here [X.here.top, hx, hd, hm', hret, hty, hv]
  first | (intro acts; rw [hl _ acts rfl rfl rfl]) | rw [hl _ _ rfl rfl rfl]
  exact Steps.refl _
theorem retD (X : Stand p l e R s m args below meth c T locs cells slots) (hx : p.tables.exec = Jvm.exec) {pc : Nat} {Ls : Array Slot} {z : UInt64} {rest : List Value} (hret : meth.sig.returnType = some .double) (hd : decode c.code pc = .ok (.dreturn, 1)) {fs : List Frame}
    (hl : ∀ (f : JFrame) (acts : List Action), f.method = m → f.locked = none → f.entered = [] → (doReturn e (T.setTop f) acts (some (.double z))).1 = T.setFrames fs) : Steps p.tables e below (T.setTop (mkF m pc Ls (.double z :: rest))) (T.setFrames fs) := by
  have hm' : T.vm.method? m = some meth := X.method'
  have hn : narrow .double (.double z) = .double z := rfl
  show Steps p.tables e below (T.setTop { method := m, pc := pc, locals := Ls, stack := _ :: rest, locked := none }) _
  jvm_step X.here [X.here.top, hx, hd, hm', hret, hn]
  first | (intro acts; rw [hl _ acts rfl rfl rfl]) | rw [hl _ _ rfl rfl rfl]
  exact Steps.refl _
end New
end Jvm.RoadKit
namespace Jvm.Pilot.@@N@@
open Jvm Jvm.ClassFile Sem Op Lib Jvm.Free Jvm.Stand Jvm.LawKit Jvm.RoadKit Bundle Jvm.Pilot.@@N@@.Jvm.D
/-- from the state S the run comes to an end of which R speaks -/
abbrev Ends (tb : Tables) (e : Env) (below : List Frame) (S : State) (R : State → Outcome → Prop) : Prop := ∃ t o, Steps tb e below S t ∧ R t o
theorem Ends.st {tb : Tables} {e : Env} {below : List Frame} {S S' : State} {R : State → Outcome → Prop} (h : ∀ t, Steps tb e below S' t → Steps tb e below S t) (k : Ends tb e below S' R) : Ends tb e below S R := by
  obtain ⟨t, o, h1, h2⟩ := k
  exact ⟨t, o, h t h1, h2⟩
theorem pd_0 : parseMethodDescriptor "(C)Z" = some ⟨[.char], some .boolean⟩ := by decide +kernel
def f1 (p : Int32) : Int32 := if p = 32 then 1 else if p = 9 then 1 else 0
def Q1 (Z : State) (p : Int32) (h0 : Heap) (n0 : Nat) (v : Option Value) (h : Heap) (L : List Loc) : Prop := v = some (.int (f1 p)) ∧ Fr n0 L ∧ h = h0
theorem d1_0 : decode prog_39_method_4_code 0 = .ok (.iload_n 0, 1) := by decide +kernel
theorem d1_1 : decode prog_39_method_4_code 1 = .ok (.bipush 32, 2) := by decide +kernel
theorem d1_3 : decode prog_39_method_4_code 3 = .ok (.if_icmp .eq 9, 3) := by decide +kernel
theorem d1_6 : decode prog_39_method_4_code 6 = .ok (.iload_n 0, 1) := by decide +kernel
theorem d1_7 : decode prog_39_method_4_code 7 = .ok (.bipush 9, 2) := by decide +kernel
theorem d1_9 : decode prog_39_method_4_code 9 = .ok (.if_icmp .ne 7, 3) := by decide +kernel
theorem d1_12 : decode prog_39_method_4_code 12 = .ok (.iconst 1, 1) := by decide +kernel
theorem d1_13 : decode prog_39_method_4_code 13 = .ok (.goto 4, 3) := by decide +kernel
theorem d1_16 : decode prog_39_method_4_code 16 = .ok (.iconst 0, 1) := by decide +kernel
theorem d1_17 : decode prog_39_method_4_code 17 = .ok (.ireturn, 1) := by decide +kernel
theorem pn_1 : plainName "com/example/clearance/clearance/input/TextLines" = true := by first | (simp [plainName, overriddenIn]; done) | decide +kernel
theorem ef_rm1 (m : MethodId) (x0 : Int32)  : entryFrame m #[(.int x0)] 1 = mkF m 0 #[.val (.int x0)] [] := by first | (simp [entryFrame, mkF, argsToLocals, Value.category]; done) | rfl
set_option maxRecDepth 65536 in
set_option maxHeartbeats 40000000 in
theorem rm1 (l : Launch) (Z : State) (a0 : Array Value) (hw : ∀ d ∈ tables_1, d.before a0 Z = true) (ws : List Jvm.Cond) (v0 : Int32) (h0 : Heap) (n0 : Nat) (Z0 : n0 ≤ h0.size) :
    MetFree l (⟨"com/example/clearance/clearance/input/TextLines", "isBlank", "(C)Z"⟩ : MethodName) (head1 (Jvm.Cond.code (⟨"com/example/clearance/clearance/input/TextLines", "isBlank", "(C)Z"⟩ : MethodName) prog_39_method_4_code 1 (some .boolean) :: ws) ({ frames := 0, cells := 0, slots := 0, locals := 0 } : Room)) (fun a U => a = #[(.int v0)] ∧ Z.Warmed39 U.vm ∧ U.heap = h0) (fun _ _ _ _ _ => True) (fun _ U o U' => ∃ v L, o = .returned v ∧ Q1 Z v0 h0 n0 v U'.heap L ∧ FrameEnd U o U' L ({ frames := 0, cells := 0, slots := 0, locals := 0 } : Room).cells ({ frames := 0, cells := 0, slots := 0, locals := 0 } : Room).slots) := by
  refine MetFree.of_bodySF (plainFor_of_name pn_1) hisR ?_
  intro p e s m args below meth c s₁ Bd hml0 hP hK
  obtain ⟨rfl, hZ, hh⟩ := hP
  have hx := Bd.exec
  have hby := Bd.bytes
  have hml : c.maxLocals = 1 := hml0
  have hown : s.vm.findClass "com/example/clearance/clearance/input/TextLines" = some m.cls := findClass_of_methodNamed Bd.named
  have hnm := (name_of_methodNamed Bd.named Bd.method).1
  have X0 : Stand p l e ({ frames := 0, cells := 0, slots := 0, locals := 0 } : Room) s m #[(.int v0)] below meth c s₁ [] 0 0 := Stand.of_body Bd
  have e0 : s₁.heap = h0 := by rw [← hh, Bd.state]; rfl
  have N0 := Fr.nil n0
  refine Ends.st (tb := p.tables) (e := e) (below := below) (S' := s₁.setTop (mkF m 0 #[.val (.int v0)] [])) (fun t k => castTop (ef_rm1 m v0) k) ?_
  refine Ends.st (S' := s₁.setTop (mkF m 1 #[.val (.int v0)] [(.int v0)])) (fun _ k => XS.iloadN X0.here hx rfl (hb hby d1_0) rfl k) ?_
  refine Ends.st (S' := s₁.setTop (mkF m 3 #[.val (.int v0)] [(.int (32 : Int32)), (.int v0)])) (fun _ k => XS.bipush X0.here hx rfl (hb hby d1_1) k) ?_
  by_cases hc1 : v0 = (32 : Int32)
  · refine Ends.st (S' := s₁.setTop (mkF m 12 #[.val (.int v0)] [])) (fun _ k => XS.icmpYes X0.here hx rfl (pc0 := 3) (pc' := 12) rfl (hb hby d1_3) rfl (teq hc1).1 (by decide) (by decide) k) ?_
    refine Ends.st (S' := s₁.setTop (mkF m 13 #[.val (.int v0)] [(.int (1 : Int32))])) (fun _ k => XS.iconst X0.here hx rfl (hb hby d1_12) k) ?_
    refine Ends.st (S' := s₁.setTop (mkF m 17 #[.val (.int v0)] [(.int (1 : Int32))])) (fun _ k => XS.goto X0.here hx rfl (pc0 := 13) (pc' := 17) rfl (hb hby d1_13) (by decide) (by decide) k) ?_
    obtain ⟨fs, hr, hrun, hended, hW, hsame⟩ := X0.leave (v := some (.int (1 : Int32))) (fun h => by rw [Bd.returns] at h; cases h)
    exact ⟨_, _, retN X0 hx (t := .boolean) Bd.returns (by simp) (hb hby d1_17) hr, hrun, hended, _, _, rfl, (by show Q1 Z v0 h0 n0 _ s₁.heap _; rw [e0]; exact ⟨(by simp [f1, hc1]), N0, rfl⟩), ⟨_, rfl⟩, hW, hsame.mono (by decide) (by decide)⟩
  · refine Ends.st (S' := s₁.setTop (mkF m 6 #[.val (.int v0)] [])) (fun _ k => XS.icmpNo X0.here hx rfl (hb hby d1_3) rfl (feq hc1).1 k) ?_
    refine Ends.st (S' := s₁.setTop (mkF m 7 #[.val (.int v0)] [(.int v0)])) (fun _ k => XS.iloadN X0.here hx rfl (hb hby d1_6) rfl k) ?_
    refine Ends.st (S' := s₁.setTop (mkF m 9 #[.val (.int v0)] [(.int (9 : Int32)), (.int v0)])) (fun _ k => XS.bipush X0.here hx rfl (hb hby d1_7) k) ?_
    by_cases hc2 : v0 = (9 : Int32)
    · refine Ends.st (S' := s₁.setTop (mkF m 12 #[.val (.int v0)] [])) (fun _ k => XS.icmpNo X0.here hx rfl (hb hby d1_9) rfl (teq hc2).2 k) ?_
      refine Ends.st (S' := s₁.setTop (mkF m 13 #[.val (.int v0)] [(.int (1 : Int32))])) (fun _ k => XS.iconst X0.here hx rfl (hb hby d1_12) k) ?_
      refine Ends.st (S' := s₁.setTop (mkF m 17 #[.val (.int v0)] [(.int (1 : Int32))])) (fun _ k => XS.goto X0.here hx rfl (pc0 := 13) (pc' := 17) rfl (hb hby d1_13) (by decide) (by decide) k) ?_
      obtain ⟨fs, hr, hrun, hended, hW, hsame⟩ := X0.leave (v := some (.int (1 : Int32))) (fun h => by rw [Bd.returns] at h; cases h)
      exact ⟨_, _, retN X0 hx (t := .boolean) Bd.returns (by simp) (hb hby d1_17) hr, hrun, hended, _, _, rfl, (by show Q1 Z v0 h0 n0 _ s₁.heap _; rw [e0]; exact ⟨(by simp [f1, hc1, hc2]), N0, rfl⟩), ⟨_, rfl⟩, hW, hsame.mono (by decide) (by decide)⟩
    · refine Ends.st (S' := s₁.setTop (mkF m 16 #[.val (.int v0)] [])) (fun _ k => XS.icmpYes X0.here hx rfl (pc0 := 9) (pc' := 16) rfl (hb hby d1_9) rfl (feq hc2).2 (by decide) (by decide) k) ?_
      refine Ends.st (S' := s₁.setTop (mkF m 17 #[.val (.int v0)] [(.int (0 : Int32))])) (fun _ k => XS.iconst X0.here hx rfl (hb hby d1_16) k) ?_
      obtain ⟨fs, hr, hrun, hended, hW, hsame⟩ := X0.leave (v := some (.int (0 : Int32))) (fun h => by rw [Bd.returns] at h; cases h)
      exact ⟨_, _, retN X0 hx (t := .boolean) Bd.returns (by simp) (hb hby d1_17) hr, hrun, hended, _, _, rfl, (by show Q1 Z v0 h0 n0 _ s₁.heap _; rw [e0]; exact ⟨(by simp [f1, hc1, hc2]), N0, rfl⟩), ⟨_, rfl⟩, hW, hsame.mono (by decide) (by decide)⟩
theorem own_f1 (x : Int32) : (x = 9 → f1 x = 1) ∧ (x = 32 → f1 x = 1) ∧ (¬ x = 9 → ¬ x = 32 → f1 x = 0) := ⟨fun h => by subst h; decide, fun h => by subst h; decide, fun h h2 => by simp [f1, h, h2]⟩
def Q0 (Z : State) (p : Int32) (h0 : Heap) (n0 : Nat) (v : Option Value) (h : Heap) (L : List Loc) : Prop := v = some (.int 1) ∧ Fr n0 L
theorem pn_0 : plainName "com/example/clearance/clearance/input/TextLinesIsBlankPinLaw" = true := by first | (simp [plainName, overriddenIn]; done) | decide +kernel
theorem ef_rm0 (m : MethodId) (x0 : Int32)  : entryFrame m #[(.int x0)] maxLocals = mkF m 0 #[.val (.int x0), .unset, .unset, .unset, .unset] [] := by first | (simp [entryFrame, mkF, argsToLocals, Value.category, maxLocals]; done) | rfl
set_option maxRecDepth 65536 in
set_option maxHeartbeats 40000000 in
theorem rm0 (l : Launch) (Z : State) (a0 : Array Value) (hw : ∀ d ∈ tables_1, d.before a0 Z = true) (ws : List Jvm.Cond) (v0 : Int32) (h0 : Heap) (n0 : Nat) (Z0 : n0 ≤ h0.size) :
    MetFree l x (head1 (Jvm.Cond.code x code maxLocals ret :: ws) room_1) (fun a U => a = #[(.int v0)] ∧ Z.Warmed39 U.vm ∧ U.heap = h0) (fun _ _ _ _ _ => True) (fun _ U o U' => ∃ v L, o = .returned v ∧ Q0 Z v0 h0 n0 v U'.heap L ∧ FrameEnd U o U' L room_1.cells room_1.slots) := by
  refine MetFree.of_bodySF (plainFor_of_name pn_0) hisR ?_
  intro p e s m args below meth c s₁ Bd hml0 hP hK
  obtain ⟨rfl, hZ, hh⟩ := hP
  have hx := Bd.exec
  have hby := Bd.bytes
  have hml : c.maxLocals = 5 := hml0
  have hown : s.vm.findClass "com/example/clearance/clearance/input/TextLinesIsBlankPinLaw" = some m.cls := findClass_of_methodNamed Bd.named
  have hnm := (name_of_methodNamed Bd.named Bd.method).1
  have X0 : Stand p l e room_1 s m #[(.int v0)] below meth c s₁ [] 0 0 := Stand.of_body Bd
  have e0 : s₁.heap = h0 := by rw [← hh, Bd.state]; rfl
  have N0 := Fr.nil n0
  refine Ends.st (tb := p.tables) (e := e) (below := below) (S' := s₁.setTop (mkF m 0 #[.val (.int v0), .unset, .unset, .unset, .unset] [])) (fun t k => castTop (ef_rm0 m v0) k) ?_
  refine Ends.st (S' := s₁.setTop (mkF m 1 #[.val (.int v0), .unset, .unset, .unset, .unset] [(.int v0)])) (fun _ k => XS.iloadN X0.here hx rfl (hb hby at_0) rfl k) ?_
  refine Ends.st (S' := s₁.setTop (mkF m 2 #[.val (.int v0), .unset, .unset, .unset, .unset] [(.int (v0.toUInt32.toUInt16.toUInt32.toInt32))])) (fun _ k => XS.i2c X0.here hx rfl (hb hby at_1) rfl k) ?_
  refine Ends.st (S' := s₁.setTop (mkF m 3 #[.val (.int v0), .val (.int (v0.toUInt32.toUInt16.toUInt32.toInt32)), .unset, .unset, .unset] [])) (fun _ k => XS.istoreN X0.here hx rfl (hb hby at_2) rfl (l' := #[.val (.int v0), .val (.int (v0.toUInt32.toUInt16.toUInt32.toInt32)), .unset, .unset, .unset]) rfl k) ?_
  refine Ends.st (S' := s₁.setTop (mkF m 4 #[.val (.int v0), .val (.int (v0.toUInt32.toUInt16.toUInt32.toInt32)), .unset, .unset, .unset] [(.int (v0.toUInt32.toUInt16.toUInt32.toInt32))])) (fun _ k => XS.iloadN X0.here hx rfl (hb hby at_3) rfl k) ?_
  refine Ends.st (S' := s₁.setTop (mkF m 5 #[.val (.int v0), .val (.int (v0.toUInt32.toUInt16.toUInt32.toInt32)), .val (.int (v0.toUInt32.toUInt16.toUInt32.toInt32)), .unset, .unset] [])) (fun _ k => XS.istoreN X0.here hx rfl (hb hby at_4) rfl (l' := #[.val (.int v0), .val (.int (v0.toUInt32.toUInt16.toUInt32.toInt32)), .val (.int (v0.toUInt32.toUInt16.toUInt32.toInt32)), .unset, .unset]) rfl k) ?_
  refine Ends.st (S' := s₁.setTop (mkF m 6 #[.val (.int v0), .val (.int (v0.toUInt32.toUInt16.toUInt32.toInt32)), .val (.int (v0.toUInt32.toUInt16.toUInt32.toInt32)), .unset, .unset] [(.int (0 : Int32))])) (fun _ k => XS.iconst X0.here hx rfl (hb hby at_5) k) ?_
  refine Ends.st (S' := s₁.setTop (mkF m 7 #[.val (.int v0), .val (.int (v0.toUInt32.toUInt16.toUInt32.toInt32)), .val (.int (v0.toUInt32.toUInt16.toUInt32.toInt32)), .val (.int (0 : Int32)), .unset] [])) (fun _ k => XS.istoreN X0.here hx rfl (hb hby at_6) rfl (l' := #[.val (.int v0), .val (.int (v0.toUInt32.toUInt16.toUInt32.toInt32)), .val (.int (v0.toUInt32.toUInt16.toUInt32.toInt32)), .val (.int (0 : Int32)), .unset]) rfl k) ?_
  refine Ends.st (S' := s₁.setTop (mkF m 8 #[.val (.int v0), .val (.int (v0.toUInt32.toUInt16.toUInt32.toInt32)), .val (.int (v0.toUInt32.toUInt16.toUInt32.toInt32)), .val (.int (0 : Int32)), .unset] [(.int (v0.toUInt32.toUInt16.toUInt32.toInt32))])) (fun _ k => XS.iloadN X0.here hx rfl (hb hby at_7) rfl k) ?_
  refine Ends.st (S' := s₁.setTop (mkF m 10 #[.val (.int v0), .val (.int (v0.toUInt32.toUInt16.toUInt32.toInt32)), .val (.int (v0.toUInt32.toUInt16.toUInt32.toInt32)), .val (.int (0 : Int32)), .unset] [(.int (9 : Int32)), (.int (v0.toUInt32.toUInt16.toUInt32.toInt32))])) (fun _ k => XS.bipush X0.here hx rfl (hb hby at_8) k) ?_
  by_cases hc1 : (v0.toUInt32.toUInt16.toUInt32.toInt32) = (9 : Int32)
  · refine Ends.st (S' := s₁.setTop (mkF m 13 #[.val (.int v0), .val (.int (v0.toUInt32.toUInt16.toUInt32.toInt32)), .val (.int (v0.toUInt32.toUInt16.toUInt32.toInt32)), .val (.int (0 : Int32)), .unset] [])) (fun _ k => XS.icmpNo X0.here hx rfl (hb hby at_10) rfl (teq hc1).2 k) ?_
    refine Ends.st (S' := s₁.setTop (mkF m 14 #[.val (.int v0), .val (.int (v0.toUInt32.toUInt16.toUInt32.toInt32)), .val (.int (v0.toUInt32.toUInt16.toUInt32.toInt32)), .val (.int (0 : Int32)), .unset] [(.int (1 : Int32))])) (fun _ k => XS.iconst X0.here hx rfl (hb hby at_13) k) ?_
    refine Ends.st (S' := s₁.setTop (mkF m 15 #[.val (.int v0), .val (.int (v0.toUInt32.toUInt16.toUInt32.toInt32)), .val (.int (v0.toUInt32.toUInt16.toUInt32.toInt32)), .val (.int (1 : Int32)), .unset] [])) (fun _ k => XS.istoreN X0.here hx rfl (hb hby at_14) rfl (l' := #[.val (.int v0), .val (.int (v0.toUInt32.toUInt16.toUInt32.toInt32)), .val (.int (v0.toUInt32.toUInt16.toUInt32.toInt32)), .val (.int (1 : Int32)), .unset]) rfl k) ?_
    refine Ends.st (S' := s₁.setTop (mkF m 26 #[.val (.int v0), .val (.int (v0.toUInt32.toUInt16.toUInt32.toInt32)), .val (.int (v0.toUInt32.toUInt16.toUInt32.toInt32)), .val (.int (1 : Int32)), .unset] [])) (fun _ k => XS.goto X0.here hx rfl (pc0 := 15) (pc' := 26) rfl (hb hby at_15) (by decide) (by decide) k) ?_
    refine Ends.st (S' := s₁.setTop (mkF m 27 #[.val (.int v0), .val (.int (v0.toUInt32.toUInt16.toUInt32.toInt32)), .val (.int (v0.toUInt32.toUInt16.toUInt32.toInt32)), .val (.int (1 : Int32)), .unset] [(.int (v0.toUInt32.toUInt16.toUInt32.toInt32))])) (fun _ k => XS.iloadN X0.here hx rfl (hb hby at_26) rfl k) ?_
    obtain ⟨_, _, ⟨T2, L2, k2, n2⟩, -, X2, ⟨Lc2, hQ2, l2, y2, z2⟩, st2⟩ := Jvm.LawKit.callS X0 hx (y := (⟨"com/example/clearance/clearance/input/TextLines", "isBlank", "(C)Z"⟩ : MethodName)) hown (mvT hZ (hw _ (List.mem_of_getElem? (i := 0) rfl))) (mvT hZ (hw _ (List.mem_of_getElem? (i := 1) rfl))) (mvT hZ (hw _ (List.mem_of_getElem? (i := 2) rfl))) (mvT hZ (hw _ (List.mem_of_getElem? (i := 3) rfl))) (by decide) (backOf (W := 0) (rm1 l Z a0 hw [] (v0.toUInt32.toUInt16.toUInt32.toInt32) h0 n0 Z0) hZ (hw _ (List.mem_of_getElem? (i := 3) rfl)) (hw _ (List.mem_of_getElem? (i := 2) rfl)) (by decide) (by decide)) (g := (mkF m 27 #[.val (.int v0), .val (.int (v0.toUInt32.toUInt16.toUInt32.toInt32)), .val (.int (v0.toUInt32.toUInt16.toUInt32.toInt32)), .val (.int (1 : Int32)), .unset] [(.int (v0.toUInt32.toUInt16.toUInt32.toInt32))])) rfl (by rw [hml]; rfl) (argsL := [(.int (v0.toUInt32.toUInt16.toUInt32.toInt32))]) (rest := []) (lenOf pd_0 rfl) rfl (by show 2 * 0 + _ ≤ _; exact Nat.le_of_eq rfl) (hb hby at_27) (fun _ _ => ⟨rfl, e0, (by decide : 0 + 0 ≤ _), (by decide : 0 + 0 ≤ _)⟩)
    dsimp only [Pt.U, Pt.locs, Pt.cells, Pt.slots] at X2 l2 y2 z2 st2 hQ2
    subst l2 y2 z2
    obtain ⟨rfl, N2q, e2⟩ := hQ2
    have N2 := Fr.app N0 N2q
    refine Ends.st (S' := T2.setTop (mkF m 30 #[.val (.int v0), .val (.int (v0.toUInt32.toUInt16.toUInt32.toInt32)), .val (.int (v0.toUInt32.toUInt16.toUInt32.toInt32)), .val (.int (1 : Int32)), .unset] [(.int (f1 (v0.toUInt32.toUInt16.toUInt32.toInt32)))])) (fun _ k => st2 _ k) ?_
    refine Ends.st (S' := T2.setTop (mkF m 32 #[.val (.int v0), .val (.int (v0.toUInt32.toUInt16.toUInt32.toInt32)), .val (.int (v0.toUInt32.toUInt16.toUInt32.toInt32)), .val (.int (1 : Int32)), .val (.int (f1 (v0.toUInt32.toUInt16.toUInt32.toInt32)))] [])) (fun _ k => XS.istore X2.here hx rfl (hb hby at_30) rfl (l' := #[.val (.int v0), .val (.int (v0.toUInt32.toUInt16.toUInt32.toInt32)), .val (.int (v0.toUInt32.toUInt16.toUInt32.toInt32)), .val (.int (1 : Int32)), .val (.int (f1 (v0.toUInt32.toUInt16.toUInt32.toInt32)))]) rfl k) ?_
    refine Ends.st (S' := T2.setTop (mkF m 34 #[.val (.int v0), .val (.int (v0.toUInt32.toUInt16.toUInt32.toInt32)), .val (.int (v0.toUInt32.toUInt16.toUInt32.toInt32)), .val (.int (1 : Int32)), .val (.int (f1 (v0.toUInt32.toUInt16.toUInt32.toInt32)))] [(.int (f1 (v0.toUInt32.toUInt16.toUInt32.toInt32)))])) (fun _ k => XS.iload X2.here hx rfl (hb hby at_32) rfl k) ?_
    refine Ends.st (S' := T2.setTop (mkF m 35 #[.val (.int v0), .val (.int (v0.toUInt32.toUInt16.toUInt32.toInt32)), .val (.int (v0.toUInt32.toUInt16.toUInt32.toInt32)), .val (.int (1 : Int32)), .val (.int (f1 (v0.toUInt32.toUInt16.toUInt32.toInt32)))] [(.int (1 : Int32)), (.int (f1 (v0.toUInt32.toUInt16.toUInt32.toInt32)))])) (fun _ k => XS.iloadN X2.here hx rfl (hb hby at_34) rfl k) ?_
    have hb3 : (f1 (v0.toUInt32.toUInt16.toUInt32.toInt32)) = (1 : Int32) := (own_f1 _).1 hc1
    refine Ends.st (S' := T2.setTop (mkF m 38 #[.val (.int v0), .val (.int (v0.toUInt32.toUInt16.toUInt32.toInt32)), .val (.int (v0.toUInt32.toUInt16.toUInt32.toInt32)), .val (.int (1 : Int32)), .val (.int (f1 (v0.toUInt32.toUInt16.toUInt32.toInt32)))] [])) (fun _ k => XS.icmpNo X2.here hx rfl (hb hby at_35) rfl (teq hb3).2 k) ?_
    refine Ends.st (S' := T2.setTop (mkF m 39 #[.val (.int v0), .val (.int (v0.toUInt32.toUInt16.toUInt32.toInt32)), .val (.int (v0.toUInt32.toUInt16.toUInt32.toInt32)), .val (.int (1 : Int32)), .val (.int (f1 (v0.toUInt32.toUInt16.toUInt32.toInt32)))] [(.int (1 : Int32))])) (fun _ k => XS.iconst X2.here hx rfl (hb hby at_38) k) ?_
    refine Ends.st (S' := T2.setTop (mkF m 43 #[.val (.int v0), .val (.int (v0.toUInt32.toUInt16.toUInt32.toInt32)), .val (.int (v0.toUInt32.toUInt16.toUInt32.toInt32)), .val (.int (1 : Int32)), .val (.int (f1 (v0.toUInt32.toUInt16.toUInt32.toInt32)))] [(.int (1 : Int32))])) (fun _ k => XS.goto X2.here hx rfl (pc0 := 39) (pc' := 43) rfl (hb hby at_39) (by decide) (by decide) k) ?_
    obtain ⟨fs, hr, hrun, hended, hW, hsame⟩ := X2.leave (v := some (.int (1 : Int32))) (fun h => by rw [Bd.returns] at h; cases h)
    exact ⟨_, _, retN X2 hx (t := .boolean) Bd.returns (by simp) (hb hby at_43) hr, hrun, hended, _, _, rfl, (by show Q0 Z v0 h0 n0 _ T2.heap _; rw [e2]; exact ⟨rfl, N2⟩), ⟨_, rfl⟩, hW, hsame.mono (by decide) (by decide)⟩
  · refine Ends.st (S' := s₁.setTop (mkF m 18 #[.val (.int v0), .val (.int (v0.toUInt32.toUInt16.toUInt32.toInt32)), .val (.int (v0.toUInt32.toUInt16.toUInt32.toInt32)), .val (.int (0 : Int32)), .unset] [])) (fun _ k => XS.icmpYes X0.here hx rfl (pc0 := 10) (pc' := 18) rfl (hb hby at_10) rfl (feq hc1).2 (by decide) (by decide) k) ?_
    refine Ends.st (S' := s₁.setTop (mkF m 19 #[.val (.int v0), .val (.int (v0.toUInt32.toUInt16.toUInt32.toInt32)), .val (.int (v0.toUInt32.toUInt16.toUInt32.toInt32)), .val (.int (0 : Int32)), .unset] [(.int (v0.toUInt32.toUInt16.toUInt32.toInt32))])) (fun _ k => XS.iloadN X0.here hx rfl (hb hby at_18) rfl k) ?_
    refine Ends.st (S' := s₁.setTop (mkF m 21 #[.val (.int v0), .val (.int (v0.toUInt32.toUInt16.toUInt32.toInt32)), .val (.int (v0.toUInt32.toUInt16.toUInt32.toInt32)), .val (.int (0 : Int32)), .unset] [(.int (32 : Int32)), (.int (v0.toUInt32.toUInt16.toUInt32.toInt32))])) (fun _ k => XS.bipush X0.here hx rfl (hb hby at_19) k) ?_
    by_cases hc4 : (v0.toUInt32.toUInt16.toUInt32.toInt32) = (32 : Int32)
    · refine Ends.st (S' := s₁.setTop (mkF m 24 #[.val (.int v0), .val (.int (v0.toUInt32.toUInt16.toUInt32.toInt32)), .val (.int (v0.toUInt32.toUInt16.toUInt32.toInt32)), .val (.int (0 : Int32)), .unset] [])) (fun _ k => XS.icmpNo X0.here hx rfl (hb hby at_21) rfl (teq hc4).2 k) ?_
      refine Ends.st (S' := s₁.setTop (mkF m 25 #[.val (.int v0), .val (.int (v0.toUInt32.toUInt16.toUInt32.toInt32)), .val (.int (v0.toUInt32.toUInt16.toUInt32.toInt32)), .val (.int (0 : Int32)), .unset] [(.int (1 : Int32))])) (fun _ k => XS.iconst X0.here hx rfl (hb hby at_24) k) ?_
      refine Ends.st (S' := s₁.setTop (mkF m 26 #[.val (.int v0), .val (.int (v0.toUInt32.toUInt16.toUInt32.toInt32)), .val (.int (v0.toUInt32.toUInt16.toUInt32.toInt32)), .val (.int (1 : Int32)), .unset] [])) (fun _ k => XS.istoreN X0.here hx rfl (hb hby at_25) rfl (l' := #[.val (.int v0), .val (.int (v0.toUInt32.toUInt16.toUInt32.toInt32)), .val (.int (v0.toUInt32.toUInt16.toUInt32.toInt32)), .val (.int (1 : Int32)), .unset]) rfl k) ?_
      refine Ends.st (S' := s₁.setTop (mkF m 27 #[.val (.int v0), .val (.int (v0.toUInt32.toUInt16.toUInt32.toInt32)), .val (.int (v0.toUInt32.toUInt16.toUInt32.toInt32)), .val (.int (1 : Int32)), .unset] [(.int (v0.toUInt32.toUInt16.toUInt32.toInt32))])) (fun _ k => XS.iloadN X0.here hx rfl (hb hby at_26) rfl k) ?_
      obtain ⟨_, _, ⟨T5, L5, k5, n5⟩, -, X5, ⟨Lc5, hQ5, l5, y5, z5⟩, st5⟩ := Jvm.LawKit.callS X0 hx (y := (⟨"com/example/clearance/clearance/input/TextLines", "isBlank", "(C)Z"⟩ : MethodName)) hown (mvT hZ (hw _ (List.mem_of_getElem? (i := 0) rfl))) (mvT hZ (hw _ (List.mem_of_getElem? (i := 1) rfl))) (mvT hZ (hw _ (List.mem_of_getElem? (i := 2) rfl))) (mvT hZ (hw _ (List.mem_of_getElem? (i := 3) rfl))) (by decide) (backOf (W := 0) (rm1 l Z a0 hw [] (v0.toUInt32.toUInt16.toUInt32.toInt32) h0 n0 Z0) hZ (hw _ (List.mem_of_getElem? (i := 3) rfl)) (hw _ (List.mem_of_getElem? (i := 2) rfl)) (by decide) (by decide)) (g := (mkF m 27 #[.val (.int v0), .val (.int (v0.toUInt32.toUInt16.toUInt32.toInt32)), .val (.int (v0.toUInt32.toUInt16.toUInt32.toInt32)), .val (.int (1 : Int32)), .unset] [(.int (v0.toUInt32.toUInt16.toUInt32.toInt32))])) rfl (by rw [hml]; rfl) (argsL := [(.int (v0.toUInt32.toUInt16.toUInt32.toInt32))]) (rest := []) (lenOf pd_0 rfl) rfl (by show 2 * 0 + _ ≤ _; exact Nat.le_of_eq rfl) (hb hby at_27) (fun _ _ => ⟨rfl, e0, (by decide : 0 + 0 ≤ _), (by decide : 0 + 0 ≤ _)⟩)
      dsimp only [Pt.U, Pt.locs, Pt.cells, Pt.slots] at X5 l5 y5 z5 st5 hQ5
      subst l5 y5 z5
      obtain ⟨rfl, N5q, e5⟩ := hQ5
      have N5 := Fr.app N0 N5q
      refine Ends.st (S' := T5.setTop (mkF m 30 #[.val (.int v0), .val (.int (v0.toUInt32.toUInt16.toUInt32.toInt32)), .val (.int (v0.toUInt32.toUInt16.toUInt32.toInt32)), .val (.int (1 : Int32)), .unset] [(.int (f1 (v0.toUInt32.toUInt16.toUInt32.toInt32)))])) (fun _ k => st5 _ k) ?_
      refine Ends.st (S' := T5.setTop (mkF m 32 #[.val (.int v0), .val (.int (v0.toUInt32.toUInt16.toUInt32.toInt32)), .val (.int (v0.toUInt32.toUInt16.toUInt32.toInt32)), .val (.int (1 : Int32)), .val (.int (f1 (v0.toUInt32.toUInt16.toUInt32.toInt32)))] [])) (fun _ k => XS.istore X5.here hx rfl (hb hby at_30) rfl (l' := #[.val (.int v0), .val (.int (v0.toUInt32.toUInt16.toUInt32.toInt32)), .val (.int (v0.toUInt32.toUInt16.toUInt32.toInt32)), .val (.int (1 : Int32)), .val (.int (f1 (v0.toUInt32.toUInt16.toUInt32.toInt32)))]) rfl k) ?_
      refine Ends.st (S' := T5.setTop (mkF m 34 #[.val (.int v0), .val (.int (v0.toUInt32.toUInt16.toUInt32.toInt32)), .val (.int (v0.toUInt32.toUInt16.toUInt32.toInt32)), .val (.int (1 : Int32)), .val (.int (f1 (v0.toUInt32.toUInt16.toUInt32.toInt32)))] [(.int (f1 (v0.toUInt32.toUInt16.toUInt32.toInt32)))])) (fun _ k => XS.iload X5.here hx rfl (hb hby at_32) rfl k) ?_
      refine Ends.st (S' := T5.setTop (mkF m 35 #[.val (.int v0), .val (.int (v0.toUInt32.toUInt16.toUInt32.toInt32)), .val (.int (v0.toUInt32.toUInt16.toUInt32.toInt32)), .val (.int (1 : Int32)), .val (.int (f1 (v0.toUInt32.toUInt16.toUInt32.toInt32)))] [(.int (1 : Int32)), (.int (f1 (v0.toUInt32.toUInt16.toUInt32.toInt32)))])) (fun _ k => XS.iloadN X5.here hx rfl (hb hby at_34) rfl k) ?_
      have hb6 : (f1 (v0.toUInt32.toUInt16.toUInt32.toInt32)) = (1 : Int32) := (own_f1 _).2.1 hc4
      refine Ends.st (S' := T5.setTop (mkF m 38 #[.val (.int v0), .val (.int (v0.toUInt32.toUInt16.toUInt32.toInt32)), .val (.int (v0.toUInt32.toUInt16.toUInt32.toInt32)), .val (.int (1 : Int32)), .val (.int (f1 (v0.toUInt32.toUInt16.toUInt32.toInt32)))] [])) (fun _ k => XS.icmpNo X5.here hx rfl (hb hby at_35) rfl (teq hb6).2 k) ?_
      refine Ends.st (S' := T5.setTop (mkF m 39 #[.val (.int v0), .val (.int (v0.toUInt32.toUInt16.toUInt32.toInt32)), .val (.int (v0.toUInt32.toUInt16.toUInt32.toInt32)), .val (.int (1 : Int32)), .val (.int (f1 (v0.toUInt32.toUInt16.toUInt32.toInt32)))] [(.int (1 : Int32))])) (fun _ k => XS.iconst X5.here hx rfl (hb hby at_38) k) ?_
      refine Ends.st (S' := T5.setTop (mkF m 43 #[.val (.int v0), .val (.int (v0.toUInt32.toUInt16.toUInt32.toInt32)), .val (.int (v0.toUInt32.toUInt16.toUInt32.toInt32)), .val (.int (1 : Int32)), .val (.int (f1 (v0.toUInt32.toUInt16.toUInt32.toInt32)))] [(.int (1 : Int32))])) (fun _ k => XS.goto X5.here hx rfl (pc0 := 39) (pc' := 43) rfl (hb hby at_39) (by decide) (by decide) k) ?_
      obtain ⟨fs, hr, hrun, hended, hW, hsame⟩ := X5.leave (v := some (.int (1 : Int32))) (fun h => by rw [Bd.returns] at h; cases h)
      exact ⟨_, _, retN X5 hx (t := .boolean) Bd.returns (by simp) (hb hby at_43) hr, hrun, hended, _, _, rfl, (by show Q0 Z v0 h0 n0 _ T5.heap _; rw [e5]; exact ⟨rfl, N5⟩), ⟨_, rfl⟩, hW, hsame.mono (by decide) (by decide)⟩
    · refine Ends.st (S' := s₁.setTop (mkF m 26 #[.val (.int v0), .val (.int (v0.toUInt32.toUInt16.toUInt32.toInt32)), .val (.int (v0.toUInt32.toUInt16.toUInt32.toInt32)), .val (.int (0 : Int32)), .unset] [])) (fun _ k => XS.icmpYes X0.here hx rfl (pc0 := 21) (pc' := 26) rfl (hb hby at_21) rfl (feq hc4).2 (by decide) (by decide) k) ?_
      refine Ends.st (S' := s₁.setTop (mkF m 27 #[.val (.int v0), .val (.int (v0.toUInt32.toUInt16.toUInt32.toInt32)), .val (.int (v0.toUInt32.toUInt16.toUInt32.toInt32)), .val (.int (0 : Int32)), .unset] [(.int (v0.toUInt32.toUInt16.toUInt32.toInt32))])) (fun _ k => XS.iloadN X0.here hx rfl (hb hby at_26) rfl k) ?_
      obtain ⟨_, _, ⟨T7, L7, k7, n7⟩, -, X7, ⟨Lc7, hQ7, l7, y7, z7⟩, st7⟩ := Jvm.LawKit.callS X0 hx (y := (⟨"com/example/clearance/clearance/input/TextLines", "isBlank", "(C)Z"⟩ : MethodName)) hown (mvT hZ (hw _ (List.mem_of_getElem? (i := 0) rfl))) (mvT hZ (hw _ (List.mem_of_getElem? (i := 1) rfl))) (mvT hZ (hw _ (List.mem_of_getElem? (i := 2) rfl))) (mvT hZ (hw _ (List.mem_of_getElem? (i := 3) rfl))) (by decide) (backOf (W := 0) (rm1 l Z a0 hw [] (v0.toUInt32.toUInt16.toUInt32.toInt32) h0 n0 Z0) hZ (hw _ (List.mem_of_getElem? (i := 3) rfl)) (hw _ (List.mem_of_getElem? (i := 2) rfl)) (by decide) (by decide)) (g := (mkF m 27 #[.val (.int v0), .val (.int (v0.toUInt32.toUInt16.toUInt32.toInt32)), .val (.int (v0.toUInt32.toUInt16.toUInt32.toInt32)), .val (.int (0 : Int32)), .unset] [(.int (v0.toUInt32.toUInt16.toUInt32.toInt32))])) rfl (by rw [hml]; rfl) (argsL := [(.int (v0.toUInt32.toUInt16.toUInt32.toInt32))]) (rest := []) (lenOf pd_0 rfl) rfl (by show 2 * 0 + _ ≤ _; exact Nat.le_of_eq rfl) (hb hby at_27) (fun _ _ => ⟨rfl, e0, (by decide : 0 + 0 ≤ _), (by decide : 0 + 0 ≤ _)⟩)
      dsimp only [Pt.U, Pt.locs, Pt.cells, Pt.slots] at X7 l7 y7 z7 st7 hQ7
      subst l7 y7 z7
      obtain ⟨rfl, N7q, e7⟩ := hQ7
      have N7 := Fr.app N0 N7q
      refine Ends.st (S' := T7.setTop (mkF m 30 #[.val (.int v0), .val (.int (v0.toUInt32.toUInt16.toUInt32.toInt32)), .val (.int (v0.toUInt32.toUInt16.toUInt32.toInt32)), .val (.int (0 : Int32)), .unset] [(.int (f1 (v0.toUInt32.toUInt16.toUInt32.toInt32)))])) (fun _ k => st7 _ k) ?_
      refine Ends.st (S' := T7.setTop (mkF m 32 #[.val (.int v0), .val (.int (v0.toUInt32.toUInt16.toUInt32.toInt32)), .val (.int (v0.toUInt32.toUInt16.toUInt32.toInt32)), .val (.int (0 : Int32)), .val (.int (f1 (v0.toUInt32.toUInt16.toUInt32.toInt32)))] [])) (fun _ k => XS.istore X7.here hx rfl (hb hby at_30) rfl (l' := #[.val (.int v0), .val (.int (v0.toUInt32.toUInt16.toUInt32.toInt32)), .val (.int (v0.toUInt32.toUInt16.toUInt32.toInt32)), .val (.int (0 : Int32)), .val (.int (f1 (v0.toUInt32.toUInt16.toUInt32.toInt32)))]) rfl k) ?_
      refine Ends.st (S' := T7.setTop (mkF m 34 #[.val (.int v0), .val (.int (v0.toUInt32.toUInt16.toUInt32.toInt32)), .val (.int (v0.toUInt32.toUInt16.toUInt32.toInt32)), .val (.int (0 : Int32)), .val (.int (f1 (v0.toUInt32.toUInt16.toUInt32.toInt32)))] [(.int (f1 (v0.toUInt32.toUInt16.toUInt32.toInt32)))])) (fun _ k => XS.iload X7.here hx rfl (hb hby at_32) rfl k) ?_
      refine Ends.st (S' := T7.setTop (mkF m 35 #[.val (.int v0), .val (.int (v0.toUInt32.toUInt16.toUInt32.toInt32)), .val (.int (v0.toUInt32.toUInt16.toUInt32.toInt32)), .val (.int (0 : Int32)), .val (.int (f1 (v0.toUInt32.toUInt16.toUInt32.toInt32)))] [(.int (0 : Int32)), (.int (f1 (v0.toUInt32.toUInt16.toUInt32.toInt32)))])) (fun _ k => XS.iloadN X7.here hx rfl (hb hby at_34) rfl k) ?_
      have hb8 : (f1 (v0.toUInt32.toUInt16.toUInt32.toInt32)) = (0 : Int32) := (own_f1 _).2.2 hc1 hc4
      refine Ends.st (S' := T7.setTop (mkF m 38 #[.val (.int v0), .val (.int (v0.toUInt32.toUInt16.toUInt32.toInt32)), .val (.int (v0.toUInt32.toUInt16.toUInt32.toInt32)), .val (.int (0 : Int32)), .val (.int (f1 (v0.toUInt32.toUInt16.toUInt32.toInt32)))] [])) (fun _ k => XS.icmpNo X7.here hx rfl (hb hby at_35) rfl (teq hb8).2 k) ?_
      refine Ends.st (S' := T7.setTop (mkF m 39 #[.val (.int v0), .val (.int (v0.toUInt32.toUInt16.toUInt32.toInt32)), .val (.int (v0.toUInt32.toUInt16.toUInt32.toInt32)), .val (.int (0 : Int32)), .val (.int (f1 (v0.toUInt32.toUInt16.toUInt32.toInt32)))] [(.int (1 : Int32))])) (fun _ k => XS.iconst X7.here hx rfl (hb hby at_38) k) ?_
      refine Ends.st (S' := T7.setTop (mkF m 43 #[.val (.int v0), .val (.int (v0.toUInt32.toUInt16.toUInt32.toInt32)), .val (.int (v0.toUInt32.toUInt16.toUInt32.toInt32)), .val (.int (0 : Int32)), .val (.int (f1 (v0.toUInt32.toUInt16.toUInt32.toInt32)))] [(.int (1 : Int32))])) (fun _ k => XS.goto X7.here hx rfl (pc0 := 39) (pc' := 43) rfl (hb hby at_39) (by decide) (by decide) k) ?_
      obtain ⟨fs, hr, hrun, hended, hW, hsame⟩ := X7.leave (v := some (.int (1 : Int32))) (fun h => by rw [Bd.returns] at h; cases h)
      exact ⟨_, _, retN X7 hx (t := .boolean) Bd.returns (by simp) (hb hby at_43) hr, hrun, hended, _, _, rfl, (by show Q0 Z v0 h0 n0 _ T7.heap _; rw [e7]; exact ⟨rfl, N7⟩), ⟨_, rfl⟩, hW, hsame.mono (by decide) (by decide)⟩
set_option maxRecDepth 65536 in
set_option maxHeartbeats 40000000 in
theorem comes_1 {Post : Tables → Env → Array Value → State → Outcome → State → Prop} (hpost : ∀ tb e args s v u, (limb_1_1.after args s (.returned v) u = true ∧ limb_1_2.after args s (.returned v) u = true ∧ True) → FrameEnd s (.returned v) u (Jvm.fieldLocs frame_1_writes args s ++ Jvm.arrayLocs frame_1_arrays args s ++ Jvm.staticLocs frame_1_statics s) 0 0 → Post tb e args s (.returned v) u) :
    ArmFor flags0 classFile x code maxLocals ret World_1 tables_1 room_1 Calls_1 rest_1 Pre_1 Post := by
  intro l hfl _ _ p e ha hc hk s m args below hf hA hF happ hP
  obtain ⟨hcalls, hrest, hpre⟩ := hP
  obtain ⟨-, -, -, hnamed, -, -, -, hat⟩ := (Spec.applies_iff hf).mp happ
  obtain ⟨hg, hn⟩ := and_e (Cond.before_iff.mp (show (Jvm.Cond.and given_1 narrow_1).before args s = true from hpre))
  obtain ⟨gc, gr0⟩ := and_e hg
  obtain ⟨w0, rfl⟩ : ∃ w0 : Value, args = #[w0] := by
    have hs : args.size = 1 := by simpa [Cond.value, given_1] using gc
    obtain ⟨L⟩ := args
    match L, hs with
    | [w0], _ => exact ⟨w0, rfl⟩
  have hw := fun d (hd : d ∈ tables_1) => atoms_spec (ws := Jvm.Cond.code x code maxLocals ret :: tables_1) hat d (List.mem_cons_of_mem _ hd)
  have hfit : Fit s := fun {y c} hc i hi => by
    obtain ⟨ha, rfl⟩ := Array.getElem?_eq_some_iff.mp hc
    have q := List.all_eq_true.mp ((Array.all_eq_true_iff_forall_mem.mp hF) _ (Array.getElem_mem ha)) i (List.mem_range.mpr hi)
    simpa [Array.getElem?_eq_getElem hi] using q
  obtain ⟨i0, ei0⟩ := is_v gr0
  obtain rfl : w0 = (.int i0) := Option.some.inj ei0
  obtain ⟨n, o, h1, h2, h3, _, L, rfl, ⟨rfl, N⟩, hq⟩ := rm0 l s _ hw tables_1 i0 s.heap s.heap.size (Nat.le_refl _)  p e ha hc hk s m _ below hf ((Spec.applies_iff_loose hf).mp happ).1 ⟨rfl, State.Warmed39.refl s, rfl⟩ trivial
  refine ⟨n, _, h1, h2, h3, hpost _ _ _ _ _ _ ⟨Cond.after_iff.mpr rfl, Cond.after_iff.mpr (eq_i res_at (Term.int_eval (1)) rfl), trivial⟩ ⟨hq.1, hq.2.1, (hq.2.2.sift fun y hy => Or.inr (N y hy)).mono (by decide) (by decide)⟩⟩
theorem main_1_1 : Claimed_1_1 := comes_1 fun _ _ _ _ _ _ h hF => ⟨h.1, hF⟩
theorem main_1_2 : Claimed_1_2 := comes_1 fun _ _ _ _ _ _ h hF => ⟨h.2.1, hF⟩
end Jvm.Pilot.@@N@@
namespace Jvm.Pilot.@@N@@
open Jvm Jvm.ClassFile Sem Op Lib Jvm.Free Jvm.Stand Jvm.Pilot.@@N@@.Jvm.D
/-! MADE BY PROGRAM (witnessworld.py) out of the Statement's table words and the real class files: 9 classes; the members and pool entries that the words name. The judged class is class 1, her method 1. -/
namespace start1
open Jvm.ClassFile
def u (s : String) : CpInfo := .utf8 (stringToUtf16 s)
/-- a pool by its gaps: so many unusable entries, then the entry; so many at the end -/
def gap : Nat → List CpInfo → List CpInfo
  | 0, r => r
  | n + 1, r => .unusable :: gap n r
def poolList (es : List (Nat × CpInfo)) (last : Nat) : List CpInfo := es.foldr (fun e r => gap e.1 (e.2 :: r)) (gap last [])
def pool (es : List (Nat × CpInfo)) (last : Nat) : Array CpInfo := ⟨poolList es last⟩
def fileOf (pool : Array CpInfo) (this : Nat) (attrs : Array Attribute := #[]) (ms : Array MethodInfo := #[]) (fl : Nat := 33) (sup : Nat := 0) (ifs : Array Nat := #[]) (fds : Array FieldInfo := #[]) : ClassFile where
  minorVersion := 0
  majorVersion := 65
  constantPool := pool
  accessFlags := fl
  thisClass := this
  superClass := sup
  interfaces := ifs
  fields := fds
  methods := ms
  attributes := attrs
def plain (name : String) (sup : Option ClassId) : Class where
  name := name
  kind := .ordinary
  loader := none
  accessFlags := 33
  super := sup
  interfaces := #[]
  cf := none
  fields := #[]
  methods := #[]
  instanceTypes := #[]
  staticTypes := #[]
  resolved := #[]
  callSites := []
  init := .initialized
  statics := none
  mirror := none

def pool0 : Array CpInfo := pool [(5, u "<init>"), (0, u "()V"), (1, .class_ 10), (1, u "java/lang/Object")] 113

def k0m0 : Method := { name := "<init>", desc := "()V", sig := { parameters := [], returnType := none }, accessFlags := 1, code := none }
/-- java/lang/Object -/
def k0 : Class := { plain "java/lang/Object" none with
  accessFlags := 33
  interfaces := #[]
  cf := some (fileOf pool0 8 #[] #[{ accessFlags := 1, nameIndex := 5, descriptorIndex := 6, attributes := #[] }] 33 0 #[] #[])
  fields := #[]
  methods := #[k0m0]
  instanceTypes := #[]
  staticTypes := #[]
  resolved := Array.replicate 124 none
  statics := none }

def pool1 : Array CpInfo := pool [(2, .class_ 4), (1, u "java/lang/Object"), (0, u "<init>"), (0, u "()V"), (0, .methodref 8 9), (0, .class_ 10), (0, .nameAndType 11 12), (0, u "com/example/clearance/clearance/input/TextLines"), (0, u "isBlank"), (0, u "(C)Z"), (0, .class_ 14), (0, u "com/example/clearance/clearance/input/TextLinesIsBlankPinLaw"), (2, u "law"), (0, u "(I)Z")] 3

def k1m0 : Method := { name := "<init>", desc := "()V", sig := { parameters := [], returnType := none }, accessFlags := 2, code := none }
def k1c1 : Code := { maxStack := 2, maxLocals := 5, code := code, exceptionTable := #[], attributes := #[] }
def k1m1 : Method := { name := "law", desc := "(I)Z", sig := { parameters := [.int], returnType := some .boolean }, accessFlags := 9, code := some k1c1 }
/-- com/example/clearance/clearance/input/TextLinesIsBlankPinLaw -/
def k1 : Class := { plain "com/example/clearance/clearance/input/TextLinesIsBlankPinLaw" (some 0) with
  accessFlags := 49
  interfaces := #[]
  cf := some (fileOf pool1 13 #[] #[{ accessFlags := 2, nameIndex := 5, descriptorIndex := 6, attributes := #[] }, { accessFlags := 9, nameIndex := 17, descriptorIndex := 18, attributes := #[] }] 49 2 #[] #[])
  fields := #[]
  methods := #[k1m0, k1m1]
  instanceTypes := #[]
  staticTypes := #[]
  resolved := Array.replicate 22 none
  statics := none }

def pool2 : Array CpInfo := pool [(2, .class_ 4), (1, u "java/lang/Object"), (0, u "<init>"), (0, u "()V"), (40, .class_ 48), (0, u "com/example/clearance/clearance/input/TextLines"), (6, .class_ 57), (1, u "com/example/clearance/clearance/input/TextLines$Reader"), (13, .class_ 72), (0, u "com/example/clearance/clearance/input/TextLines$Ended"), (19, u "isBlank"), (0, u "(C)Z"), (4, u "BYTE_ORDER_MARK"), (0, u "C"), (1, u "END_LINE"), (0, u "Ljava/lang/String;")] 15

def k2m0 : Method := { name := "<init>", desc := "()V", sig := { parameters := [], returnType := none }, accessFlags := 2, code := none }
def k2c1 : Code := { maxStack := 2, maxLocals := 1, code := prog_39_method_4_code, exceptionTable := #[], attributes := #[] }
def k2m1 : Method := { name := "isBlank", desc := "(C)Z", sig := { parameters := [.char], returnType := some .boolean }, accessFlags := 9, code := some k2c1 }
/-- com/example/clearance/clearance/input/TextLines -/
def k2 : Class := { plain "com/example/clearance/clearance/input/TextLines" (some 0) with
  accessFlags := 49
  interfaces := #[]
  cf := some (fileOf pool2 47 #[.nestMembers #[71, 55]] #[{ accessFlags := 2, nameIndex := 5, descriptorIndex := 6, attributes := #[] }, { accessFlags := 9, nameIndex := 92, descriptorIndex := 93, attributes := #[] }] 49 2 #[] #[{ accessFlags := 26, nameIndex := 98, descriptorIndex := 99, attributes := #[] }, { accessFlags := 26, nameIndex := 101, descriptorIndex := 102, attributes := #[] }])
  fields := #[{ name := "BYTE_ORDER_MARK", type := .char, accessFlags := 26, slot := 0, constantValue := 0 }, { name := "END_LINE", type := (.object "java/lang/String"), accessFlags := 26, slot := 1, constantValue := 0 }]
  methods := #[k2m0, k2m1]
  instanceTypes := #[]
  staticTypes := #[.char, (.object "java/lang/String")]
  resolved := Array.replicate 118 none
  statics := none }

def pool3 : Array CpInfo := pool [(1, u "java/lang/Cloneable"), (0, .class_ 1), (0, u "java/lang/Object"), (0, .class_ 3)] 3

/-- java/lang/Cloneable -/
def k3 : Class := { plain "java/lang/Cloneable" (some 0) with
  accessFlags := 1537
  interfaces := #[]
  cf := some (fileOf pool3 2 #[] #[] 1537 4 #[] #[])
  fields := #[]
  methods := #[]
  instanceTypes := #[]
  staticTypes := #[]
  resolved := Array.replicate 8 none
  statics := none }

def pool4 : Array CpInfo := pool [(1, u "java/io/Serializable"), (0, .class_ 1), (0, u "java/lang/Object"), (0, .class_ 3)] 3

/-- java/io/Serializable -/
def k4 : Class := { plain "java/io/Serializable" (some 0) with
  accessFlags := 1537
  interfaces := #[]
  cf := some (fileOf pool4 2 #[] #[] 1537 4 #[] #[])
  fields := #[]
  methods := #[]
  instanceTypes := #[]
  staticTypes := #[]
  resolved := Array.replicate 8 none
  statics := none }

/-- the primitive byte -/
def k5 : Class := { plain "byte" none with kind := .primitive 'B', accessFlags := 0x411 }
/-- [B -/
def k6 : Class := { plain "[B" (some 0) with kind := .array 5 .byte, interfaces := #[3, 4], accessFlags := 1041 }

/-- the primitive int -/
def k7 : Class := { plain "int" none with kind := .primitive 'I', accessFlags := 0x411 }
/-- [I -/
def k8 : Class := { plain "[I" (some 0) with kind := .array 7 .int, interfaces := #[3, 4], accessFlags := 1041 }

def heap : Heap := #[]
def classes : Array Class := #[k0, k1, k2, k3, k4, k5, k6, k7, k8]
def interned : List (Array UInt16 × Addr) := []
def slotsUsed : Nat := 0
def theMethod : MethodId := ⟨1, 1⟩
def args0 : Array Value := #[.int 32]
def aboutOver (below : List Frame) : State where
  vm := { classes := classes, interned := interned.toArray }
  heap := heap
  slotsUsed := slotsUsed
  threads := #[{ frames := .invoking theMethod args0 :: below }]
def below0 : List Frame := [.native { method := ⟨0, 0⟩, args := #[] }]
def about1 : State := aboutOver below0
def p0 : Program := .bare "" "" ""
def e0 : Env := launch0.env 0 0 0
theorem w_frames : about1.frames = Frame.invoking theMethod args0 :: below0 := rfl
set_option maxRecDepth 65536 in
theorem w_args : argsFit about1.vm theMethod args0 = true := by decide +kernel
set_option maxRecDepth 65536 in
theorem w_heap : heapFits about1 = true := by decide +kernel
set_option maxRecDepth 65536 in
theorem w_runnable : about1.curStatus? = some .runnable := by decide +kernel
set_option maxRecDepth 65536 in
theorem w_alone : about1.alone = true := by decide +kernel
set_option maxRecDepth 65536 in
theorem w_named : about1.methodNamed? x = some theMethod := by decide +kernel
set_option maxRecDepth 65536 in
theorem w_hears : about1.hears theMethod below0 = true := by decide +kernel
set_option maxRecDepth 65536 in
theorem w_ripe : about1.ripe theMethod args0 below0 = true := by decide +kernel
theorem w_running : about1.status = .running := rfl
set_option maxRecDepth 65536 in
theorem w_room : about1.hasRoom e0.platform room_1 = true :=
  launch0.hasRoom_least _ room_1 (by decide +kernel) (by decide +kernel) (by decide +kernel) (by decide +kernel) (by decide +kernel) (by decide +kernel)
theorem allAtoms_all (ts : List Jvm.Cond) (a : Array Jvm.Value) (st : Jvm.State) : (allAtoms ts).before a st = ts.all (fun c => c.before a st) := by
  induction ts with
  | nil => rfl
  | cons c t ih =>
    show (Jvm.Cond.and c (allAtoms t)).before a st = _
    rw [Jvm.Cond.before_and, ih, List.all_cons]
def words1 : List Jvm.Cond := Jvm.Cond.code x code maxLocals ret :: tables_1
/-- a 'code' word, met by the world's own term for the bytes: nothing is compared byte by byte -/
theorem code_word {y : MethodName} {bytes : ByteArray} {mx : Nat} {rt : Option FieldType} {a : Array Value} {s : State} {m : MethodId} {meth : Method} {c : Code} (h1 : s.methodNamed? y = some m) (h2 : s.vm.method? m = some meth) (h3 : meth.code = some c) (h4 : c.code = bytes)
    (h5 : (c.maxLocals == mx && c.exceptionTable.isEmpty && decide (c.maxStack ≤ mostOperands) && decide (meth.sig.returnType = rt) && !meth.locks && decide (parseMethodDescriptor y.desc = some meth.sig)) = true) : (Jvm.Cond.code y bytes mx rt).before a s = true := by
  simp only [Bool.and_eq_true, beq_iff_eq, Bool.not_eq_true', decide_eq_true_eq] at h5
  obtain ⟨⟨⟨⟨⟨g1, g2⟩, g3⟩, g4⟩, g5⟩, g6⟩ := h5
  simp [Cond.before, Cond.holds, Cond.value, h1, h2, h3, h4, g1, g2, g3, g4, g5, g6]
def isCode : Jvm.Cond → Bool
  | .code _ _ _ _ => true
  | _ => false
theorem all_split {L : List Jvm.Cond} {P : Jvm.Cond → Bool} (h1 : L.all (fun c => isCode c || P c) = true) (h2 : ∀ c ∈ L.filter isCode, P c = true) : L.all P = true := by
  refine List.all_eq_true.mpr fun c hc => ?_
  have h := List.all_eq_true.mp h1 c hc
  rcases Bool.eq_false_or_eq_true (isCode c) with hi | hi
  · exact h2 c (List.mem_filter.mpr ⟨hc, hi⟩)
  · simpa [hi] using h
set_option maxRecDepth 65536 in
theorem w_c0 : (Jvm.Cond.code x code maxLocals ret).before args0 about1 = true := code_word (m := ⟨1, 1⟩) (meth := k1m1) (c := k1c1) (by decide +kernel) rfl rfl rfl (by decide +kernel)
set_option maxRecDepth 65536 in
theorem w_c1 : (Jvm.Cond.code ({ cls := "com/example/clearance/clearance/input/TextLines", name := "isBlank", desc := "(C)Z" } : Jvm.MethodName) prog_39_method_4_code (1 : Nat) (Option.some Jvm.ClassFile.FieldType.boolean)).before args0 about1 = true := code_word (m := ⟨2, 1⟩) (meth := k2m1) (c := k2c1) (by decide +kernel) rfl rfl rfl (by decide +kernel)
def codes1 : List Jvm.Cond := [Jvm.Cond.code x code maxLocals ret, Jvm.Cond.code ({ cls := "com/example/clearance/clearance/input/TextLines", name := "isBlank", desc := "(C)Z" } : Jvm.MethodName) prog_39_method_4_code (1 : Nat) (Option.some Jvm.ClassFile.FieldType.boolean)]
set_option maxRecDepth 65536 in
theorem codes_eq : words1.filter isCode = codes1 := rfl
theorem w_codes : ∀ c ∈ words1.filter isCode, c.before args0 about1 = true := by
  rw [codes_eq]
  intro c hc
  simp only [codes1, List.mem_cons, List.not_mem_nil, or_false] at hc
  rcases hc with rfl | rfl
  · exact w_c0
  · exact w_c1
set_option maxRecDepth 65536 in
theorem w_t1 : words1.all (fun c => isCode c || c.before args0 about1) = true := by decide +kernel
theorem w_tables : (allAtoms (Jvm.Cond.code x code maxLocals ret :: tables_1)).before args0 about1 = true := by
  rw [allAtoms_all]
  show words1.all (fun c => c.before args0 about1) = true
  refine all_split ?_ w_codes
  rw [w_t1]
set_option maxRecDepth 65536 in
theorem w_case : (Jvm.Cond.and given_1 narrow_1).before args0 about1 = true := by decide +kernel
theorem w_applies : (headSpec (Jvm.Cond.code x code maxLocals ret :: tables_1) room_1).applies x e0.platform about1 = true :=
  (Spec.applies_iff w_frames).mpr ⟨w_running, w_runnable, w_alone, w_named, w_hears, w_ripe, w_room, w_tables⟩
theorem atStart : AtStart classFile x code maxLocals ret World_1 tables_1 room_1 Calls_1 rest_1 Pre_1 launch0 p0 e0 about1 theMethod args0 below0 :=
  ⟨lists_1, trivial, launch0.admits_env _ _ _, launch0.least_env, fairChoices_fair.cas, fairChoices_fair.clock, w_frames, w_args, w_heap, w_applies, trivial, trivial, w_case⟩
end start1
theorem witness_1 : WitnessClaimed_1 := ⟨start1.p0, start1.e0, start1.about1, start1.theMethod, start1.args0, start1.below0, start1.atStart⟩
end Jvm.Pilot.@@N@@
