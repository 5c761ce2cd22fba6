import JvmDerived
import JvmDerived.Pilot.@@N@@Statement
import JvmDerived.Pilot.@@N@@Code
set_option linter.unusedVariables false
set_option linter.unusedSimpArgs false
@@BLOCK:NumsL.lean.txt@@
namespace Jvm.RoadKit
open Sem ClassFile Op Lib Jvm.Stand Jvm.Free Jvm.LawKit
section New
variable {p : Program} {l : Launch} {e : Env} {R : Room} {s : State} {m : MethodId} {args : Array Value} {below : List Frame} {meth : Method} {c : Code} {T : State} {locs : List Loc} {cells slots : Nat}
theorem retI (X : Stand p l e R s m args below meth c T locs cells slots) (hx : p.tables.exec = Jvm.exec) {pc : Nat} {Ls : Array Slot} {z : Int32} {rest : List Value} (hret : meth.sig.returnType = some .int) (hd : decode c.code pc = .ok (.ireturn, 1)) {fs : List Frame}
    (hl : ∀ (f : JFrame) (acts : List Action), f.method = m → f.locked = none → f.entered = [] → (doReturn e (T.setTop f) acts (some (.int z))).1 = T.setFrames fs) : Steps p.tables e below (T.setTop (mkF m pc Ls (.int z :: rest))) (T.setFrames fs) := by
  have hm' : T.vm.method? m = some meth := X.method'
  have hn : narrow .int (.int z) = .int z := rfl
  show Steps p.tables e below (T.setTop { method := m, pc := pc, locals := Ls, stack := _ :: rest, locked := none }) _
  jvm_step X.here [X.here.top, hx, hd, hm', hret, hn]
  first | (intro acts; rw [hl _ acts rfl rfl rfl]) | rw [hl _ _ rfl rfl rfl]
  exact Steps.refl _
theorem retRef (X : Stand p l e R s m args below meth c T locs cells slots) (hx : p.tables.exec = Jvm.exec) {pc : Nat} {Ls : Array Slot} {v : Value} {rest : List Value} {ty : FieldType} (hret : meth.sig.returnType = some ty) (hty : ty.isReference = true) (hv : v.isRef = true) (hd : decode c.code pc = .ok (.areturn, 1)) {fs : List Frame}
    (hl : ∀ (f : JFrame) (acts : List Action), f.method = m → f.locked = none → f.entered = [] → (doReturn e (T.setTop f) acts (some v)).1 = T.setFrames fs) : Steps p.tables e below (T.setTop (mkF m pc Ls (v :: rest))) (T.setFrames fs) := by
  have hm' : T.vm.method? m = some meth := X.method'
  show Steps p.tables e below (T.setTop { method := m, pc := pc, locals := Ls, stack := _ :: rest, locked := none }) _
  jvm_step X.here [X.here.top, hx, hd, hm', hret, hty, hv]
  first | (intro acts; rw [hl _ acts rfl rfl rfl]) | rw [hl _ _ rfl rfl rfl]
  exact Steps.refl _
end New
end Jvm.RoadKit
namespace Jvm.Pilot.@@N@@
open Jvm Jvm.ClassFile Sem Op Lib Jvm.Free Jvm.Stand Jvm.LawKit Jvm.RoadKit Bundle Jvm.Pilot.@@N@@.Jvm.D
/-- from the state S the run comes to an end of which R speaks -/
abbrev Ends (tb : Tables) (e : Env) (below : List Frame) (S : State) (R : State → Outcome → Prop) : Prop := ∃ t o, Steps tb e below S t ∧ R t o
theorem Ends.st {tb : Tables} {e : Env} {below : List Frame} {S S' : State} {R : State → Outcome → Prop} (h : ∀ t, Steps tb e below S' t → Steps tb e below S t) (k : Ends tb e below S' R) : Ends tb e below S R := by
  obtain ⟨t, o, h1, h2⟩ := k
  exact ⟨t, o, h t h1, h2⟩
theorem pd_0 : parseMethodDescriptor "(I)Z" = some ⟨[.int], some .boolean⟩ := by decide +kernel
def f1 (p : Int32) : Int32 := if p = 32 then 1 else if p = 9 then 1 else if p = 10 then 1 else if p = 13 then 1 else if p = 12 then 1 else if p = 11 then 1 else 0
theorem own_lo (p : Int32) (h : p < 9) : f1 p = if p = 32 then 1 else 0 := by
  have hne : ∀ k : Int32, 9 ≤ k → ¬ p = k := fun k hk q => by
    subst q
    rw [Int32.lt_iff_toInt_lt] at h; rw [Int32.le_iff_toInt_le] at hk; omega
  simp [f1, hne 9 (by decide), hne 10 (by decide), hne 13 (by decide), hne 12 (by decide), hne 11 (by decide)]
theorem own_mid (p : Int32) (h : ¬ p < 9) (h2 : ¬ 13 < p) : f1 p = 1 := by
  rw [Int32.lt_iff_toInt_lt] at h h2
  have e9 : (9 : Int32).toInt = 9 := by decide
  have e13 : (13 : Int32).toInt = 13 := by decide
  rw [e9] at h; rw [e13] at h2
  have k : p.toInt = 9 ∨ p.toInt = 10 ∨ p.toInt = 11 ∨ p.toInt = 12 ∨ p.toInt = 13 := by omega
  have inj : ∀ k : Int32, p.toInt = k.toInt → p = k := fun k q => Int32.toInt_inj.mp q
  rcases k with k | k | k | k | k
  · rw [inj 9 (k.trans (by decide))]; decide
  · rw [inj 10 (k.trans (by decide))]; decide
  · rw [inj 11 (k.trans (by decide))]; decide
  · rw [inj 12 (k.trans (by decide))]; decide
  · rw [inj 13 (k.trans (by decide))]; decide
theorem own_hi (p : Int32) (h2 : 13 < p) : f1 p = if p = 32 then 1 else 0 := by
  have hne : ∀ k : Int32, k ≤ 13 → ¬ p = k := fun k hk q => by
    subst q
    rw [Int32.lt_iff_toInt_lt] at h2; rw [Int32.le_iff_toInt_le] at hk; omega
  simp [f1, hne 9 (by decide), hne 10 (by decide), hne 13 (by decide), hne 12 (by decide), hne 11 (by decide)]
def Q1 (Z : State) (p : Int32) (h0 : Heap) (n0 : Nat) (v : Option Value) (h : Heap) (L : List Loc) : Prop := v = some (.int (f1 p)) ∧ Fr n0 L ∧ h = h0
theorem d1_0 : decode prog_58_method_4_code 0 = .ok (.iload_n 0, 1) := by decide +kernel
theorem d1_1 : decode prog_58_method_4_code 1 = .ok (.bipush 32, 2) := by decide +kernel
theorem d1_3 : decode prog_58_method_4_code 3 = .ok (.if_icmp .eq 33, 3) := by decide +kernel
theorem d1_6 : decode prog_58_method_4_code 6 = .ok (.iload_n 0, 1) := by decide +kernel
theorem d1_7 : decode prog_58_method_4_code 7 = .ok (.bipush 9, 2) := by decide +kernel
theorem d1_9 : decode prog_58_method_4_code 9 = .ok (.if_icmp .eq 27, 3) := by decide +kernel
theorem d1_12 : decode prog_58_method_4_code 12 = .ok (.iload_n 0, 1) := by decide +kernel
theorem d1_13 : decode prog_58_method_4_code 13 = .ok (.bipush 10, 2) := by decide +kernel
theorem d1_15 : decode prog_58_method_4_code 15 = .ok (.if_icmp .eq 21, 3) := by decide +kernel
theorem d1_18 : decode prog_58_method_4_code 18 = .ok (.iload_n 0, 1) := by decide +kernel
theorem d1_19 : decode prog_58_method_4_code 19 = .ok (.bipush 13, 2) := by decide +kernel
theorem d1_21 : decode prog_58_method_4_code 21 = .ok (.if_icmp .eq 15, 3) := by decide +kernel
theorem d1_24 : decode prog_58_method_4_code 24 = .ok (.iload_n 0, 1) := by decide +kernel
theorem d1_25 : decode prog_58_method_4_code 25 = .ok (.bipush 12, 2) := by decide +kernel
theorem d1_27 : decode prog_58_method_4_code 27 = .ok (.if_icmp .eq 9, 3) := by decide +kernel
theorem d1_30 : decode prog_58_method_4_code 30 = .ok (.iload_n 0, 1) := by decide +kernel
theorem d1_31 : decode prog_58_method_4_code 31 = .ok (.bipush 11, 2) := by decide +kernel
theorem d1_33 : decode prog_58_method_4_code 33 = .ok (.if_icmp .ne 7, 3) := by decide +kernel
theorem d1_36 : decode prog_58_method_4_code 36 = .ok (.iconst 1, 1) := by decide +kernel
theorem d1_37 : decode prog_58_method_4_code 37 = .ok (.goto 4, 3) := by decide +kernel
theorem d1_40 : decode prog_58_method_4_code 40 = .ok (.iconst 0, 1) := by decide +kernel
theorem d1_41 : decode prog_58_method_4_code 41 = .ok (.ireturn, 1) := by decide +kernel
theorem pn_1 : plainName "com/example/deft_txn/defttxn/Lexer" = true := by first | (simp [plainName, overriddenIn]; done) | decide +kernel
theorem ef_rm1 (m : MethodId) (x0 : Int32)  : entryFrame m #[(.int x0)] 1 = mkF m 0 #[.val (.int x0)] [] := by first | (simp [entryFrame, mkF, argsToLocals, Value.category]; done) | rfl
set_option maxRecDepth 65536 in
set_option maxHeartbeats 40000000 in
theorem rm1 (l : Launch) (Z : State) (a0 : Array Value) (hw : ∀ d ∈ tables_1, d.before a0 Z = true) (ws : List Jvm.Cond) (v0 : Int32) (h0 : Heap) (n0 : Nat) (Z0 : n0 ≤ h0.size) :
    MetFree l (⟨"com/example/deft_txn/defttxn/Lexer", "isWhitespace", "(I)Z"⟩ : MethodName) (head1 (Jvm.Cond.code (⟨"com/example/deft_txn/defttxn/Lexer", "isWhitespace", "(I)Z"⟩ : MethodName) prog_58_method_4_code 1 (some .boolean) :: ws) ({ frames := 0, cells := 0, slots := 0, locals := 0 } : Room)) (fun a U => a = #[(.int v0)] ∧ Z.Warmed39 U.vm ∧ U.heap = h0) (fun _ _ _ _ _ => True) (fun _ U o U' => ∃ v L, o = .returned v ∧ Q1 Z v0 h0 n0 v U'.heap L ∧ FrameEnd U o U' L ({ frames := 0, cells := 0, slots := 0, locals := 0 } : Room).cells ({ frames := 0, cells := 0, slots := 0, locals := 0 } : Room).slots) := by
  refine MetFree.of_bodySF (plainFor_of_name pn_1) hisR ?_
  intro p e s m args below meth c s₁ Bd hml0 hP hK
  obtain ⟨rfl, hZ, hh⟩ := hP
  have hx := Bd.exec
  have hby := Bd.bytes
  have hml : c.maxLocals = 1 := hml0
  have hown : s.vm.findClass "com/example/deft_txn/defttxn/Lexer" = some m.cls := findClass_of_methodNamed Bd.named
  have hnm := (name_of_methodNamed Bd.named Bd.method).1
  have X0 : Stand p l e ({ frames := 0, cells := 0, slots := 0, locals := 0 } : Room) s m #[(.int v0)] below meth c s₁ [] 0 0 := Stand.of_body Bd
  have e0 : s₁.heap = h0 := by rw [← hh, Bd.state]; rfl
  have N0 := Fr.nil n0
  refine Ends.st (tb := p.tables) (e := e) (below := below) (S' := s₁.setTop (mkF m 0 #[.val (.int v0)] [])) (fun t k => castTop (ef_rm1 m v0) k) ?_
  refine Ends.st (S' := s₁.setTop (mkF m 1 #[.val (.int v0)] [(.int v0)])) (fun _ k => XS.iloadN X0.here hx rfl (hb hby d1_0) rfl k) ?_
  refine Ends.st (S' := s₁.setTop (mkF m 3 #[.val (.int v0)] [(.int (32 : Int32)), (.int v0)])) (fun _ k => XS.bipush X0.here hx rfl (hb hby d1_1) k) ?_
  by_cases hc1 : v0 = (32 : Int32)
  · refine Ends.st (S' := s₁.setTop (mkF m 36 #[.val (.int v0)] [])) (fun _ k => XS.icmpYes X0.here hx rfl (pc0 := 3) (pc' := 36) rfl (hb hby d1_3) rfl (teq hc1).1 (by decide) (by decide) k) ?_
    refine Ends.st (S' := s₁.setTop (mkF m 37 #[.val (.int v0)] [(.int (1 : Int32))])) (fun _ k => XS.iconst X0.here hx rfl (hb hby d1_36) k) ?_
    refine Ends.st (S' := s₁.setTop (mkF m 41 #[.val (.int v0)] [(.int (1 : Int32))])) (fun _ k => XS.goto X0.here hx rfl (pc0 := 37) (pc' := 41) rfl (hb hby d1_37) (by decide) (by decide) k) ?_
    obtain ⟨fs, hr, hrun, hended, hW, hsame⟩ := X0.leave (v := some (.int (1 : Int32))) (fun h => by rw [Bd.returns] at h; cases h)
    exact ⟨_, _, retN X0 hx (t := .boolean) Bd.returns (by simp) (hb hby d1_41) hr, hrun, hended, _, _, rfl, (by show Q1 Z v0 h0 n0 _ s₁.heap _; rw [e0]; exact ⟨(by simp [f1, hc1]), N0, rfl⟩), ⟨_, rfl⟩, hW, hsame.mono (by decide) (by decide)⟩
  · refine Ends.st (S' := s₁.setTop (mkF m 6 #[.val (.int v0)] [])) (fun _ k => XS.icmpNo X0.here hx rfl (hb hby d1_3) rfl (feq hc1).1 k) ?_
    refine Ends.st (S' := s₁.setTop (mkF m 7 #[.val (.int v0)] [(.int v0)])) (fun _ k => XS.iloadN X0.here hx rfl (hb hby d1_6) rfl k) ?_
    refine Ends.st (S' := s₁.setTop (mkF m 9 #[.val (.int v0)] [(.int (9 : Int32)), (.int v0)])) (fun _ k => XS.bipush X0.here hx rfl (hb hby d1_7) k) ?_
    by_cases hc2 : v0 = (9 : Int32)
    · refine Ends.st (S' := s₁.setTop (mkF m 36 #[.val (.int v0)] [])) (fun _ k => XS.icmpYes X0.here hx rfl (pc0 := 9) (pc' := 36) rfl (hb hby d1_9) rfl (teq hc2).1 (by decide) (by decide) k) ?_
      refine Ends.st (S' := s₁.setTop (mkF m 37 #[.val (.int v0)] [(.int (1 : Int32))])) (fun _ k => XS.iconst X0.here hx rfl (hb hby d1_36) k) ?_
      refine Ends.st (S' := s₁.setTop (mkF m 41 #[.val (.int v0)] [(.int (1 : Int32))])) (fun _ k => XS.goto X0.here hx rfl (pc0 := 37) (pc' := 41) rfl (hb hby d1_37) (by decide) (by decide) k) ?_
      obtain ⟨fs, hr, hrun, hended, hW, hsame⟩ := X0.leave (v := some (.int (1 : Int32))) (fun h => by rw [Bd.returns] at h; cases h)
      exact ⟨_, _, retN X0 hx (t := .boolean) Bd.returns (by simp) (hb hby d1_41) hr, hrun, hended, _, _, rfl, (by show Q1 Z v0 h0 n0 _ s₁.heap _; rw [e0]; exact ⟨(by simp [f1, hc1, hc2]), N0, rfl⟩), ⟨_, rfl⟩, hW, hsame.mono (by decide) (by decide)⟩
    · refine Ends.st (S' := s₁.setTop (mkF m 12 #[.val (.int v0)] [])) (fun _ k => XS.icmpNo X0.here hx rfl (hb hby d1_9) rfl (feq hc2).1 k) ?_
      refine Ends.st (S' := s₁.setTop (mkF m 13 #[.val (.int v0)] [(.int v0)])) (fun _ k => XS.iloadN X0.here hx rfl (hb hby d1_12) rfl k) ?_
      refine Ends.st (S' := s₁.setTop (mkF m 15 #[.val (.int v0)] [(.int (10 : Int32)), (.int v0)])) (fun _ k => XS.bipush X0.here hx rfl (hb hby d1_13) k) ?_
      by_cases hc3 : v0 = (10 : Int32)
      · refine Ends.st (S' := s₁.setTop (mkF m 36 #[.val (.int v0)] [])) (fun _ k => XS.icmpYes X0.here hx rfl (pc0 := 15) (pc' := 36) rfl (hb hby d1_15) rfl (teq hc3).1 (by decide) (by decide) k) ?_
        refine Ends.st (S' := s₁.setTop (mkF m 37 #[.val (.int v0)] [(.int (1 : Int32))])) (fun _ k => XS.iconst X0.here hx rfl (hb hby d1_36) k) ?_
        refine Ends.st (S' := s₁.setTop (mkF m 41 #[.val (.int v0)] [(.int (1 : Int32))])) (fun _ k => XS.goto X0.here hx rfl (pc0 := 37) (pc' := 41) rfl (hb hby d1_37) (by decide) (by decide) k) ?_
        obtain ⟨fs, hr, hrun, hended, hW, hsame⟩ := X0.leave (v := some (.int (1 : Int32))) (fun h => by rw [Bd.returns] at h; cases h)
        exact ⟨_, _, retN X0 hx (t := .boolean) Bd.returns (by simp) (hb hby d1_41) hr, hrun, hended, _, _, rfl, (by show Q1 Z v0 h0 n0 _ s₁.heap _; rw [e0]; exact ⟨(by simp [f1, hc1, hc2, hc3]), N0, rfl⟩), ⟨_, rfl⟩, hW, hsame.mono (by decide) (by decide)⟩
      · refine Ends.st (S' := s₁.setTop (mkF m 18 #[.val (.int v0)] [])) (fun _ k => XS.icmpNo X0.here hx rfl (hb hby d1_15) rfl (feq hc3).1 k) ?_
        refine Ends.st (S' := s₁.setTop (mkF m 19 #[.val (.int v0)] [(.int v0)])) (fun _ k => XS.iloadN X0.here hx rfl (hb hby d1_18) rfl k) ?_
        refine Ends.st (S' := s₁.setTop (mkF m 21 #[.val (.int v0)] [(.int (13 : Int32)), (.int v0)])) (fun _ k => XS.bipush X0.here hx rfl (hb hby d1_19) k) ?_
        by_cases hc4 : v0 = (13 : Int32)
        · refine Ends.st (S' := s₁.setTop (mkF m 36 #[.val (.int v0)] [])) (fun _ k => XS.icmpYes X0.here hx rfl (pc0 := 21) (pc' := 36) rfl (hb hby d1_21) rfl (teq hc4).1 (by decide) (by decide) k) ?_
          refine Ends.st (S' := s₁.setTop (mkF m 37 #[.val (.int v0)] [(.int (1 : Int32))])) (fun _ k => XS.iconst X0.here hx rfl (hb hby d1_36) k) ?_
          refine Ends.st (S' := s₁.setTop (mkF m 41 #[.val (.int v0)] [(.int (1 : Int32))])) (fun _ k => XS.goto X0.here hx rfl (pc0 := 37) (pc' := 41) rfl (hb hby d1_37) (by decide) (by decide) k) ?_
          obtain ⟨fs, hr, hrun, hended, hW, hsame⟩ := X0.leave (v := some (.int (1 : Int32))) (fun h => by rw [Bd.returns] at h; cases h)
          exact ⟨_, _, retN X0 hx (t := .boolean) Bd.returns (by simp) (hb hby d1_41) hr, hrun, hended, _, _, rfl, (by show Q1 Z v0 h0 n0 _ s₁.heap _; rw [e0]; exact ⟨(by simp [f1, hc1, hc2, hc3, hc4]), N0, rfl⟩), ⟨_, rfl⟩, hW, hsame.mono (by decide) (by decide)⟩
        · refine Ends.st (S' := s₁.setTop (mkF m 24 #[.val (.int v0)] [])) (fun _ k => XS.icmpNo X0.here hx rfl (hb hby d1_21) rfl (feq hc4).1 k) ?_
          refine Ends.st (S' := s₁.setTop (mkF m 25 #[.val (.int v0)] [(.int v0)])) (fun _ k => XS.iloadN X0.here hx rfl (hb hby d1_24) rfl k) ?_
          refine Ends.st (S' := s₁.setTop (mkF m 27 #[.val (.int v0)] [(.int (12 : Int32)), (.int v0)])) (fun _ k => XS.bipush X0.here hx rfl (hb hby d1_25) k) ?_
          by_cases hc5 : v0 = (12 : Int32)
          · refine Ends.st (S' := s₁.setTop (mkF m 36 #[.val (.int v0)] [])) (fun _ k => XS.icmpYes X0.here hx rfl (pc0 := 27) (pc' := 36) rfl (hb hby d1_27) rfl (teq hc5).1 (by decide) (by decide) k) ?_
            refine Ends.st (S' := s₁.setTop (mkF m 37 #[.val (.int v0)] [(.int (1 : Int32))])) (fun _ k => XS.iconst X0.here hx rfl (hb hby d1_36) k) ?_
            refine Ends.st (S' := s₁.setTop (mkF m 41 #[.val (.int v0)] [(.int (1 : Int32))])) (fun _ k => XS.goto X0.here hx rfl (pc0 := 37) (pc' := 41) rfl (hb hby d1_37) (by decide) (by decide) k) ?_
            obtain ⟨fs, hr, hrun, hended, hW, hsame⟩ := X0.leave (v := some (.int (1 : Int32))) (fun h => by rw [Bd.returns] at h; cases h)
            exact ⟨_, _, retN X0 hx (t := .boolean) Bd.returns (by simp) (hb hby d1_41) hr, hrun, hended, _, _, rfl, (by show Q1 Z v0 h0 n0 _ s₁.heap _; rw [e0]; exact ⟨(by simp [f1, hc1, hc2, hc3, hc4, hc5]), N0, rfl⟩), ⟨_, rfl⟩, hW, hsame.mono (by decide) (by decide)⟩
          · refine Ends.st (S' := s₁.setTop (mkF m 30 #[.val (.int v0)] [])) (fun _ k => XS.icmpNo X0.here hx rfl (hb hby d1_27) rfl (feq hc5).1 k) ?_
            refine Ends.st (S' := s₁.setTop (mkF m 31 #[.val (.int v0)] [(.int v0)])) (fun _ k => XS.iloadN X0.here hx rfl (hb hby d1_30) rfl k) ?_
            refine Ends.st (S' := s₁.setTop (mkF m 33 #[.val (.int v0)] [(.int (11 : Int32)), (.int v0)])) (fun _ k => XS.bipush X0.here hx rfl (hb hby d1_31) k) ?_
            by_cases hc6 : v0 = (11 : Int32)
            · refine Ends.st (S' := s₁.setTop (mkF m 36 #[.val (.int v0)] [])) (fun _ k => XS.icmpNo X0.here hx rfl (hb hby d1_33) rfl (teq hc6).2 k) ?_
              refine Ends.st (S' := s₁.setTop (mkF m 37 #[.val (.int v0)] [(.int (1 : Int32))])) (fun _ k => XS.iconst X0.here hx rfl (hb hby d1_36) k) ?_
              refine Ends.st (S' := s₁.setTop (mkF m 41 #[.val (.int v0)] [(.int (1 : Int32))])) (fun _ k => XS.goto X0.here hx rfl (pc0 := 37) (pc' := 41) rfl (hb hby d1_37) (by decide) (by decide) k) ?_
              obtain ⟨fs, hr, hrun, hended, hW, hsame⟩ := X0.leave (v := some (.int (1 : Int32))) (fun h => by rw [Bd.returns] at h; cases h)
              exact ⟨_, _, retN X0 hx (t := .boolean) Bd.returns (by simp) (hb hby d1_41) hr, hrun, hended, _, _, rfl, (by show Q1 Z v0 h0 n0 _ s₁.heap _; rw [e0]; exact ⟨(by simp [f1, hc1, hc2, hc3, hc4, hc5, hc6]), N0, rfl⟩), ⟨_, rfl⟩, hW, hsame.mono (by decide) (by decide)⟩
            · refine Ends.st (S' := s₁.setTop (mkF m 40 #[.val (.int v0)] [])) (fun _ k => XS.icmpYes X0.here hx rfl (pc0 := 33) (pc' := 40) rfl (hb hby d1_33) rfl (feq hc6).2 (by decide) (by decide) k) ?_
              refine Ends.st (S' := s₁.setTop (mkF m 41 #[.val (.int v0)] [(.int (0 : Int32))])) (fun _ k => XS.iconst X0.here hx rfl (hb hby d1_40) k) ?_
              obtain ⟨fs, hr, hrun, hended, hW, hsame⟩ := X0.leave (v := some (.int (0 : Int32))) (fun h => by rw [Bd.returns] at h; cases h)
              exact ⟨_, _, retN X0 hx (t := .boolean) Bd.returns (by simp) (hb hby d1_41) hr, hrun, hended, _, _, rfl, (by show Q1 Z v0 h0 n0 _ s₁.heap _; rw [e0]; exact ⟨(by simp [f1, hc1, hc2, hc3, hc4, hc5, hc6]), N0, rfl⟩), ⟨_, rfl⟩, hW, hsame.mono (by decide) (by decide)⟩
def Q0 (Z : State) (p : Int32) (h0 : Heap) (n0 : Nat) (v : Option Value) (h : Heap) (L : List Loc) : Prop := v = some (.int 1) ∧ Fr n0 L
theorem pn_0 : plainName "com/example/deft_txn/defttxn/LexerIsWhitespacePinLaw" = true := by first | (simp [plainName, overriddenIn]; done) | decide +kernel
theorem ef_rm0 (m : MethodId) (x0 : Int32)  : entryFrame m #[(.int x0)] maxLocals = mkF m 0 #[.val (.int x0), .unset] [] := by first | (simp [entryFrame, mkF, argsToLocals, Value.category, maxLocals]; done) | rfl
set_option maxRecDepth 65536 in
set_option maxHeartbeats 40000000 in
theorem rm0 (l : Launch) (Z : State) (a0 : Array Value) (hw : ∀ d ∈ tables_1, d.before a0 Z = true) (ws : List Jvm.Cond) (v0 : Int32) (h0 : Heap) (n0 : Nat) (Z0 : n0 ≤ h0.size) :
    MetFree l x (head1 (Jvm.Cond.code x code maxLocals ret :: ws) room_1) (fun a U => a = #[(.int v0)] ∧ Z.Warmed39 U.vm ∧ U.heap = h0) (fun _ _ _ _ _ => True) (fun _ U o U' => ∃ v L, o = .returned v ∧ Q0 Z v0 h0 n0 v U'.heap L ∧ FrameEnd U o U' L room_1.cells room_1.slots) := by
  refine MetFree.of_bodySF (plainFor_of_name pn_0) hisR ?_
  intro p e s m args below meth c s₁ Bd hml0 hP hK
  obtain ⟨rfl, hZ, hh⟩ := hP
  have hx := Bd.exec
  have hby := Bd.bytes
  have hml : c.maxLocals = 2 := hml0
  have hown : s.vm.findClass "com/example/deft_txn/defttxn/LexerIsWhitespacePinLaw" = some m.cls := findClass_of_methodNamed Bd.named
  have hnm := (name_of_methodNamed Bd.named Bd.method).1
  have X0 : Stand p l e room_1 s m #[(.int v0)] below meth c s₁ [] 0 0 := Stand.of_body Bd
  have e0 : s₁.heap = h0 := by rw [← hh, Bd.state]; rfl
  have N0 := Fr.nil n0
  refine Ends.st (tb := p.tables) (e := e) (below := below) (S' := s₁.setTop (mkF m 0 #[.val (.int v0), .unset] [])) (fun t k => castTop (ef_rm0 m v0) k) ?_
  refine Ends.st (S' := s₁.setTop (mkF m 1 #[.val (.int v0), .unset] [(.int v0)])) (fun _ k => XS.iloadN X0.here hx rfl (hb hby at_0) rfl k) ?_
  refine Ends.st (S' := s₁.setTop (mkF m 3 #[.val (.int v0), .unset] [(.int (9 : Int32)), (.int v0)])) (fun _ k => XS.bipush X0.here hx rfl (hb hby at_1) k) ?_
  by_cases hc1 : v0 < (9 : Int32)
  · refine Ends.st (S' := s₁.setTop (mkF m 12 #[.val (.int v0), .unset] [])) (fun _ k => XS.icmpYes X0.here hx rfl (pc0 := 3) (pc' := 12) rfl (hb hby at_3) rfl (tlt hc1).1 (by decide) (by decide) k) ?_
    refine Ends.st (S' := s₁.setTop (mkF m 13 #[.val (.int v0), .unset] [(.int v0)])) (fun _ k => XS.iloadN X0.here hx rfl (hb hby at_12) rfl k) ?_
    refine Ends.st (S' := s₁.setTop (mkF m 15 #[.val (.int v0), .unset] [(.int (32 : Int32)), (.int v0)])) (fun _ k => XS.bipush X0.here hx rfl (hb hby at_13) k) ?_
    by_cases hc2 : v0 = (32 : Int32)
    · refine Ends.st (S' := s₁.setTop (mkF m 18 #[.val (.int v0), .unset] [])) (fun _ k => XS.icmpNo X0.here hx rfl (hb hby at_15) rfl (teq hc2).2 k) ?_
      refine Ends.st (S' := s₁.setTop (mkF m 19 #[.val (.int v0), .unset] [(.int (1 : Int32))])) (fun _ k => XS.iconst X0.here hx rfl (hb hby at_18) k) ?_
      refine Ends.st (S' := s₁.setTop (mkF m 23 #[.val (.int v0), .unset] [(.int (1 : Int32))])) (fun _ k => XS.goto X0.here hx rfl (pc0 := 19) (pc' := 23) rfl (hb hby at_19) (by decide) (by decide) k) ?_
      refine Ends.st (S' := s₁.setTop (mkF m 24 #[.val (.int v0), .val (.int (1 : Int32))] [])) (fun _ k => XS.istoreN X0.here hx rfl (hb hby at_23) rfl (l' := #[.val (.int v0), .val (.int (1 : Int32))]) rfl k) ?_
      refine Ends.st (S' := s₁.setTop (mkF m 25 #[.val (.int v0), .val (.int (1 : Int32))] [(.int v0)])) (fun _ k => XS.iloadN X0.here hx rfl (hb hby at_24) rfl k) ?_
      obtain ⟨_, _, ⟨T3, L3, k3, n3⟩, -, X3, ⟨Lc3, hQ3, l3, y3, z3⟩, st3⟩ := Jvm.LawKit.callS X0 hx (y := (⟨"com/example/deft_txn/defttxn/Lexer", "isWhitespace", "(I)Z"⟩ : MethodName)) hown (mvT hZ (hw _ (List.mem_of_getElem? (i := 0) rfl))) (mvT hZ (hw _ (List.mem_of_getElem? (i := 1) rfl))) (mvT hZ (hw _ (List.mem_of_getElem? (i := 2) rfl))) (mvT hZ (hw _ (List.mem_of_getElem? (i := 3) rfl))) (by decide) (backOf (W := 0) (rm1 l Z a0 hw [] v0 h0 n0 Z0) hZ (hw _ (List.mem_of_getElem? (i := 3) rfl)) (hw _ (List.mem_of_getElem? (i := 2) rfl)) (by decide) (by decide)) (g := (mkF m 25 #[.val (.int v0), .val (.int (1 : Int32))] [(.int v0)])) rfl (by rw [hml]; rfl) (argsL := [(.int v0)]) (rest := []) (lenOf pd_0 rfl) rfl (by show 2 * 0 + _ ≤ _; exact Nat.le_of_eq rfl) (hb hby at_25) (fun _ _ => ⟨rfl, e0, (by decide : 0 + 0 ≤ _), (by decide : 0 + 0 ≤ _)⟩)
      dsimp only [Pt.U, Pt.locs, Pt.cells, Pt.slots] at X3 l3 y3 z3 st3 hQ3
      subst l3 y3 z3
      obtain ⟨rfl, N3q, e3⟩ := hQ3
      have N3 := Fr.app N0 N3q
      refine Ends.st (S' := T3.setTop (mkF m 28 #[.val (.int v0), .val (.int (1 : Int32))] [(.int (f1 v0))])) (fun _ k => st3 _ k) ?_
      refine Ends.st (S' := T3.setTop (mkF m 29 #[.val (.int v0), .val (.int (1 : Int32))] [(.int (1 : Int32)), (.int (f1 v0))])) (fun _ k => XS.iloadN X3.here hx rfl (hb hby at_28) rfl k) ?_
      have hb4 : (f1 v0) = (1 : Int32) := by rw [own_lo _ hc1]; simp [hc2]
      refine Ends.st (S' := T3.setTop (mkF m 32 #[.val (.int v0), .val (.int (1 : Int32))] [])) (fun _ k => XS.icmpNo X3.here hx rfl (hb hby at_29) rfl (teq hb4).2 k) ?_
      refine Ends.st (S' := T3.setTop (mkF m 33 #[.val (.int v0), .val (.int (1 : Int32))] [(.int (1 : Int32))])) (fun _ k => XS.iconst X3.here hx rfl (hb hby at_32) k) ?_
      refine Ends.st (S' := T3.setTop (mkF m 37 #[.val (.int v0), .val (.int (1 : Int32))] [(.int (1 : Int32))])) (fun _ k => XS.goto X3.here hx rfl (pc0 := 33) (pc' := 37) rfl (hb hby at_33) (by decide) (by decide) k) ?_
      obtain ⟨fs, hr, hrun, hended, hW, hsame⟩ := X3.leave (v := some (.int (1 : Int32))) (fun h => by rw [Bd.returns] at h; cases h)
      exact ⟨_, _, retN X3 hx (t := .boolean) Bd.returns (by simp) (hb hby at_37) hr, hrun, hended, _, _, rfl, (by show Q0 Z v0 h0 n0 _ T3.heap _; rw [e3]; exact ⟨rfl, N3⟩), ⟨_, rfl⟩, hW, hsame.mono (by decide) (by decide)⟩
    · refine Ends.st (S' := s₁.setTop (mkF m 22 #[.val (.int v0), .unset] [])) (fun _ k => XS.icmpYes X0.here hx rfl (pc0 := 15) (pc' := 22) rfl (hb hby at_15) rfl (feq hc2).2 (by decide) (by decide) k) ?_
      refine Ends.st (S' := s₁.setTop (mkF m 23 #[.val (.int v0), .unset] [(.int (0 : Int32))])) (fun _ k => XS.iconst X0.here hx rfl (hb hby at_22) k) ?_
      refine Ends.st (S' := s₁.setTop (mkF m 24 #[.val (.int v0), .val (.int (0 : Int32))] [])) (fun _ k => XS.istoreN X0.here hx rfl (hb hby at_23) rfl (l' := #[.val (.int v0), .val (.int (0 : Int32))]) rfl k) ?_
      refine Ends.st (S' := s₁.setTop (mkF m 25 #[.val (.int v0), .val (.int (0 : Int32))] [(.int v0)])) (fun _ k => XS.iloadN X0.here hx rfl (hb hby at_24) rfl k) ?_
      obtain ⟨_, _, ⟨T5, L5, k5, n5⟩, -, X5, ⟨Lc5, hQ5, l5, y5, z5⟩, st5⟩ := Jvm.LawKit.callS X0 hx (y := (⟨"com/example/deft_txn/defttxn/Lexer", "isWhitespace", "(I)Z"⟩ : MethodName)) hown (mvT hZ (hw _ (List.mem_of_getElem? (i := 0) rfl))) (mvT hZ (hw _ (List.mem_of_getElem? (i := 1) rfl))) (mvT hZ (hw _ (List.mem_of_getElem? (i := 2) rfl))) (mvT hZ (hw _ (List.mem_of_getElem? (i := 3) rfl))) (by decide) (backOf (W := 0) (rm1 l Z a0 hw [] v0 h0 n0 Z0) hZ (hw _ (List.mem_of_getElem? (i := 3) rfl)) (hw _ (List.mem_of_getElem? (i := 2) rfl)) (by decide) (by decide)) (g := (mkF m 25 #[.val (.int v0), .val (.int (0 : Int32))] [(.int v0)])) rfl (by rw [hml]; rfl) (argsL := [(.int v0)]) (rest := []) (lenOf pd_0 rfl) rfl (by show 2 * 0 + _ ≤ _; exact Nat.le_of_eq rfl) (hb hby at_25) (fun _ _ => ⟨rfl, e0, (by decide : 0 + 0 ≤ _), (by decide : 0 + 0 ≤ _)⟩)
      dsimp only [Pt.U, Pt.locs, Pt.cells, Pt.slots] at X5 l5 y5 z5 st5 hQ5
      subst l5 y5 z5
      obtain ⟨rfl, N5q, e5⟩ := hQ5
      have N5 := Fr.app N0 N5q
      refine Ends.st (S' := T5.setTop (mkF m 28 #[.val (.int v0), .val (.int (0 : Int32))] [(.int (f1 v0))])) (fun _ k => st5 _ k) ?_
      refine Ends.st (S' := T5.setTop (mkF m 29 #[.val (.int v0), .val (.int (0 : Int32))] [(.int (0 : Int32)), (.int (f1 v0))])) (fun _ k => XS.iloadN X5.here hx rfl (hb hby at_28) rfl k) ?_
      have hb6 : (f1 v0) = (0 : Int32) := by rw [own_lo _ hc1]; simp [hc2]
      refine Ends.st (S' := T5.setTop (mkF m 32 #[.val (.int v0), .val (.int (0 : Int32))] [])) (fun _ k => XS.icmpNo X5.here hx rfl (hb hby at_29) rfl (teq hb6).2 k) ?_
      refine Ends.st (S' := T5.setTop (mkF m 33 #[.val (.int v0), .val (.int (0 : Int32))] [(.int (1 : Int32))])) (fun _ k => XS.iconst X5.here hx rfl (hb hby at_32) k) ?_
      refine Ends.st (S' := T5.setTop (mkF m 37 #[.val (.int v0), .val (.int (0 : Int32))] [(.int (1 : Int32))])) (fun _ k => XS.goto X5.here hx rfl (pc0 := 33) (pc' := 37) rfl (hb hby at_33) (by decide) (by decide) k) ?_
      obtain ⟨fs, hr, hrun, hended, hW, hsame⟩ := X5.leave (v := some (.int (1 : Int32))) (fun h => by rw [Bd.returns] at h; cases h)
      exact ⟨_, _, retN X5 hx (t := .boolean) Bd.returns (by simp) (hb hby at_37) hr, hrun, hended, _, _, rfl, (by show Q0 Z v0 h0 n0 _ T5.heap _; rw [e5]; exact ⟨rfl, N5⟩), ⟨_, rfl⟩, hW, hsame.mono (by decide) (by decide)⟩
  · refine Ends.st (S' := s₁.setTop (mkF m 6 #[.val (.int v0), .unset] [])) (fun _ k => XS.icmpNo X0.here hx rfl (hb hby at_3) rfl (flt hc1).1 k) ?_
    refine Ends.st (S' := s₁.setTop (mkF m 7 #[.val (.int v0), .unset] [(.int v0)])) (fun _ k => XS.iloadN X0.here hx rfl (hb hby at_6) rfl k) ?_
    refine Ends.st (S' := s₁.setTop (mkF m 9 #[.val (.int v0), .unset] [(.int (13 : Int32)), (.int v0)])) (fun _ k => XS.bipush X0.here hx rfl (hb hby at_7) k) ?_
    by_cases hc7 : (13 : Int32) < v0
    · refine Ends.st (S' := s₁.setTop (mkF m 12 #[.val (.int v0), .unset] [])) (fun _ k => XS.icmpNo X0.here hx rfl (hb hby at_9) rfl (tlt hc7).2.2.2 k) ?_
      refine Ends.st (S' := s₁.setTop (mkF m 13 #[.val (.int v0), .unset] [(.int v0)])) (fun _ k => XS.iloadN X0.here hx rfl (hb hby at_12) rfl k) ?_
      refine Ends.st (S' := s₁.setTop (mkF m 15 #[.val (.int v0), .unset] [(.int (32 : Int32)), (.int v0)])) (fun _ k => XS.bipush X0.here hx rfl (hb hby at_13) k) ?_
      by_cases hc8 : v0 = (32 : Int32)
      · refine Ends.st (S' := s₁.setTop (mkF m 18 #[.val (.int v0), .unset] [])) (fun _ k => XS.icmpNo X0.here hx rfl (hb hby at_15) rfl (teq hc8).2 k) ?_
        refine Ends.st (S' := s₁.setTop (mkF m 19 #[.val (.int v0), .unset] [(.int (1 : Int32))])) (fun _ k => XS.iconst X0.here hx rfl (hb hby at_18) k) ?_
        refine Ends.st (S' := s₁.setTop (mkF m 23 #[.val (.int v0), .unset] [(.int (1 : Int32))])) (fun _ k => XS.goto X0.here hx rfl (pc0 := 19) (pc' := 23) rfl (hb hby at_19) (by decide) (by decide) k) ?_
        refine Ends.st (S' := s₁.setTop (mkF m 24 #[.val (.int v0), .val (.int (1 : Int32))] [])) (fun _ k => XS.istoreN X0.here hx rfl (hb hby at_23) rfl (l' := #[.val (.int v0), .val (.int (1 : Int32))]) rfl k) ?_
        refine Ends.st (S' := s₁.setTop (mkF m 25 #[.val (.int v0), .val (.int (1 : Int32))] [(.int v0)])) (fun _ k => XS.iloadN X0.here hx rfl (hb hby at_24) rfl k) ?_
        obtain ⟨_, _, ⟨T9, L9, k9, n9⟩, -, X9, ⟨Lc9, hQ9, l9, y9, z9⟩, st9⟩ := Jvm.LawKit.callS X0 hx (y := (⟨"com/example/deft_txn/defttxn/Lexer", "isWhitespace", "(I)Z"⟩ : MethodName)) hown (mvT hZ (hw _ (List.mem_of_getElem? (i := 0) rfl))) (mvT hZ (hw _ (List.mem_of_getElem? (i := 1) rfl))) (mvT hZ (hw _ (List.mem_of_getElem? (i := 2) rfl))) (mvT hZ (hw _ (List.mem_of_getElem? (i := 3) rfl))) (by decide) (backOf (W := 0) (rm1 l Z a0 hw [] v0 h0 n0 Z0) hZ (hw _ (List.mem_of_getElem? (i := 3) rfl)) (hw _ (List.mem_of_getElem? (i := 2) rfl)) (by decide) (by decide)) (g := (mkF m 25 #[.val (.int v0), .val (.int (1 : Int32))] [(.int v0)])) rfl (by rw [hml]; rfl) (argsL := [(.int v0)]) (rest := []) (lenOf pd_0 rfl) rfl (by show 2 * 0 + _ ≤ _; exact Nat.le_of_eq rfl) (hb hby at_25) (fun _ _ => ⟨rfl, e0, (by decide : 0 + 0 ≤ _), (by decide : 0 + 0 ≤ _)⟩)
        dsimp only [Pt.U, Pt.locs, Pt.cells, Pt.slots] at X9 l9 y9 z9 st9 hQ9
        subst l9 y9 z9
        obtain ⟨rfl, N9q, e9⟩ := hQ9
        have N9 := Fr.app N0 N9q
        refine Ends.st (S' := T9.setTop (mkF m 28 #[.val (.int v0), .val (.int (1 : Int32))] [(.int (f1 v0))])) (fun _ k => st9 _ k) ?_
        refine Ends.st (S' := T9.setTop (mkF m 29 #[.val (.int v0), .val (.int (1 : Int32))] [(.int (1 : Int32)), (.int (f1 v0))])) (fun _ k => XS.iloadN X9.here hx rfl (hb hby at_28) rfl k) ?_
        have hb10 : (f1 v0) = (1 : Int32) := by rw [own_hi _ hc7]; simp [hc8]
        refine Ends.st (S' := T9.setTop (mkF m 32 #[.val (.int v0), .val (.int (1 : Int32))] [])) (fun _ k => XS.icmpNo X9.here hx rfl (hb hby at_29) rfl (teq hb10).2 k) ?_
        refine Ends.st (S' := T9.setTop (mkF m 33 #[.val (.int v0), .val (.int (1 : Int32))] [(.int (1 : Int32))])) (fun _ k => XS.iconst X9.here hx rfl (hb hby at_32) k) ?_
        refine Ends.st (S' := T9.setTop (mkF m 37 #[.val (.int v0), .val (.int (1 : Int32))] [(.int (1 : Int32))])) (fun _ k => XS.goto X9.here hx rfl (pc0 := 33) (pc' := 37) rfl (hb hby at_33) (by decide) (by decide) k) ?_
        obtain ⟨fs, hr, hrun, hended, hW, hsame⟩ := X9.leave (v := some (.int (1 : Int32))) (fun h => by rw [Bd.returns] at h; cases h)
        exact ⟨_, _, retN X9 hx (t := .boolean) Bd.returns (by simp) (hb hby at_37) hr, hrun, hended, _, _, rfl, (by show Q0 Z v0 h0 n0 _ T9.heap _; rw [e9]; exact ⟨rfl, N9⟩), ⟨_, rfl⟩, hW, hsame.mono (by decide) (by decide)⟩
      · refine Ends.st (S' := s₁.setTop (mkF m 22 #[.val (.int v0), .unset] [])) (fun _ k => XS.icmpYes X0.here hx rfl (pc0 := 15) (pc' := 22) rfl (hb hby at_15) rfl (feq hc8).2 (by decide) (by decide) k) ?_
        refine Ends.st (S' := s₁.setTop (mkF m 23 #[.val (.int v0), .unset] [(.int (0 : Int32))])) (fun _ k => XS.iconst X0.here hx rfl (hb hby at_22) k) ?_
        refine Ends.st (S' := s₁.setTop (mkF m 24 #[.val (.int v0), .val (.int (0 : Int32))] [])) (fun _ k => XS.istoreN X0.here hx rfl (hb hby at_23) rfl (l' := #[.val (.int v0), .val (.int (0 : Int32))]) rfl k) ?_
        refine Ends.st (S' := s₁.setTop (mkF m 25 #[.val (.int v0), .val (.int (0 : Int32))] [(.int v0)])) (fun _ k => XS.iloadN X0.here hx rfl (hb hby at_24) rfl k) ?_
        obtain ⟨_, _, ⟨T11, L11, k11, n11⟩, -, X11, ⟨Lc11, hQ11, l11, y11, z11⟩, st11⟩ := Jvm.LawKit.callS X0 hx (y := (⟨"com/example/deft_txn/defttxn/Lexer", "isWhitespace", "(I)Z"⟩ : MethodName)) hown (mvT hZ (hw _ (List.mem_of_getElem? (i := 0) rfl))) (mvT hZ (hw _ (List.mem_of_getElem? (i := 1) rfl))) (mvT hZ (hw _ (List.mem_of_getElem? (i := 2) rfl))) (mvT hZ (hw _ (List.mem_of_getElem? (i := 3) rfl))) (by decide) (backOf (W := 0) (rm1 l Z a0 hw [] v0 h0 n0 Z0) hZ (hw _ (List.mem_of_getElem? (i := 3) rfl)) (hw _ (List.mem_of_getElem? (i := 2) rfl)) (by decide) (by decide)) (g := (mkF m 25 #[.val (.int v0), .val (.int (0 : Int32))] [(.int v0)])) rfl (by rw [hml]; rfl) (argsL := [(.int v0)]) (rest := []) (lenOf pd_0 rfl) rfl (by show 2 * 0 + _ ≤ _; exact Nat.le_of_eq rfl) (hb hby at_25) (fun _ _ => ⟨rfl, e0, (by decide : 0 + 0 ≤ _), (by decide : 0 + 0 ≤ _)⟩)
        dsimp only [Pt.U, Pt.locs, Pt.cells, Pt.slots] at X11 l11 y11 z11 st11 hQ11
        subst l11 y11 z11
        obtain ⟨rfl, N11q, e11⟩ := hQ11
        have N11 := Fr.app N0 N11q
        refine Ends.st (S' := T11.setTop (mkF m 28 #[.val (.int v0), .val (.int (0 : Int32))] [(.int (f1 v0))])) (fun _ k => st11 _ k) ?_
        refine Ends.st (S' := T11.setTop (mkF m 29 #[.val (.int v0), .val (.int (0 : Int32))] [(.int (0 : Int32)), (.int (f1 v0))])) (fun _ k => XS.iloadN X11.here hx rfl (hb hby at_28) rfl k) ?_
        have hb12 : (f1 v0) = (0 : Int32) := by rw [own_hi _ hc7]; simp [hc8]
        refine Ends.st (S' := T11.setTop (mkF m 32 #[.val (.int v0), .val (.int (0 : Int32))] [])) (fun _ k => XS.icmpNo X11.here hx rfl (hb hby at_29) rfl (teq hb12).2 k) ?_
        refine Ends.st (S' := T11.setTop (mkF m 33 #[.val (.int v0), .val (.int (0 : Int32))] [(.int (1 : Int32))])) (fun _ k => XS.iconst X11.here hx rfl (hb hby at_32) k) ?_
        refine Ends.st (S' := T11.setTop (mkF m 37 #[.val (.int v0), .val (.int (0 : Int32))] [(.int (1 : Int32))])) (fun _ k => XS.goto X11.here hx rfl (pc0 := 33) (pc' := 37) rfl (hb hby at_33) (by decide) (by decide) k) ?_
        obtain ⟨fs, hr, hrun, hended, hW, hsame⟩ := X11.leave (v := some (.int (1 : Int32))) (fun h => by rw [Bd.returns] at h; cases h)
        exact ⟨_, _, retN X11 hx (t := .boolean) Bd.returns (by simp) (hb hby at_37) hr, hrun, hended, _, _, rfl, (by show Q0 Z v0 h0 n0 _ T11.heap _; rw [e11]; exact ⟨rfl, N11⟩), ⟨_, rfl⟩, hW, hsame.mono (by decide) (by decide)⟩
    · refine Ends.st (S' := s₁.setTop (mkF m 18 #[.val (.int v0), .unset] [])) (fun _ k => XS.icmpYes X0.here hx rfl (pc0 := 9) (pc' := 18) rfl (hb hby at_9) rfl (flt hc7).2.2.2 (by decide) (by decide) k) ?_
      refine Ends.st (S' := s₁.setTop (mkF m 19 #[.val (.int v0), .unset] [(.int (1 : Int32))])) (fun _ k => XS.iconst X0.here hx rfl (hb hby at_18) k) ?_
      refine Ends.st (S' := s₁.setTop (mkF m 23 #[.val (.int v0), .unset] [(.int (1 : Int32))])) (fun _ k => XS.goto X0.here hx rfl (pc0 := 19) (pc' := 23) rfl (hb hby at_19) (by decide) (by decide) k) ?_
      refine Ends.st (S' := s₁.setTop (mkF m 24 #[.val (.int v0), .val (.int (1 : Int32))] [])) (fun _ k => XS.istoreN X0.here hx rfl (hb hby at_23) rfl (l' := #[.val (.int v0), .val (.int (1 : Int32))]) rfl k) ?_
      refine Ends.st (S' := s₁.setTop (mkF m 25 #[.val (.int v0), .val (.int (1 : Int32))] [(.int v0)])) (fun _ k => XS.iloadN X0.here hx rfl (hb hby at_24) rfl k) ?_
      obtain ⟨_, _, ⟨T13, L13, k13, n13⟩, -, X13, ⟨Lc13, hQ13, l13, y13, z13⟩, st13⟩ := Jvm.LawKit.callS X0 hx (y := (⟨"com/example/deft_txn/defttxn/Lexer", "isWhitespace", "(I)Z"⟩ : MethodName)) hown (mvT hZ (hw _ (List.mem_of_getElem? (i := 0) rfl))) (mvT hZ (hw _ (List.mem_of_getElem? (i := 1) rfl))) (mvT hZ (hw _ (List.mem_of_getElem? (i := 2) rfl))) (mvT hZ (hw _ (List.mem_of_getElem? (i := 3) rfl))) (by decide) (backOf (W := 0) (rm1 l Z a0 hw [] v0 h0 n0 Z0) hZ (hw _ (List.mem_of_getElem? (i := 3) rfl)) (hw _ (List.mem_of_getElem? (i := 2) rfl)) (by decide) (by decide)) (g := (mkF m 25 #[.val (.int v0), .val (.int (1 : Int32))] [(.int v0)])) rfl (by rw [hml]; rfl) (argsL := [(.int v0)]) (rest := []) (lenOf pd_0 rfl) rfl (by show 2 * 0 + _ ≤ _; exact Nat.le_of_eq rfl) (hb hby at_25) (fun _ _ => ⟨rfl, e0, (by decide : 0 + 0 ≤ _), (by decide : 0 + 0 ≤ _)⟩)
      dsimp only [Pt.U, Pt.locs, Pt.cells, Pt.slots] at X13 l13 y13 z13 st13 hQ13
      subst l13 y13 z13
      obtain ⟨rfl, N13q, e13⟩ := hQ13
      have N13 := Fr.app N0 N13q
      refine Ends.st (S' := T13.setTop (mkF m 28 #[.val (.int v0), .val (.int (1 : Int32))] [(.int (f1 v0))])) (fun _ k => st13 _ k) ?_
      refine Ends.st (S' := T13.setTop (mkF m 29 #[.val (.int v0), .val (.int (1 : Int32))] [(.int (1 : Int32)), (.int (f1 v0))])) (fun _ k => XS.iloadN X13.here hx rfl (hb hby at_28) rfl k) ?_
      have hb14 : (f1 v0) = (1 : Int32) := own_mid _ hc1 hc7
      refine Ends.st (S' := T13.setTop (mkF m 32 #[.val (.int v0), .val (.int (1 : Int32))] [])) (fun _ k => XS.icmpNo X13.here hx rfl (hb hby at_29) rfl (teq hb14).2 k) ?_
      refine Ends.st (S' := T13.setTop (mkF m 33 #[.val (.int v0), .val (.int (1 : Int32))] [(.int (1 : Int32))])) (fun _ k => XS.iconst X13.here hx rfl (hb hby at_32) k) ?_
      refine Ends.st (S' := T13.setTop (mkF m 37 #[.val (.int v0), .val (.int (1 : Int32))] [(.int (1 : Int32))])) (fun _ k => XS.goto X13.here hx rfl (pc0 := 33) (pc' := 37) rfl (hb hby at_33) (by decide) (by decide) k) ?_
      obtain ⟨fs, hr, hrun, hended, hW, hsame⟩ := X13.leave (v := some (.int (1 : Int32))) (fun h => by rw [Bd.returns] at h; cases h)
      exact ⟨_, _, retN X13 hx (t := .boolean) Bd.returns (by simp) (hb hby at_37) hr, hrun, hended, _, _, rfl, (by show Q0 Z v0 h0 n0 _ T13.heap _; rw [e13]; exact ⟨rfl, N13⟩), ⟨_, rfl⟩, hW, hsame.mono (by decide) (by decide)⟩
set_option maxRecDepth 65536 in
set_option maxHeartbeats 40000000 in
theorem comes_1 {Post : Tables → Env → Array Value → State → Outcome → State → Prop} (hpost : ∀ tb e args s v u, (limb_1_1.after args s (.returned v) u = true ∧ limb_1_2.after args s (.returned v) u = true ∧ True) → FrameEnd s (.returned v) u (Jvm.fieldLocs frame_1_writes args s ++ Jvm.arrayLocs frame_1_arrays args s ++ Jvm.staticLocs frame_1_statics s) 0 0 → Post tb e args s (.returned v) u) :
    ArmFor flags0 classFile x code maxLocals ret World_1 tables_1 room_1 Calls_1 rest_1 Pre_1 Post := by
  intro l hfl _ _ p e ha hc hk s m args below hf hA hF happ hP
  obtain ⟨hcalls, hrest, hpre⟩ := hP
  obtain ⟨-, -, -, hnamed, -, -, -, hat⟩ := (Spec.applies_iff hf).mp happ
  obtain ⟨hg, hn⟩ := and_e (Cond.before_iff.mp (show (Jvm.Cond.and given_1 narrow_1).before args s = true from hpre))
  obtain ⟨gc, gr0⟩ := and_e hg
  obtain ⟨w0, rfl⟩ : ∃ w0 : Value, args = #[w0] := by
    have hs : args.size = 1 := by simpa [Cond.value, given_1] using gc
    obtain ⟨L⟩ := args
    match L, hs with
    | [w0], _ => exact ⟨w0, rfl⟩
  have hw := fun d (hd : d ∈ tables_1) => atoms_spec (ws := Jvm.Cond.code x code maxLocals ret :: tables_1) hat d (List.mem_cons_of_mem _ hd)
  have hfit : Fit s := fun {y c} hc i hi => by
    obtain ⟨ha, rfl⟩ := Array.getElem?_eq_some_iff.mp hc
    have q := List.all_eq_true.mp ((Array.all_eq_true_iff_forall_mem.mp hF) _ (Array.getElem_mem ha)) i (List.mem_range.mpr hi)
    simpa [Array.getElem?_eq_getElem hi] using q
  obtain ⟨i0, ei0⟩ := is_v gr0
  obtain rfl : w0 = (.int i0) := Option.some.inj ei0
  obtain ⟨n, o, h1, h2, h3, _, L, rfl, ⟨rfl, N⟩, hq⟩ := rm0 l s _ hw tables_1 i0 s.heap s.heap.size (Nat.le_refl _)  p e ha hc hk s m _ below hf ((Spec.applies_iff_loose hf).mp happ).1 ⟨rfl, State.Warmed39.refl s, rfl⟩ trivial
  refine ⟨n, _, h1, h2, h3, hpost _ _ _ _ _ _ ⟨Cond.after_iff.mpr rfl, Cond.after_iff.mpr (eq_i res_at (Term.int_eval (1)) rfl), trivial⟩ ⟨hq.1, hq.2.1, (hq.2.2.sift fun y hy => Or.inr (N y hy)).mono (by decide) (by decide)⟩⟩
theorem main_1_1 : Claimed_1_1 := comes_1 fun _ _ _ _ _ _ h hF => ⟨h.1, hF⟩
theorem main_1_2 : Claimed_1_2 := comes_1 fun _ _ _ _ _ _ h hF => ⟨h.2.1, hF⟩
end Jvm.Pilot.@@N@@
namespace Jvm.Pilot.@@N@@
open Jvm Jvm.ClassFile Sem Op Lib Jvm.Free Jvm.Stand Jvm.Pilot.@@N@@.Jvm.D
/-! MADE BY PROGRAM (witnessworld.py) out of the Statement's table words and the real class files: 7 classes; the members and pool entries that the words name. The judged class is class 1, her method 1. -/
namespace start1
open Jvm.ClassFile
def u (s : String) : CpInfo := .utf8 (stringToUtf16 s)
/-- a pool by its gaps: so many unusable entries, then the entry; so many at the end -/
def gap : Nat → List CpInfo → List CpInfo
  | 0, r => r
  | n + 1, r => .unusable :: gap n r
def poolList (es : List (Nat × CpInfo)) (last : Nat) : List CpInfo := es.foldr (fun e r => gap e.1 (e.2 :: r)) (gap last [])
def pool (es : List (Nat × CpInfo)) (last : Nat) : Array CpInfo := ⟨poolList es last⟩
def fileOf (pool : Array CpInfo) (this : Nat) (attrs : Array Attribute := #[]) (ms : Array MethodInfo := #[]) (fl : Nat := 33) (sup : Nat := 0) (ifs : Array Nat := #[]) (fds : Array FieldInfo := #[]) : ClassFile where
  minorVersion := 0
  majorVersion := 65
  constantPool := pool
  accessFlags := fl
  thisClass := this
  superClass := sup
  interfaces := ifs
  fields := fds
  methods := ms
  attributes := attrs
def plain (name : String) (sup : Option ClassId) : Class where
  name := name
  kind := .ordinary
  loader := none
  accessFlags := 33
  super := sup
  interfaces := #[]
  cf := none
  fields := #[]
  methods := #[]
  instanceTypes := #[]
  staticTypes := #[]
  resolved := #[]
  callSites := []
  init := .initialized
  statics := none
  mirror := none

def pool0 : Array CpInfo := pool [(5, u "<init>"), (0, u "()V"), (1, .class_ 10), (1, u "java/lang/Object")] 113

def k0m0 : Method := { name := "<init>", desc := "()V", sig := { parameters := [], returnType := none }, accessFlags := 1, code := none }
/-- java/lang/Object -/
def k0 : Class := { plain "java/lang/Object" none with
  accessFlags := 33
  interfaces := #[]
  cf := some (fileOf pool0 8 #[] #[{ accessFlags := 1, nameIndex := 5, descriptorIndex := 6, attributes := #[] }] 33 0 #[] #[])
  fields := #[]
  methods := #[k0m0]
  instanceTypes := #[]
  staticTypes := #[]
  resolved := Array.replicate 124 none
  statics := none }

def pool1 : Array CpInfo := pool [(2, .class_ 4), (1, u "java/lang/Object"), (0, u "<init>"), (0, u "()V"), (0, .methodref 8 9), (0, .class_ 10), (0, .nameAndType 11 12), (0, u "com/example/deft_txn/defttxn/Lexer"), (0, u "isWhitespace"), (0, u "(I)Z"), (0, .class_ 14), (0, u "com/example/deft_txn/defttxn/LexerIsWhitespacePinLaw"), (2, u "law")] 3

def k1m0 : Method := { name := "<init>", desc := "()V", sig := { parameters := [], returnType := none }, accessFlags := 2, code := none }
def k1c1 : Code := { maxStack := 2, maxLocals := 2, code := code, exceptionTable := #[], attributes := #[] }
def k1m1 : Method := { name := "law", desc := "(I)Z", sig := { parameters := [.int], returnType := some .boolean }, accessFlags := 9, code := some k1c1 }
/-- com/example/deft_txn/defttxn/LexerIsWhitespacePinLaw -/
def k1 : Class := { plain "com/example/deft_txn/defttxn/LexerIsWhitespacePinLaw" (some 0) with
  accessFlags := 49
  interfaces := #[]
  cf := some (fileOf pool1 13 #[] #[{ accessFlags := 2, nameIndex := 5, descriptorIndex := 6, attributes := #[] }, { accessFlags := 9, nameIndex := 17, descriptorIndex := 12, attributes := #[] }] 49 2 #[] #[])
  fields := #[]
  methods := #[k1m0, k1m1]
  instanceTypes := #[]
  staticTypes := #[]
  resolved := Array.replicate 21 none
  statics := none }

def pool2 : Array CpInfo := pool [(1, .class_ 2), (0, u "com/example/deft_txn/defttxn/Lexer"), (25, .class_ 30), (1, u "java/lang/Object"), (3, u "line"), (0, u "J"), (2, u "in"), (0, u "Ljava/io/Reader;"), (2, u "buffer"), (0, u "[C"), (11, u "isWhitespace"), (0, u "(I)Z"), (53, u "tokenLine"), (2, u "statementLine"), (2, u "tokenOffset"), (2, u "statementOffset"), (22, u "atEnd"), (0, u "Z"), (2, u "offset"), (80, u "SINGLE_SYMBOL_TEXTS"), (0, u "[Ljava/lang/String;"), (6, u "PAIR_SYMBOLS"), (0, u "Ljava/util/List;"), (2, u "position"), (0, u "I"), (2, u "limit"), (49, u "SINGLE_SYMBOLS"), (0, u "Ljava/lang/String;"), (3, u "BUFFER_SIZE")] 40

def k2c0 : Code := { maxStack := 2, maxLocals := 1, code := prog_58_method_4_code, exceptionTable := #[], attributes := #[] }
def k2m0 : Method := { name := "isWhitespace", desc := "(I)Z", sig := { parameters := [.int], returnType := some .boolean }, accessFlags := 8, code := some k2c0 }
/-- com/example/deft_txn/defttxn/Lexer -/
def k2 : Class := { plain "com/example/deft_txn/defttxn/Lexer" (some 0) with
  accessFlags := 32
  interfaces := #[]
  cf := some (fileOf pool2 1 #[] #[{ accessFlags := 8, nameIndex := 55, descriptorIndex := 56, attributes := #[] }] 32 28 #[] #[{ accessFlags := 26, nameIndex := 293, descriptorIndex := 294, attributes := #[] }, { accessFlags := 26, nameIndex := 227, descriptorIndex := 228, attributes := #[] }, { accessFlags := 26, nameIndex := 235, descriptorIndex := 236, attributes := #[] }, { accessFlags := 26, nameIndex := 298, descriptorIndex := 240, attributes := #[] }, { accessFlags := 18, nameIndex := 38, descriptorIndex := 39, attributes := #[] }, { accessFlags := 18, nameIndex := 42, descriptorIndex := 43, attributes := #[] }, { accessFlags := 2, nameIndex := 239, descriptorIndex := 240, attributes := #[] }, { accessFlags := 2, nameIndex := 243, descriptorIndex := 240, attributes := #[] }, { accessFlags := 2, nameIndex := 142, descriptorIndex := 143, attributes := #[] }, { accessFlags := 2, nameIndex := 34, descriptorIndex := 35, attributes := #[] }, { accessFlags := 2, nameIndex := 146, descriptorIndex := 35, attributes := #[] }, { accessFlags := 2, nameIndex := 110, descriptorIndex := 35, attributes := #[] }, { accessFlags := 2, nameIndex := 116, descriptorIndex := 35, attributes := #[] }, { accessFlags := 2, nameIndex := 113, descriptorIndex := 35, attributes := #[] }, { accessFlags := 2, nameIndex := 119, descriptorIndex := 35, attributes := #[] }])
  fields := #[{ name := "SINGLE_SYMBOLS", type := (.object "java/lang/String"), accessFlags := 26, slot := 0, constantValue := 0 }, { name := "SINGLE_SYMBOL_TEXTS", type := (.array (.object "java/lang/String")), accessFlags := 26, slot := 1, constantValue := 0 }, { name := "PAIR_SYMBOLS", type := (.object "java/util/List"), accessFlags := 26, slot := 2, constantValue := 0 }, { name := "BUFFER_SIZE", type := .int, accessFlags := 26, slot := 3, constantValue := 0 }, { name := "in", type := (.object "java/io/Reader"), accessFlags := 18, slot := 0, constantValue := 0 }, { name := "buffer", type := (.array .char), accessFlags := 18, slot := 1, constantValue := 0 }, { name := "position", type := .int, accessFlags := 2, slot := 2, constantValue := 0 }, { name := "limit", type := .int, accessFlags := 2, slot := 3, constantValue := 0 }, { name := "atEnd", type := .boolean, accessFlags := 2, slot := 4, constantValue := 0 }, { name := "line", type := .long, accessFlags := 2, slot := 5, constantValue := 0 }, { name := "offset", type := .long, accessFlags := 2, slot := 6, constantValue := 0 }, { name := "tokenLine", type := .long, accessFlags := 2, slot := 7, constantValue := 0 }, { name := "tokenOffset", type := .long, accessFlags := 2, slot := 8, constantValue := 0 }, { name := "statementLine", type := .long, accessFlags := 2, slot := 9, constantValue := 0 }, { name := "statementOffset", type := .long, accessFlags := 2, slot := 10, constantValue := 0 }]
  methods := #[k2m0]
  instanceTypes := #[(.object "java/io/Reader"), (.array .char), .int, .int, .boolean, .long, .long, .long, .long, .long, .long]
  staticTypes := #[(.object "java/lang/String"), (.array (.object "java/lang/String")), (.object "java/util/List"), .int]
  resolved := Array.replicate 339 none
  statics := none }

def pool3 : Array CpInfo := pool [(1, u "java/lang/Cloneable"), (0, .class_ 1), (0, u "java/lang/Object"), (0, .class_ 3)] 3

/-- java/lang/Cloneable -/
def k3 : Class := { plain "java/lang/Cloneable" (some 0) with
  accessFlags := 1537
  interfaces := #[]
  cf := some (fileOf pool3 2 #[] #[] 1537 4 #[] #[])
  fields := #[]
  methods := #[]
  instanceTypes := #[]
  staticTypes := #[]
  resolved := Array.replicate 8 none
  statics := none }

def pool4 : Array CpInfo := pool [(1, u "java/io/Serializable"), (0, .class_ 1), (0, u "java/lang/Object"), (0, .class_ 3)] 3

/-- java/io/Serializable -/
def k4 : Class := { plain "java/io/Serializable" (some 0) with
  accessFlags := 1537
  interfaces := #[]
  cf := some (fileOf pool4 2 #[] #[] 1537 4 #[] #[])
  fields := #[]
  methods := #[]
  instanceTypes := #[]
  staticTypes := #[]
  resolved := Array.replicate 8 none
  statics := none }

/-- the primitive byte -/
def k5 : Class := { plain "byte" none with kind := .primitive 'B', accessFlags := 0x411 }
/-- [B -/
def k6 : Class := { plain "[B" (some 0) with kind := .array 5 .byte, interfaces := #[3, 4], accessFlags := 1041 }

def heap : Heap := #[]
def classes : Array Class := #[k0, k1, k2, k3, k4, k5, k6]
def interned : List (Array UInt16 × Addr) := []
def slotsUsed : Nat := 0
def theMethod : MethodId := ⟨1, 1⟩
def args0 : Array Value := #[.int 32]
def aboutOver (below : List Frame) : State where
  vm := { classes := classes, interned := interned.toArray }
  heap := heap
  slotsUsed := slotsUsed
  threads := #[{ frames := .invoking theMethod args0 :: below }]
def below0 : List Frame := [.native { method := ⟨0, 0⟩, args := #[] }]
def about1 : State := aboutOver below0
def p0 : Program := .bare "" "" ""
def e0 : Env := launch0.env 0 0 0
theorem w_frames : about1.frames = Frame.invoking theMethod args0 :: below0 := rfl
set_option maxRecDepth 65536 in
theorem w_args : argsFit about1.vm theMethod args0 = true := by decide +kernel
set_option maxRecDepth 65536 in
theorem w_heap : heapFits about1 = true := by decide +kernel
set_option maxRecDepth 65536 in
theorem w_runnable : about1.curStatus? = some .runnable := by decide +kernel
set_option maxRecDepth 65536 in
theorem w_alone : about1.alone = true := by decide +kernel
set_option maxRecDepth 65536 in
theorem w_named : about1.methodNamed? x = some theMethod := by decide +kernel
set_option maxRecDepth 65536 in
theorem w_hears : about1.hears theMethod below0 = true := by decide +kernel
set_option maxRecDepth 65536 in
theorem w_ripe : about1.ripe theMethod args0 below0 = true := by decide +kernel
theorem w_running : about1.status = .running := rfl
set_option maxRecDepth 65536 in
theorem w_room : about1.hasRoom e0.platform room_1 = true :=
  launch0.hasRoom_least _ room_1 (by decide +kernel) (by decide +kernel) (by decide +kernel) (by decide +kernel) (by decide +kernel) (by decide +kernel)
theorem allAtoms_all (ts : List Jvm.Cond) (a : Array Jvm.Value) (st : Jvm.State) : (allAtoms ts).before a st = ts.all (fun c => c.before a st) := by
  induction ts with
  | nil => rfl
  | cons c t ih =>
    show (Jvm.Cond.and c (allAtoms t)).before a st = _
    rw [Jvm.Cond.before_and, ih, List.all_cons]
def words1 : List Jvm.Cond := Jvm.Cond.code x code maxLocals ret :: tables_1
/-- a 'code' word, met by the world's own term for the bytes: nothing is compared byte by byte -/
theorem code_word {y : MethodName} {bytes : ByteArray} {mx : Nat} {rt : Option FieldType} {a : Array Value} {s : State} {m : MethodId} {meth : Method} {c : Code} (h1 : s.methodNamed? y = some m) (h2 : s.vm.method? m = some meth) (h3 : meth.code = some c) (h4 : c.code = bytes)
    (h5 : (c.maxLocals == mx && c.exceptionTable.isEmpty && decide (c.maxStack ≤ mostOperands) && decide (meth.sig.returnType = rt) && !meth.locks && decide (parseMethodDescriptor y.desc = some meth.sig)) = true) : (Jvm.Cond.code y bytes mx rt).before a s = true := by
  simp only [Bool.and_eq_true, beq_iff_eq, Bool.not_eq_true', decide_eq_true_eq] at h5
  obtain ⟨⟨⟨⟨⟨g1, g2⟩, g3⟩, g4⟩, g5⟩, g6⟩ := h5
  simp [Cond.before, Cond.holds, Cond.value, h1, h2, h3, h4, g1, g2, g3, g4, g5, g6]
def isCode : Jvm.Cond → Bool
  | .code _ _ _ _ => true
  | _ => false
theorem all_split {L : List Jvm.Cond} {P : Jvm.Cond → Bool} (h1 : L.all (fun c => isCode c || P c) = true) (h2 : ∀ c ∈ L.filter isCode, P c = true) : L.all P = true := by
  refine List.all_eq_true.mpr fun c hc => ?_
  have h := List.all_eq_true.mp h1 c hc
  rcases Bool.eq_false_or_eq_true (isCode c) with hi | hi
  · exact h2 c (List.mem_filter.mpr ⟨hc, hi⟩)
  · simpa [hi] using h
set_option maxRecDepth 65536 in
theorem w_c0 : (Jvm.Cond.code x code maxLocals ret).before args0 about1 = true := code_word (m := ⟨1, 1⟩) (meth := k1m1) (c := k1c1) (by decide +kernel) rfl rfl rfl (by decide +kernel)
set_option maxRecDepth 65536 in
theorem w_c1 : (Jvm.Cond.code ({ cls := "com/example/deft_txn/defttxn/Lexer", name := "isWhitespace", desc := "(I)Z" } : Jvm.MethodName) prog_58_method_4_code (1 : Nat) (Option.some Jvm.ClassFile.FieldType.boolean)).before args0 about1 = true := code_word (m := ⟨2, 0⟩) (meth := k2m0) (c := k2c0) (by decide +kernel) rfl rfl rfl (by decide +kernel)
def codes1 : List Jvm.Cond := [Jvm.Cond.code x code maxLocals ret, Jvm.Cond.code ({ cls := "com/example/deft_txn/defttxn/Lexer", name := "isWhitespace", desc := "(I)Z" } : Jvm.MethodName) prog_58_method_4_code (1 : Nat) (Option.some Jvm.ClassFile.FieldType.boolean)]
set_option maxRecDepth 65536 in
theorem codes_eq : words1.filter isCode = codes1 := rfl
theorem w_codes : ∀ c ∈ words1.filter isCode, c.before args0 about1 = true := by
  rw [codes_eq]
  intro c hc
  simp only [codes1, List.mem_cons, List.not_mem_nil, or_false] at hc
  rcases hc with rfl | rfl
  · exact w_c0
  · exact w_c1
set_option maxRecDepth 65536 in
theorem w_t1 : words1.all (fun c => isCode c || c.before args0 about1) = true := by decide +kernel
theorem w_tables : (allAtoms (Jvm.Cond.code x code maxLocals ret :: tables_1)).before args0 about1 = true := by
  rw [allAtoms_all]
  show words1.all (fun c => c.before args0 about1) = true
  refine all_split ?_ w_codes
  rw [w_t1]
set_option maxRecDepth 65536 in
theorem w_case : (Jvm.Cond.and given_1 narrow_1).before args0 about1 = true := by decide +kernel
theorem w_applies : (headSpec (Jvm.Cond.code x code maxLocals ret :: tables_1) room_1).applies x e0.platform about1 = true :=
  (Spec.applies_iff w_frames).mpr ⟨w_running, w_runnable, w_alone, w_named, w_hears, w_ripe, w_room, w_tables⟩
theorem atStart : AtStart classFile x code maxLocals ret World_1 tables_1 room_1 Calls_1 rest_1 Pre_1 launch0 p0 e0 about1 theMethod args0 below0 :=
  ⟨lists_1, trivial, launch0.admits_env _ _ _, launch0.least_env, fairChoices_fair.cas, fairChoices_fair.clock, w_frames, w_args, w_heap, w_applies, trivial, trivial, w_case⟩
end start1
theorem witness_1 : WitnessClaimed_1 := ⟨start1.p0, start1.e0, start1.about1, start1.theMethod, start1.args0, start1.below0, start1.atStart⟩
end Jvm.Pilot.@@N@@
